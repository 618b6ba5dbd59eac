import PyProof.Rows.All
import Wide.All
import OpenK.AllK
import Wide.FinOn
import PySem.Challenge.RW_rs0014_01
set_option Elab.async false
section
open PySem PySem.Spec PySem.Calls PyProof.Rows PySem.W
set_option maxRecDepth 100000
set_option linter.unusedVariables false
namespace Mine

/-! heaps that grow -/
def Gr (h h' : Heap) : Prop := ∀ b o, h.get? b = some o → h'.get? b = some o
theorem Gr.refl (h : Heap) : Gr h h := fun _ _ e => e
theorem Gr.trans {a b c : Heap} (x : Gr a b) (y : Gr b c) : Gr a c := fun p o e => y p o (x p o e)
theorem Gr.push (h : Heap) (o : Obj) : Gr h (h.push o) := fun _ _ e => Heap.get?_push_of_some _ e
theorem kRefl (s : Shared) : Keeps s s := ⟨s.heap, s.toks, rfl, fun _ _ e => e⟩
theorem kTrans {a b c : Shared} (x : Keeps a b) (y : Keeps b c) : Keeps a c := by
  obtain ⟨h, t, rfl, k⟩ := x
  obtain ⟨h', t', rfl, k'⟩ := y
  exact ⟨h', t', rfl, fun p o e => k' p o (k p o e)⟩
theorem kGr {s s' : Shared} (x : Keeps s s') : Gr s.heap s'.heap := by obtain ⟨h, t, rfl, k⟩ := x; exact k
theorem kMk {s : Shared} {h : Heap} {t : Nat} (k : Gr s.heap h) : Keeps s { s with heap := h, toks := t } := ⟨h, t, rfl, k⟩
theorem kTok {s : Shared} {t : Nat} : Keeps s { s with toks := t } := ⟨s.heap, t, rfl, fun _ _ e => e⟩
theorem kPush {s : Shared} {o : Obj} : Keeps s { s with heap := s.heap.push o } := ⟨_, s.toks, rfl, fun _ _ e => Heap.get?_push_of_some _ e⟩

/-! what a heap holds away from the addresses that may change -/
abbrev fz (W : List Addr) (h : Heap) : Heap := hideAll h W
theorem fz_get {W : List Addr} {h : Heap} {b : Addr} {o : Obj} (e : (fz W h).get? b = some o) : h.get? b = some o ∧ b ∉ W :=
  ⟨of_hideAll W e, fun m => by rw [hideAll_none W m] at e; cases e⟩
theorem fz_sub (W : List Addr) (h : Heap) : Gr (fz W h) h := fun _ _ e => (fz_get e).1
theorem fz_gr {W : List Addr} {h h' : Heap} (x : Gr h h') : Gr (fz W h) (fz W h') := fun b o e => hideAll_get W (x b o (fz_get e).1) (fz_get e).2
theorem fz_more {W W' : List Addr} {h h' : Heap} (hw : ∀ b ∈ W', b ∈ W ∨ h.get? b = none) (x : ∀ b o, b ∉ W → h.get? b = some o → h'.get? b = some o) : Gr (fz W h) (fz W' h') := fun b o e => by
  obtain ⟨e1, e2⟩ := fz_get e
  refine hideAll_get W' (x b o e2 e1) fun m => ?_
  rcases hw b m with q | q
  · exact e2 q
  · rw [q] at e1; cases e1
theorem fz_less {W W' : List Addr} (h : Heap) (hw : ∀ b ∈ W, b ∈ W') : Gr (fz W' h) (fz W h) := fun _ _ e => hideAll_get W (fz_get e).1 fun m => (fz_get e).2 (hw _ m)
theorem fz_at {W : List Addr} {h : Heap} {b : Addr} {o : Obj} (e : h.get? b = some o) (n : b ∉ W) : (fz W h).get? b = some o := hideAll_get W e n

/-! a value and the data it stands for -/
def Den (h : Heap) (v : Value) (d : PyData) : Prop := ∃ as, Reads h v d as
def Dens (h : Heap) (vs : List Value) (ds : List PyData) : Prop := ∃ as, ReadsAll h vs ds as
theorem Den.mono {h h' : Heap} {v : Value} {d : PyData} (x : Den h v d) (g : Gr h h') : Den h' v d := let ⟨as, r⟩ := x; ⟨as, Reads.keeps g r⟩
theorem Dens.mono {h h' : Heap} {vs : List Value} {ds : List PyData} (x : Dens h vs ds) (g : Gr h h') : Dens h' vs ds := let ⟨as, r⟩ := x; ⟨as, ReadsAll.keeps g r⟩
theorem Den.int (h : Heap) (i : Int) (t : Tok) : Den h (.int i t) (.int i) := ⟨_, .int i t⟩
theorem Den.str (h : Heap) (x : Str) (t : Tok) : Den h (.str x t) (.str x) := ⟨_, .str x t⟩
theorem Den.bool (h : Heap) (b : Bool) : Den h (.bool b) (.bool b) := ⟨_, .bool b⟩
theorem Den.none (h : Heap) : Den h .none .none := ⟨_, .none⟩
theorem Den.isInt {h : Heap} {v : Value} {i : Int} (x : Den h v (.int i)) : ∃ t, v = .int i t := by obtain ⟨_, r⟩ := x; cases r; exact ⟨_, rfl⟩
theorem Den.isStr {h : Heap} {v : Value} {i : Str} (x : Den h v (.str i)) : ∃ t, v = .str i t := by obtain ⟨_, r⟩ := x; cases r; exact ⟨_, rfl⟩
theorem Den.isBool {h : Heap} {v : Value} {i : Bool} (x : Den h v (.bool i)) : v = .bool i := by obtain ⟨_, r⟩ := x; cases r; rfl
theorem Den.isNone {h : Heap} {v : Value} (x : Den h v .none) : v = .none := by obtain ⟨_, r⟩ := x; cases r; rfl
theorem Dens.nil (h : Heap) : Dens h [] [] := ⟨[], .nil⟩
theorem Dens.cons {h : Heap} {v : Value} {vs : List Value} {d : PyData} {ds : List PyData} (x : Den h v d) (y : Dens h vs ds) : Dens h (v :: vs) (d :: ds) := let ⟨_, r⟩ := x; let ⟨_, q⟩ := y; ⟨_, .cons r q⟩
theorem Dens.inv {h : Heap} {vs : List Value} {d : PyData} {ds : List PyData} (x : Dens h vs (d :: ds)) : ∃ v vs', vs = v :: vs' ∧ Den h v d ∧ Dens h vs' ds := by
  obtain ⟨_, r⟩ := x; cases r with | cons a b => exact ⟨_, _, rfl, ⟨_, a⟩, ⟨_, b⟩⟩
theorem Dens.inv' {h : Heap} {v : Value} {vs : List Value} {ds : List PyData} (x : Dens h (v :: vs) ds) : ∃ d ds', ds = d :: ds' ∧ Den h v d ∧ Dens h vs ds' := by
  obtain ⟨_, r⟩ := x; cases r with | cons a b => exact ⟨_, _, rfl, ⟨_, a⟩, ⟨_, b⟩⟩
theorem Dens.inv0 {h : Heap} {vs : List Value} (x : Dens h vs []) : vs = [] := by obtain ⟨_, r⟩ := x; cases r; rfl
theorem Dens.length {h : Heap} : ∀ {vs : List Value} {ds : List PyData}, Dens h vs ds → vs.length = ds.length
  | vs, [], x => by rw [x.inv0]; rfl
  | vs, d :: ds, x => by obtain ⟨v, vs', rfl, _, y⟩ := x.inv; simp [Dens.length y]
theorem Dens.append {h : Heap} : ∀ {vs us : List Value} {ds es : List PyData}, Dens h vs ds → Dens h us es → Dens h (vs ++ us) (ds ++ es)
  | vs, us, [], es, x, y => by rw [x.inv0]; exact y
  | vs, us, d :: ds, es, x, y => by obtain ⟨v, vs', rfl, a, b⟩ := x.inv; exact .cons a (Dens.append b y)
theorem Dens.get {h : Heap} : ∀ {vs : List Value} {ds : List PyData}, Dens h vs ds → ∀ {i : Nat} {d : PyData}, ds[i]? = some d → ∃ v, vs[i]? = some v ∧ Den h v d
  | vs, [], _, i, d, e => by simp at e
  | vs, d :: ds, x, 0, e, q => by obtain ⟨v, vs', rfl, a, _⟩ := x.inv; simp at q; subst q; exact ⟨v, rfl, a⟩
  | vs, d :: ds, x, i + 1, e, q => by obtain ⟨v, vs', rfl, _, b⟩ := x.inv; simpa using Dens.get b (by simpa using q)
theorem Dens.take {h : Heap} : ∀ {vs : List Value} {ds : List PyData}, Dens h vs ds → ∀ n, Dens h (vs.take n) (ds.take n)
  | vs, ds, _, 0 => by simpa using Dens.nil h
  | vs, [], x, n + 1 => by rw [x.inv0]; simpa using Dens.nil h
  | vs, d :: ds, x, n + 1 => by obtain ⟨v, vs', rfl, a, b⟩ := x.inv; exact .cons a (Dens.take b n)
theorem Dens.drop {h : Heap} : ∀ {vs : List Value} {ds : List PyData}, Dens h vs ds → ∀ n, Dens h (vs.drop n) (ds.drop n)
  | vs, ds, x, 0 => by simpa using x
  | vs, [], x, n + 1 => by rw [x.inv0]; simpa using Dens.nil h
  | vs, d :: ds, x, n + 1 => by obtain ⟨v, vs', rfl, _, b⟩ := x.inv; simpa using Dens.drop b n
theorem Den.isList {h : Heap} {v : Value} {ds : List PyData} (x : Den h v (.list ds)) : ∃ a vs, v = .ref a ∧ h.IsList a vs.toArray ∧ Dens h vs ds := by
  obtain ⟨_, r⟩ := x
  cases r with
  | @list a o vs n xs as e c d r => exact ⟨a, vs.toList, rfl, ⟨o, e, c, n, by simpa using d⟩, ⟨_, r⟩⟩
theorem Den.isTuple {h : Heap} {v : Value} {ds : List PyData} (x : Den h v (.tuple ds)) : ∃ a vs, v = .ref a ∧ h.IsTuple a vs.toArray ∧ Dens h vs ds := by
  obtain ⟨_, r⟩ := x
  cases r with
  | @tuple a o vs n xs as e c d r => exact ⟨a, vs.toList, rfl, ⟨o, e, c, n, by simpa using d⟩, ⟨_, r⟩⟩
theorem Den.list {h : Heap} {a : Addr} {vs : List Value} {ds : List PyData} (x : h.IsList a vs.toArray) (y : Dens h vs ds) : Den h (.ref a) (.list ds) := by
  obtain ⟨o, e, c, n, d⟩ := x
  obtain ⟨_, r⟩ := y
  exact ⟨_, .list e c d r⟩
theorem Den.tuple {h : Heap} {a : Addr} {vs : List Value} {ds : List PyData} (x : h.IsTuple a vs.toArray) (y : Dens h vs ds) : Den h (.ref a) (.tuple ds) := by
  obtain ⟨o, e, c, n, d⟩ := x
  obtain ⟨_, r⟩ := y
  exact ⟨_, .tuple e c d r⟩

/-! the addresses that may change stand in the heap -/
def Ex (W : List Addr) (h : Heap) : Prop := ∀ b ∈ W, ∃ o, h.get? b = some o
theorem Ex.mono {W : List Addr} {h h' : Heap} (x : Ex W h) (g : Gr h h') : Ex W h' := fun b m => let ⟨o, e⟩ := x b m; ⟨o, g b o e⟩
theorem Ex.fresh {W : List Addr} {h : Heap} (x : Ex W h) : h.objs.size ∉ W := fun m => let ⟨_, e⟩ := x _ m; Nat.lt_irrefl _ (Heap.lt_size e)
theorem Ex.above {W : List Addr} {h : Heap} (x : Ex W h) {a : Addr} (l : h.objs.size ≤ a) : a ∉ W := fun m => let ⟨_, e⟩ := x _ m; absurd (Heap.lt_size e) (Nat.not_lt.mpr l)

theorem Den.newList {W : List Addr} {h : Heap} {vs : List Value} {ds : List PyData} {n : Nat} (x : Ex W h) (y : Dens (fz W h) vs ds) : Den (fz W (h.push { cls := .type "list", data := .seq vs.toArray n })) (.ref h.objs.size) (.list ds) :=
  .list ⟨_, fz_at (Heap.get?_push_size _ rfl) x.fresh, rfl, n, rfl⟩ (y.mono (fz_gr (Gr.push _ _)))
theorem Den.newTuple {W : List Addr} {h : Heap} {vs : List Value} {ds : List PyData} {n : Nat} (x : Ex W h) (y : Dens (fz W h) vs ds) : Den (fz W (h.push { cls := .type "tuple", data := .seq vs.toArray n })) (.ref h.objs.size) (.tuple ds) :=
  .tuple ⟨_, fz_at (Heap.get?_push_size _ rfl) x.fresh, rfl, n, rfl⟩ (y.mono (fz_gr (Gr.push _ _)))

/-! what a tree does from every state that has kept s₀ -/
section
variable {prog : Program} {w : World} {A : Around} {α β : Type} {s₀ : Shared}
structure Do (prog : Program) (w : World) (A : Around) (s₀ : Shared) (t : Sem α) (P : α → Shared → Prop) : Prop where
  run : ∀ (E : Value → Shared → Prop) (s : Shared), Keeps s₀ s → wpAny (model prog w) A t (fun v s' => Keeps s s' ∧ P v s') E s
theorem Do.nest {t : Sem α} {P : α → Shared → Prop} (h : Do prog w A s₀ t P) {E : Value → Shared → Prop} {s : Shared} {Q : α → Shared → Prop} (k : Keeps s₀ s) (f : ∀ a s₁, Keeps s s₁ → P a s₁ → Q a s₁) : wpAny (model prog w) A t Q E s :=
  wpAny_mono (h.run E s k) (fun a s₁ x => f a s₁ x.1 x.2) fun _ _ x => x
theorem Do.later {t : Sem α} {P : α → Shared → Prop} (h : Do prog w A s₀ t P) {s₁ : Shared} (k : Keeps s₀ s₁) : Do prog w A s₁ t P := .mk fun E s k' => h.run E s (kTrans k k')
theorem Do.mono {t : Sem α} {P P' : α → Shared → Prop} (h : Do prog w A s₀ t P) (f : ∀ a s, Keeps s₀ s → P a s → P' a s) : Do prog w A s₀ t P' := .mk fun E s k => h.nest k fun a s₁ k₁ p => ⟨k₁, f a s₁ (kTrans k k₁) p⟩
theorem Do.pure {a : α} {P : α → Shared → Prop} (h : ∀ s, Keeps s₀ s → P a s) : Do prog w A s₀ (Pure.pure a) P := .mk fun _ s k => wpAny_pure ⟨kRefl s, h s k⟩

/-- an expression stands for a datum -/
abbrev Ev (prog : Program) (w : World) (A : Around) (W : List Addr) (s₀ : Shared) (t : Sem Value) (d : PyData) : Prop := Do prog w A s₀ t (fun v s' => Den (fz W s'.heap) v d)

variable {W : List Addr} {env : Env}
theorem ev_int {i : Int} {k : Nat} {pos : Pos} : Ev prog w A W s₀ (eval (.Constant (.int i) k pos) env) (.int i) := .mk fun _ _ _ => wpAny_Constant_int ⟨kTok, Den.int ..⟩
theorem ev_str {x : Str} {k : Nat} {pos : Pos} : Ev prog w A W s₀ (eval (.Constant (.str x) k pos) env) (.str x) := .mk fun _ _ _ => Constant_str ⟨kTok, Den.str ..⟩
theorem ev_none {k : Nat} {pos : Pos} : Ev prog w A W s₀ (eval (.Constant .none k pos) env) .none := .mk fun _ _ _ => wpAny_Constant_none ⟨kRefl _, Den.none _⟩
theorem ev_bool {b : Bool} {k : Nat} {pos : Pos} : Ev prog w A W s₀ (eval (.Constant (.bool b) k pos) env) (.bool b) := .mk fun _ _ _ => wpAny_Constant_bool ⟨kRefl _, Den.bool ..⟩

theorem ev_bin {l r : Expr} {op : Operator} {pos : Pos} {dl dr d : PyData} (hl : Ev prog w A W s₀ (eval l env) dl) (hr : Ev prog w A W s₀ (eval r env) dr)
    (ho : ∀ a b s₂, Keeps s₀ s₂ → Den (fz W s₂.heap) a dl → Den (fz W s₂.heap) b dr → Ev prog w A W s₂ (binaryOp op a b) d) : Ev prog w A W s₀ (eval (.BinOp l op r pos) env) d := .mk fun _ _ k =>
  wpAny_BinOp (hl.nest k fun a _ k₁ pa => hr.nest (kTrans k k₁) fun b s₂ k₂ pb => (ho a b s₂ (kTrans k (kTrans k₁ k₂)) (pa.mono (fz_gr (kGr k₂))) pb).nest (kRefl _) fun _ _ k₃ pv => ⟨kTrans k₁ (kTrans k₂ k₃), pv⟩)
theorem ev_cmp {l r : Expr} {op : CmpOp} {pos : Pos} {dl dr d : PyData} (hl : Ev prog w A W s₀ (eval l env) dl) (hr : Ev prog w A W s₀ (eval r env) dr)
    (ho : ∀ a b s₂, Keeps s₀ s₂ → Den (fz W s₂.heap) a dl → Den (fz W s₂.heap) b dr → Ev prog w A W s₂ (compareOp op a b) d) (hm : behindInMarks op r = false := by rfl) : Ev prog w A W s₀ (eval (.Compare l [op] [r] pos) env) d := .mk fun _ _ k =>
  wpAny_Compare1 (hl.nest k fun a _ k₁ pa => hr.nest (kTrans k k₁) fun b s₂ k₂ pb => (ho a b s₂ (kTrans k (kTrans k₁ k₂)) (pa.mono (fz_gr (kGr k₂))) pb).nest (kRefl _) fun _ _ k₃ pv => ⟨kTrans k₁ (kTrans k₂ k₃), pv⟩) hm

theorem ev_add {l r : Expr} {pos : Pos} {a b : Int} (hl : Ev prog w A W s₀ (eval l env) (.int a)) (hr : Ev prog w A W s₀ (eval r env) (.int b)) : Ev prog w A W s₀ (eval (.BinOp l .Add r pos) env) (.int (a + b)) :=
  ev_bin hl hr fun _ _ _ _ pa pb => by obtain ⟨_, rfl⟩ := pa.isInt; obtain ⟨_, rfl⟩ := pb.isInt; exact .mk fun _ _ _ => add_int ⟨kTok, Den.int ..⟩
theorem ev_sub {l r : Expr} {pos : Pos} {a b : Int} (hl : Ev prog w A W s₀ (eval l env) (.int a)) (hr : Ev prog w A W s₀ (eval r env) (.int b)) : Ev prog w A W s₀ (eval (.BinOp l .Sub r pos) env) (.int (a - b)) :=
  ev_bin hl hr fun _ _ _ _ pa pb => by obtain ⟨_, rfl⟩ := pa.isInt; obtain ⟨_, rfl⟩ := pb.isInt; exact .mk fun _ _ _ => PyProof.Rows.sub_int ⟨kTok, Den.int ..⟩
theorem ev_mul {l r : Expr} {pos : Pos} {a b : Int} (hl : Ev prog w A W s₀ (eval l env) (.int a)) (hr : Ev prog w A W s₀ (eval r env) (.int b)) (hm : IntMulOk a b) : Ev prog w A W s₀ (eval (.BinOp l .Mult r pos) env) (.int (a * b)) :=
  ev_bin hl hr fun _ _ _ _ pa pb => by obtain ⟨_, rfl⟩ := pa.isInt; obtain ⟨_, rfl⟩ := pb.isInt; exact .mk fun _ _ _ => PyProof.Rows.mul_int ⟨kTok, Den.int ..⟩ hm
theorem ev_mod {l r : Expr} {pos : Pos} {a b : Int} (hl : Ev prog w A W s₀ (eval l env) (.int a)) (hr : Ev prog w A W s₀ (eval r env) (.int b)) (hb : b ≠ 0) : Ev prog w A W s₀ (eval (.BinOp l .Mod r pos) env) (.int (a.fmod b)) :=
  ev_bin hl hr fun _ _ _ _ pa pb => by obtain ⟨_, rfl⟩ := pa.isInt; obtain ⟨_, rfl⟩ := pb.isInt; exact .mk fun _ _ _ => mod_int' hb ⟨kTok, Den.int ..⟩
theorem ev_div {l r : Expr} {pos : Pos} {a b : Int} (hl : Ev prog w A W s₀ (eval l env) (.int a)) (hr : Ev prog w A W s₀ (eval r env) (.int b)) (hb : b ≠ 0) (hp : Builtin.divisionGoesByPylong a b = false) : Ev prog w A W s₀ (eval (.BinOp l .FloorDiv r pos) env) (.int (a.fdiv b)) :=
  ev_bin hl hr fun _ _ _ _ pa pb => by obtain ⟨_, rfl⟩ := pa.isInt; obtain ⟨_, rfl⟩ := pb.isInt; exact .mk fun _ _ _ => floordiv_int hb ⟨kTok, Den.int ..⟩ (.inl hp)
theorem ev_cat {l r : Expr} {pos : Pos} {a b : Str} (hl : Ev prog w A W s₀ (eval l env) (.str a)) (hr : Ev prog w A W s₀ (eval r env) (.str b)) (hz : a.length + b.length ≤ sizeLine) : Ev prog w A W s₀ (eval (.BinOp l .Add r pos) env) (.str (a ++ b)) :=
  ev_bin hl hr fun _ _ _ _ pa pb => by obtain ⟨_, rfl⟩ := pa.isStr; obtain ⟨_, rfl⟩ := pb.isStr; exact .mk fun _ _ _ => PyProof.Rows.add_str (fun _ _ => ⟨kTok, Den.str ..⟩) hz
theorem ev_neg {e : Expr} {pos : Pos} {a : Int} (hl : Ev prog w A W s₀ (eval e env) (.int a)) : Ev prog w A W s₀ (eval (.UnaryOp .USub e pos) env) (.int (-a)) := .mk fun _ _ k =>
  wpAny_UnaryOp (hl.nest k fun _ _ k₁ pa => by obtain ⟨_, rfl⟩ := pa.isInt; exact PyProof.Rows.neg_int ⟨kTrans k₁ kTok, Den.int ..⟩)
theorem ev_lt {l r : Expr} {pos : Pos} {a b : Int} (hl : Ev prog w A W s₀ (eval l env) (.int a)) (hr : Ev prog w A W s₀ (eval r env) (.int b)) (hm : behindInMarks .Lt r = false := by rfl) : Ev prog w A W s₀ (eval (.Compare l [.Lt] [r] pos) env) (.bool (decide (a < b))) :=
  ev_cmp hl hr (fun _ _ _ _ pa pb => by obtain ⟨_, rfl⟩ := pa.isInt; obtain ⟨_, rfl⟩ := pb.isInt; exact .mk fun _ _ _ => PyProof.Rows.lt_int ⟨kRefl _, Den.bool ..⟩) hm
theorem ev_le {l r : Expr} {pos : Pos} {a b : Int} (hl : Ev prog w A W s₀ (eval l env) (.int a)) (hr : Ev prog w A W s₀ (eval r env) (.int b)) (hm : behindInMarks .LtE r = false := by rfl) : Ev prog w A W s₀ (eval (.Compare l [.LtE] [r] pos) env) (.bool (decide (a ≤ b))) :=
  ev_cmp hl hr (fun _ _ _ _ pa pb => by obtain ⟨_, rfl⟩ := pa.isInt; obtain ⟨_, rfl⟩ := pb.isInt; exact .mk fun _ _ _ => PyProof.Rows.le_int ⟨kRefl _, Den.bool ..⟩) hm
theorem ev_gt {l r : Expr} {pos : Pos} {a b : Int} (hl : Ev prog w A W s₀ (eval l env) (.int a)) (hr : Ev prog w A W s₀ (eval r env) (.int b)) (hm : behindInMarks .Gt r = false := by rfl) : Ev prog w A W s₀ (eval (.Compare l [.Gt] [r] pos) env) (.bool (decide (b < a))) :=
  ev_cmp hl hr (fun _ _ _ _ pa pb => by obtain ⟨_, rfl⟩ := pa.isInt; obtain ⟨_, rfl⟩ := pb.isInt; exact .mk fun _ _ _ => PyProof.Rows.gt_int ⟨kRefl _, Den.bool ..⟩) hm
theorem ev_ge {l r : Expr} {pos : Pos} {a b : Int} (hl : Ev prog w A W s₀ (eval l env) (.int a)) (hr : Ev prog w A W s₀ (eval r env) (.int b)) (hm : behindInMarks .GtE r = false := by rfl) : Ev prog w A W s₀ (eval (.Compare l [.GtE] [r] pos) env) (.bool (decide (b ≤ a))) :=
  ev_cmp hl hr (fun _ _ _ _ pa pb => by obtain ⟨_, rfl⟩ := pa.isInt; obtain ⟨_, rfl⟩ := pb.isInt; exact .mk fun _ _ _ => PyProof.Rows.ge_int ⟨kRefl _, Den.bool ..⟩) hm
theorem ev_eq {l r : Expr} {pos : Pos} {a b : Int} (hl : Ev prog w A W s₀ (eval l env) (.int a)) (hr : Ev prog w A W s₀ (eval r env) (.int b)) (hm : behindInMarks .Eq r = false := by rfl) : Ev prog w A W s₀ (eval (.Compare l [.Eq] [r] pos) env) (.bool (a == b)) :=
  ev_cmp hl hr (fun _ _ _ _ pa pb => by obtain ⟨_, rfl⟩ := pa.isInt; obtain ⟨_, rfl⟩ := pb.isInt; exact .mk fun _ _ _ => PyProof.Rows.eq_int ⟨kRefl _, Den.bool ..⟩) hm
theorem ev_ne {l r : Expr} {pos : Pos} {a b : Int} (hl : Ev prog w A W s₀ (eval l env) (.int a)) (hr : Ev prog w A W s₀ (eval r env) (.int b)) (hm : behindInMarks .NotEq r = false := by rfl) : Ev prog w A W s₀ (eval (.Compare l [.NotEq] [r] pos) env) (.bool (a != b)) :=
  ev_cmp hl hr (fun _ _ _ _ pa pb => by obtain ⟨_, rfl⟩ := pa.isInt; obtain ⟨_, rfl⟩ := pb.isInt; exact .mk fun _ _ _ => PyProof.Rows.ne_int ⟨kRefl _, Den.bool ..⟩) hm
theorem ev_eqS {l r : Expr} {pos : Pos} {a b : Str} (hl : Ev prog w A W s₀ (eval l env) (.str a)) (hr : Ev prog w A W s₀ (eval r env) (.str b)) (hm : behindInMarks .Eq r = false := by rfl) : Ev prog w A W s₀ (eval (.Compare l [.Eq] [r] pos) env) (.bool (a == b)) :=
  ev_cmp hl hr (fun _ _ _ _ pa pb => by obtain ⟨_, rfl⟩ := pa.isStr; obtain ⟨_, rfl⟩ := pb.isStr; exact .mk fun _ _ _ => PyProof.Rows.eq_str ⟨kRefl _, Den.bool ..⟩) hm
theorem ev_neS {l r : Expr} {pos : Pos} {a b : Str} (hl : Ev prog w A W s₀ (eval l env) (.str a)) (hr : Ev prog w A W s₀ (eval r env) (.str b)) (hm : behindInMarks .NotEq r = false := by rfl) : Ev prog w A W s₀ (eval (.Compare l [.NotEq] [r] pos) env) (.bool (a != b)) :=
  ev_cmp hl hr (fun _ _ _ _ pa pb => by obtain ⟨_, rfl⟩ := pa.isStr; obtain ⟨_, rfl⟩ := pb.isStr; exact .mk fun _ _ _ => PyProof.Rows.ne_str ⟨kRefl _, Den.bool ..⟩) hm
end
end Mine
end
section
open PySem PySem.Spec PySem.Calls PyProof.Rows PySem.W
set_option maxRecDepth 100000
set_option linter.unusedVariables false
namespace Mine

/-! a run that turns nothing but the addresses W -/
def Mv (W : List Addr) (s s' : Shared) : Prop := ∃ h' tk, s' = { s with heap := h', toks := tk } ∧ (∀ b o, b ∉ W → s.heap.get? b = some o → h'.get? b = some o) ∧ (∀ b, (∃ o, s.heap.get? b = some o) → ∃ o, h'.get? b = some o)
theorem Mv.of {W : List Addr} {s s' : Shared} (k : Keeps s s') : Mv W s s' := by
  obtain ⟨h, t, rfl, k⟩ := k
  exact ⟨h, t, rfl, fun b o _ e => k b o e, fun b ⟨o, e⟩ => ⟨o, k b o e⟩⟩
theorem Mv.refl (W : List Addr) (s : Shared) : Mv W s s := .of (kRefl s)
theorem Mv.trans {W : List Addr} {a b c : Shared} (x : Mv W a b) (y : Mv W b c) : Mv W a c := by
  obtain ⟨h, t, rfl, k, l⟩ := x
  obtain ⟨h', t', rfl, k', l'⟩ := y
  exact ⟨h', t', rfl, fun p o n e => k' p o n (k p o n e), fun p e => l' p (l p e)⟩
theorem Mv.gr {W : List Addr} {s s' : Shared} (x : Mv W s s') : Gr (fz W s.heap) (fz W s'.heap) := by
  obtain ⟨h, t, rfl, k, l⟩ := x
  exact fz_more (fun b m => .inl m) k
theorem Mv.ex {W V : List Addr} {s s' : Shared} (x : Mv W s s') (e : Ex V s.heap) : Ex V s'.heap := by
  obtain ⟨h, t, rfl, k, l⟩ := x
  exact fun b m => l b (e b m)
theorem Mv.wide {W V : List Addr} {s s' : Shared} (x : Mv W s s') (h : ∀ b ∈ W, b ∈ V) : Mv V s s' := by
  obtain ⟨h', t, rfl, k, l⟩ := x
  exact ⟨h', t, rfl, fun b o n e => k b o (fun m => n (h b m)) e, l⟩
/-- what stood before and is not W stands -/
theorem Mv.at {W : List Addr} {s s' : Shared} (x : Mv W s s') {b : Addr} {o : Obj} (n : b ∉ W) (e : s.heap.get? b = some o) : s'.heap.get? b = some o := by
  obtain ⟨h, t, rfl, k, l⟩ := x
  exact k b o n e
theorem Mv.but {W : List Addr} {s : Shared} {a : Addr} {h' : Heap} {t : Nat} (m : a ∈ W) (hs : Heap.SameBut a s.heap h') (ha : ∃ o, h'.get? a = some o) : Mv W s { s with heap := h', toks := t } :=
  ⟨h', t, rfl, fun b o n e => (hs.2 b (fun q => n (q ▸ m))).trans e, fun b ⟨o, e⟩ => by
    by_cases q : b = a
    · rw [q]; exact ha
    · exact ⟨o, (hs.2 b q).trans e⟩⟩
/-- new addresses may be dropped from W at the end -/
theorem Mv.keeps {W V : List Addr} {s s' : Shared} (x : Mv V s s') (h : ∀ b ∈ V, b ∈ W ∨ s.heap.get? b = none) : Mv W s s' := by
  obtain ⟨h', t, rfl, k, l⟩ := x
  refine ⟨h', t, rfl, fun b o n e => k b o (fun m => ?_) e, l⟩
  rcases h b m with q | q
  · exact n q
  · rw [q] at e; cases e
theorem Mv.toKeeps {V : List Addr} {s s' : Shared} (x : Mv V s s') (h : ∀ b ∈ V, s.heap.get? b = none) : Keeps s s' := by
  obtain ⟨h', t, rfl, k, l⟩ := x
  exact ⟨h', t, rfl, fun b o e => k b o (fun m => by rw [h b m] at e; cases e) e⟩

structure EnvOk (env : Env) (W : List Addr) : Prop where
  kind : env.scope.kind = .function
  loc : env.locals ∈ W
  cell : ∀ x c, env.cells.lookup x = some c → c ∈ W
  apart : ∀ x y c, env.cells.lookup x = some c → env.cells.lookup y = some c → x = y
  ne : ∀ x c, env.cells.lookup x = some c → c ≠ env.locals
def Var (env : Env) (m : Str → Option Value) (h : Heap) (x : Str) (v : Value) : Prop :=
  (env.kindOf x = some .local ∧ m x = some v) ∨ ((env.kindOf x = some .cell ∨ env.kindOf x = some .free) ∧ ∃ c, env.cells.lookup x = some c ∧ h.IsCell c (some v))
/-- a list that a name holds and that may be turned -/
def Lst (W : List Addr) (h : Heap) (a : Addr) (ds : List PyData) : Prop := a ∈ W ∧ ∃ vs, PlainL h a vs.toArray ∧ Dens (fz W h) vs ds
abbrev Sig := List (Str × PyData)
abbrev Rho := List (Str × Addr × List PyData)
structure StM (env : Env) (W : List Addr) (m : Str → Option Value) (σ : Sig) (ρ : Rho) (s : Shared) : Prop where
  ns : s.heap.Ns env.locals m
  cells : ∀ x c, env.cells.lookup x = some c → ∃ v, s.heap.IsCell c v
  ex : Ex W s.heap
  vars : ∀ x d, σ.lookup x = some d → ∃ v, Var env m s.heap x v ∧ Den (fz W s.heap) v d
  muts : ∀ x a ds, ρ.lookup x = some (a, ds) → Var env m s.heap x (.ref a) ∧ Lst W s.heap a ds
def St (env : Env) (W : List Addr) (σ : Sig) (ρ : Rho) (s : Shared) : Prop := ∃ m, StM env W m σ ρ s
theorem Var.keeps {env : Env} {m : Str → Option Value} {h h' : Heap} {x : Str} {v : Value} (y : Var env m h x v) (g : Gr h h') : Var env m h' x v := by
  rcases y with q | ⟨k, c, l, i⟩
  · exact .inl q
  · exact .inr ⟨k, c, l, i.keeps g⟩
theorem Lst.keeps {W : List Addr} {h h' : Heap} {a : Addr} {ds : List PyData} (x : Lst W h a ds) (g : Gr h h') : Lst W h' a ds := let ⟨m, vs, i, d⟩ := x; ⟨m, vs, i.at fun o e => g _ o e, d.mono (fz_gr g)⟩
section
variable {env : Env} {W W' V : List Addr} {σ σ' : Sig} {ρ ρ' : Rho} {s s' : Shared}
theorem St.ex (x : St env W σ ρ s) : Ex W s.heap := let ⟨_, y⟩ := x; y.ex
theorem St.keeps (x : St env W σ ρ s) (k : Keeps s s') : St env W σ ρ s' := by
  obtain ⟨m, x⟩ := x
  have g := kGr k
  exact ⟨m, x.ns.keeps g, fun y c l => let ⟨v, i⟩ := x.cells y c l; ⟨v, i.keeps g⟩, x.ex.mono g, fun y d l => let ⟨v, a, b⟩ := x.vars y d l; ⟨v, a.keeps g, b.mono (fz_gr g)⟩, fun y a ds l => let ⟨p, q⟩ := x.muts y a ds l; ⟨p.keeps g, q.keeps g⟩⟩
theorem St.less (x : St env W σ ρ s) (h : ∀ y d, σ'.lookup y = some d → σ.lookup y = some d) (h' : ∀ y d, ρ'.lookup y = some d → ρ.lookup y = some d) : St env W σ' ρ' s := by
  obtain ⟨m, x⟩ := x
  exact ⟨m, x.ns, x.cells, x.ex, fun y d l => x.vars y d (h y d l), fun y a ds l => x.muts y a ds (h' y (a, ds) l)⟩
theorem Var.but {m : Str → Option Value} {x : Str} {v : Value} (a : Var env m s.heap x v) (k : Mv V s s') (hc : ∀ y c, env.cells.lookup y = some c → c ∉ V) : Var env m s'.heap x v := by
  rcases a with q | ⟨q, c, l, o, ho, hd⟩
  · exact .inl q
  · exact .inr ⟨q, c, l, o, k.at (hc x c l) ho, hd⟩
/-- a turn of something of W that is neither a name's home, nor a cell, nor a list of a name's -/
theorem St.but (x : St env W σ ρ s) (k : Mv V s s') (hv : ∀ b ∈ V, b ∈ W) (hl : env.locals ∉ V) (hc : ∀ y c, env.cells.lookup y = some c → c ∉ V) (hr : ∀ y a ds, ρ.lookup y = some (a, ds) → a ∉ V) : St env W σ ρ s' := by
  obtain ⟨m, x⟩ := x
  have g := (k.wide hv).gr
  have e := k.ex x.ex
  have at_ : ∀ c v, c ∉ V → s.heap.IsCell c v → s'.heap.IsCell c v := fun c v n ⟨o, ho, hd⟩ => ⟨o, k.at n ho, hd⟩
  refine ⟨m, x.ns.at' fun o e => k.at hl e, fun y c l => let ⟨v, i⟩ := x.cells y c l; ⟨v, at_ c v (hc y c l) i⟩, e, fun y d l => ?_, fun y a ds l => ?_⟩
  · obtain ⟨v, a, b⟩ := x.vars y d l
    exact ⟨v, a.but k hc, b.mono g⟩
  · obtain ⟨p, ma, vs, i, d⟩ := x.muts y a ds l
    exact ⟨p.but k hc, ma, vs, i.at fun o e => k.at (hr y a ds l) e, d.mono g⟩
theorem nsOne {h h' : Heap} {L : Addr} {m m' : Str → Option Value} (x : h.Ns L m) (y : h'.Ns L m') (g : ∀ o, h.get? L = some o → h'.get? L = some o) : m = m' := by
  obtain ⟨o, es, ep, e, hd, _, hf⟩ := x
  obtain ⟨o', es', ep', e', hd', _, hf'⟩ := y
  have := g _ e
  rw [e'] at this
  cases this
  rw [hd] at hd'
  cases hd'
  funext n
  rw [← hf n, ← hf' n]
/-- into a run that may change more, all of it new -/
theorem St.lift (x : St env W σ ρ s) (k : Mv V s s') (hv : ∀ b ∈ V, s.heap.get? b = none) (hw : ∀ b ∈ W', b ∈ W ∨ s.heap.get? b = none) (hx : Ex W' s'.heap) (hs : ∀ b ∈ W, b ∈ W') : St env W' σ ρ s' := by
  have K := k.toKeeps hv
  obtain ⟨m, y⟩ := x.keeps K
  obtain ⟨m₀, y₀⟩ := x
  have hm : m₀ = m := nsOne y₀.ns y.ns fun o e => kGr K _ o e
  subst hm
  have g : Gr (fz W s.heap) (fz W' s'.heap) := fz_more hw fun c o _ e => (kGr K) c o e
  refine ⟨m₀, y.ns, y.cells, hx, fun z d l => ?_, fun z a ds l => ?_⟩
  · obtain ⟨v, a, b⟩ := y₀.vars z d l
    exact ⟨v, a.keeps (kGr K), b.mono g⟩
  · obtain ⟨p, ma, vs, i, d⟩ := y₀.muts z a ds l
    exact ⟨p.keeps (kGr K), hs a ma, vs, i.at fun o e => kGr K _ o e, d.mono g⟩
theorem St.drop (x : St env W' σ ρ s) (h : ∀ b ∈ W, b ∈ W') (hr : ∀ y a ds, ρ.lookup y = some (a, ds) → a ∈ W) : St env W σ ρ s := by
  obtain ⟨m, y⟩ := x
  exact ⟨m, y.ns, y.cells, fun b k => y.ex b (h b k), fun z d l => let ⟨v, a, b⟩ := y.vars z d l; ⟨v, a, b.mono (fz_less _ h)⟩, fun z a ds l => let ⟨p, _, vs, i, d⟩ := y.muts z a ds l; ⟨p, hr z a ds l, vs, i, d.mono (fz_less _ h)⟩⟩
theorem list_not_ns {h : Heap} {a L : Addr} {its : Array Value} {m : Str → Option Value} (x : h.IsList a its) (y : h.Ns L m) : a ≠ L := by
  rintro rfl
  obtain ⟨o, e, _, n, d⟩ := x
  obtain ⟨o', es, ep, e', d', _⟩ := y
  rw [e] at e'; cases e'; rw [d] at d'; cases d'
theorem list_not_cell {h : Heap} {a c : Addr} {its : Array Value} {v : Option Value} (x : h.IsList a its) (y : h.IsCell c v) : a ≠ c := by
  rintro rfl
  obtain ⟨o, e, _, n, d⟩ := x
  obtain ⟨o', e', d'⟩ := y
  rw [e] at e'; cases e'; rw [d] at d'; cases d'
/-- a name's list is turned no more -/
theorem St.freeze {x : Str} {a : Addr} {ds : List PyData} (y : St env W' σ ρ s) (l : ρ.lookup x = some (a, ds)) (hw : ∀ b ∈ W, b ∈ W' ∧ b ≠ a) (hr : ∀ y b es, ρ'.lookup y = some (b, es) → ρ.lookup y = some (b, es) ∧ b ∈ W) : St env W ((x, .list ds) :: σ) ρ' s := by
  obtain ⟨m, y⟩ := y
  have g : Gr (fz W' s.heap) (fz W s.heap) := fz_less _ fun b k => (hw b k).1
  refine ⟨m, y.ns, y.cells, fun b k => y.ex b (hw b k).1, fun z d q => ?_, fun z b es q => ?_⟩
  · cases e : z == x with
    | true =>
      rw [List.lookup_cons, e] at q
      cases q
      obtain rfl := eq_of_beq e
      obtain ⟨p, ma, vs, il, d⟩ := y.muts z a ds l
      obtain ⟨o, i, r⟩ := il.isList
      exact ⟨_, p, .list ⟨o, fz_at i fun k => (hw a k).2 rfl, r⟩ (d.mono g)⟩
    | false =>
      rw [List.lookup_cons, e] at q
      obtain ⟨v, p, b⟩ := y.vars z d q
      exact ⟨v, p, b.mono g⟩
  · obtain ⟨q, mb⟩ := hr z b es q
    obtain ⟨p, _, vs, i, d⟩ := y.muts z b es q
    exact ⟨p, mb, vs, i, d.mono g⟩
end

section
variable {prog : Program} {w : World} {A : Around} {E : Value → Shared → Prop} {W : List Addr} {s s₀ : Shared} {env : Env} {σ : Sig} {ρ : Rho}
theorem lookup_cons_ne {x y : Str} {d : PyData} (h : (y == x) = false) : ((x, d) :: σ).lookup y = σ.lookup y := by rw [List.lookup_cons, h]
theorem StM.store {m : Str → Option Value} {x : Str} {v : Value} {d : PyData} {h' : Heap} {t : Nat} (ok : EnvOk env W) (S : StM env W m σ ρ s) (hk : env.kindOf x = some .local) (hn : h'.Ns env.locals fun y => if y = x then some v else m y) (hs : Heap.SameBut env.locals s.heap h')
    (hd : Den (fz W s.heap) v d) (hx : ρ.lookup x = none) : Mv [env.locals] s { s with heap := h', toks := t } ∧ St env W ((x, d) :: σ) ρ { s with heap := h', toks := t } := by
  have mv0 : Mv [env.locals] s { s with heap := h', toks := t } := .but (.head _) hs (by obtain ⟨o, _, _, e, _⟩ := hn; exact ⟨o, e⟩)
  have mv : Mv W s { s with heap := h', toks := t } := mv0.wide fun b m => by cases m with | head => exact ok.loc | tail _ m => cases m
  have hvar : ∀ y u, (y == x) = false → Var env m s.heap y u → Var env (fun y => if y = x then some v else m y) h' y u := fun y u q a => by
    rcases a with ⟨k, z⟩ | ⟨k, c, l', i⟩
    · exact .inl ⟨k, by show (if y = x then some v else m y) = some u; rw [if_neg (by simpa using q)]; exact z⟩
    · exact .inr ⟨k, c, l', i.sameBut hs (ok.ne y c l')⟩
  refine ⟨mv0, _, hn, fun y c l => ?_, mv.ex S.ex, fun y e l => ?_, fun y a ds l => ?_⟩
  · obtain ⟨v, i⟩ := S.cells y c l
    exact ⟨v, i.sameBut hs (ok.ne y c l)⟩
  · cases q : y == x with
    | true =>
      rw [List.lookup_cons, q] at l
      cases l
      obtain rfl := eq_of_beq q
      exact ⟨v, .inl ⟨hk, by simp⟩, hd.mono mv.gr⟩
    | false =>
      rw [lookup_cons_ne q] at l
      obtain ⟨u, a, b⟩ := S.vars y e l
      exact ⟨u, hvar y u q a, b.mono mv.gr⟩
  · have q : (y == x) = false := by
      cases q : y == x with
      | false => rfl
      | true => obtain rfl := eq_of_beq q; rw [hx] at l; cases l
    obtain ⟨p, ma, vs, i, d⟩ := S.muts y a ds l
    exact ⟨hvar y _ q p, ma, vs, i.at fun o e => (hs.2 a (list_not_ns i.isList S.ns)).trans e, d.mono mv.gr⟩
theorem StM.storeC {m : Str → Option Value} {x : Str} {c₀ : Addr} {v : Value} {d : PyData} {h' : Heap} {t : Nat} (ok : EnvOk env W) (S : StM env W m σ ρ s) (hk : env.kindOf x = some .cell) (hc : env.cells.lookup x = some c₀) (hn : h'.IsCell c₀ (some v)) (hs : Heap.SameBut c₀ s.heap h')
    (hd : Den (fz W s.heap) v d) (hx : ρ.lookup x = none) : Mv [c₀] s { s with heap := h', toks := t } ∧ St env W ((x, d) :: σ) ρ { s with heap := h', toks := t } := by
  have mv0 : Mv [c₀] s { s with heap := h', toks := t } := .but (.head _) hs (let ⟨o, e, _⟩ := hn; ⟨o, e⟩)
  have mv : Mv W s { s with heap := h', toks := t } := mv0.wide fun b m => by cases m with | head => exact ok.cell x c₀ hc | tail _ m => cases m
  have hcell : ∀ y c u, env.cells.lookup y = some c → (y == x) = false → s.heap.IsCell c u → h'.IsCell c u := fun y c u l q i => i.sameBut hs fun e => by
    subst e
    rw [ok.apart y x _ l hc] at q
    simp at q
  have hvar : ∀ y u, (y == x) = false → Var env m s.heap y u → Var env m h' y u := fun y u q a => by
    rcases a with ⟨k, z⟩ | ⟨k, c, l', i⟩
    · exact .inl ⟨k, z⟩
    · exact .inr ⟨k, c, l', hcell y c _ l' q i⟩
  refine ⟨mv0, m, S.ns.sameBut hs (Ne.symm (ok.ne x c₀ hc)), fun y c l => ?_, mv.ex S.ex, fun y e l => ?_, fun y a ds l => ?_⟩
  · cases q : y == x with
    | true => obtain rfl := eq_of_beq q; rw [hc] at l; cases l; exact ⟨_, hn⟩
    | false => obtain ⟨v, i⟩ := S.cells y c l; exact ⟨v, hcell y c v l q i⟩
  · cases q : y == x with
    | true =>
      rw [List.lookup_cons, q] at l
      cases l
      obtain rfl := eq_of_beq q
      exact ⟨v, .inr ⟨.inl hk, c₀, hc, hn⟩, hd.mono mv.gr⟩
    | false =>
      rw [lookup_cons_ne q] at l
      obtain ⟨u, a, b⟩ := S.vars y e l
      exact ⟨u, hvar y u q a, b.mono mv.gr⟩
  · have q : (y == x) = false := by
      cases q : y == x with
      | false => rfl
      | true => obtain rfl := eq_of_beq q; rw [hx] at l; cases l
    obtain ⟨p, ma, vs, i, d⟩ := S.muts y a ds l
    obtain ⟨v₀, ic⟩ := S.cells x c₀ hc
    exact ⟨hvar y _ q p, ma, vs, i.at fun o e => (hs.2 a (list_not_cell i.isList ic)).trans e, d.mono mv.gr⟩

theorem isCellKept {s s' : Shared} (k : Keeps s s') {c : Addr} {v : Option Value} (i : s.heap.IsCell c v) : s'.heap.IsCell c v := i.keeps (kGr k)
theorem ev_name {x : Str} {p : Pos} {d : PyData} (hk : env.scope.kind = .function) (S : St env W σ ρ s₀) (hx : σ.lookup x = some d) (hd : (x == ("__debug__" : Str)) = false := by decide) (hc : (x == ("__classdict__" : Str)) = false := by decide) : Ev prog w A W s₀ (eval (.Name x p) env) d := .mk fun E s k => by
  obtain ⟨m, S⟩ := S.keeps k
  obtain ⟨v, a, b⟩ := S.vars x d hx
  rcases a with ⟨q, z⟩ | ⟨q | q, c, l, i⟩
  · exact wpAny_Name (wpAny_loadName_local hk q S.ns z ⟨kRefl _, b⟩) hd
  · exact wpAny_Name (wpAny_loadName_cell hk q l i ⟨kRefl _, b⟩) hd
  · exact wpAny_Name (wpAny_loadName_free hk q l i ⟨kRefl _, b⟩ hc) hd

/-! stores -/
theorem store_local {x : Str} {v : Value} {d : PyData} {Q : Unit → Shared → Prop} (ok : EnvOk env W) (S : St env W σ ρ s) (hk : env.kindOf x = some .local) (hd : Den (fz W s.heap) v d) (hx : ρ.lookup x = none)
    (h : ∀ s', Mv [env.locals] s s' → St env W ((x, d) :: σ) ρ s' → Q () s') : wpAny (model prog w) A (storeName env x v) Q E s := by
  obtain ⟨m, S⟩ := S
  exact wpAny_storeName_local hk S.ns (fun h' hn hs => let ⟨a, b⟩ := S.store (t := s.toks + 1) ok hk hn hs hd hx; h _ a b) (by rw [ok.kind]; rfl)
theorem store_cell {x : Str} {c : Addr} {v : Value} {d : PyData} {Q : Unit → Shared → Prop} (ok : EnvOk env W) (S : St env W σ ρ s) (hk : env.kindOf x = some .cell) (hc : env.cells.lookup x = some c) (hd : Den (fz W s.heap) v d) (hx : ρ.lookup x = none)
    (h : ∀ s', Mv [c] s s' → St env W ((x, d) :: σ) ρ s' → Q () s') : wpAny (model prog w) A (storeName env x v) Q E s := by
  obtain ⟨m, S⟩ := S
  obtain ⟨v₀, i⟩ := S.cells x c hc
  exact wpAny_storeName_cell ok.kind hk hc i fun h' hn hs => let ⟨a, b⟩ := S.storeC (t := s.toks) ok hk hc hn hs hd hx; h _ a b
/-- a name that may be stored -/
def Sto (env : Env) (x : Str) (a : Addr) : Prop := (env.kindOf x = some .local ∧ a = env.locals) ∨ (env.kindOf x = some .cell ∧ env.cells.lookup x = some a)
theorem store_any {x : Str} {a : Addr} {v : Value} {d : PyData} {Q : Unit → Shared → Prop} (ok : EnvOk env W) (S : St env W σ ρ s) (hk : Sto env x a) (hd : Den (fz W s.heap) v d) (hx : ρ.lookup x = none)
    (h : ∀ s', Mv [a] s s' → St env W ((x, d) :: σ) ρ s' → Q () s') : wpAny (model prog w) A (storeName env x v) Q E s := by
  rcases hk with ⟨q, rfl⟩ | ⟨q, l⟩
  · exact store_local ok S q hd hx h
  · exact store_cell ok S q l hd hx h
theorem ex_assign {x : Str} {a : Addr} {p pos : Pos} {e : Expr} {d : PyData} {Q : Flow → Shared → Prop} (ok : EnvOk env W) (S : St env W σ ρ s) (hv : Ev prog w A W s (eval e env) d) (hk : Sto env x a)
    (h : ∀ s', Mv [a] s s' → St env W ((x, d) :: σ) ρ s' → Q .next s') (hx : ρ.lookup x = none := by rfl) (hs : swapsWith e (some (.Name x p)) pos.line env = pure false := by rfl) : wpAny (model prog w) A (exec (.Assign [.Name x p] e pos) env) Q E s :=
  wpAny_Assign_Name (hv.nest (kRefl s) fun v s₁ k pv => store_any ok (S.keeps k) hk pv hx fun s' m t => h s' ((Mv.of k).trans m) t) hs
theorem ex_ret {e : Expr} {pos : Pos} {d : PyData} {Q : Flow → Shared → Prop} (hv : Ev prog w A W s (eval e env) d) (h : ∀ v s', Keeps s s' → Den (fz W s'.heap) v d → Q (.ret v) s') : wpAny (model prog w) A (exec (.Return (some e) pos) env) Q E s :=
  wpAny_Return_some (hv.nest (kRefl s) fun v s₁ k pv => h v s₁ k pv)

/-! tests -/
abbrev Tst (prog : Program) (w : World) (A : Around) (s₀ : Shared) (env : Env) (e : Expr) (b : Bool) : Prop := Do prog w A s₀ (isTrue e env (eval e env)) (fun r _ => r = b)
theorem tst_cmp {l r : Expr} {op : CmpOp} {pos : Pos} {dl dr : PyData} {c : Bool} (hl : Ev prog w A W s₀ (eval l env) dl) (hr : Ev prog w A W s₀ (eval r env) dr)
    (ho : ∀ a b s₂, Keeps s₀ s₂ → Den (fz W s₂.heap) a dl → Den (fz W s₂.heap) b dr → Ev prog w A W s₂ (compareOp op a b) (.bool c)) (hm : behindInMarks op r = false := by rfl) : Tst prog w A s₀ env (.Compare l [op] [r] pos) c := .mk fun _ _ k =>
  wpAny_isTrue_Compare1 (hl.nest k fun a _ k₁ pa => hr.nest (kTrans k k₁) fun b s₂ k₂ pb => (ho a b s₂ (kTrans k (kTrans k₁ k₂)) (pa.mono (fz_gr (kGr k₂))) pb).nest (kRefl _) fun _ _ k₃ pv => by
    rw [pv.isBool]; exact wpAny_truthy_bool ⟨kTrans k₁ (kTrans k₂ k₃), rfl⟩) hm
theorem tst_lt {l r : Expr} {pos : Pos} {a b : Int} (hl : Ev prog w A W s₀ (eval l env) (.int a)) (hr : Ev prog w A W s₀ (eval r env) (.int b)) (hm : behindInMarks .Lt r = false := by rfl) : Tst prog w A s₀ env (.Compare l [.Lt] [r] pos) (decide (a < b)) :=
  tst_cmp hl hr (fun _ _ _ _ pa pb => by obtain ⟨_, rfl⟩ := pa.isInt; obtain ⟨_, rfl⟩ := pb.isInt; exact .mk fun _ _ _ => PyProof.Rows.lt_int ⟨kRefl _, Den.bool ..⟩) hm
theorem tst_le {l r : Expr} {pos : Pos} {a b : Int} (hl : Ev prog w A W s₀ (eval l env) (.int a)) (hr : Ev prog w A W s₀ (eval r env) (.int b)) (hm : behindInMarks .LtE r = false := by rfl) : Tst prog w A s₀ env (.Compare l [.LtE] [r] pos) (decide (a ≤ b)) :=
  tst_cmp hl hr (fun _ _ _ _ pa pb => by obtain ⟨_, rfl⟩ := pa.isInt; obtain ⟨_, rfl⟩ := pb.isInt; exact .mk fun _ _ _ => PyProof.Rows.le_int ⟨kRefl _, Den.bool ..⟩) hm
theorem tst_gt {l r : Expr} {pos : Pos} {a b : Int} (hl : Ev prog w A W s₀ (eval l env) (.int a)) (hr : Ev prog w A W s₀ (eval r env) (.int b)) (hm : behindInMarks .Gt r = false := by rfl) : Tst prog w A s₀ env (.Compare l [.Gt] [r] pos) (decide (b < a)) :=
  tst_cmp hl hr (fun _ _ _ _ pa pb => by obtain ⟨_, rfl⟩ := pa.isInt; obtain ⟨_, rfl⟩ := pb.isInt; exact .mk fun _ _ _ => PyProof.Rows.gt_int ⟨kRefl _, Den.bool ..⟩) hm
theorem tst_eq {l r : Expr} {pos : Pos} {a b : Int} (hl : Ev prog w A W s₀ (eval l env) (.int a)) (hr : Ev prog w A W s₀ (eval r env) (.int b)) (hm : behindInMarks .Eq r = false := by rfl) : Tst prog w A s₀ env (.Compare l [.Eq] [r] pos) (a == b) :=
  tst_cmp hl hr (fun _ _ _ _ pa pb => by obtain ⟨_, rfl⟩ := pa.isInt; obtain ⟨_, rfl⟩ := pb.isInt; exact .mk fun _ _ _ => PyProof.Rows.eq_int ⟨kRefl _, Den.bool ..⟩) hm
theorem tst_ne {l r : Expr} {pos : Pos} {a b : Int} (hl : Ev prog w A W s₀ (eval l env) (.int a)) (hr : Ev prog w A W s₀ (eval r env) (.int b)) (hm : behindInMarks .NotEq r = false := by rfl) : Tst prog w A s₀ env (.Compare l [.NotEq] [r] pos) (a != b) :=
  tst_cmp hl hr (fun _ _ _ _ pa pb => by obtain ⟨_, rfl⟩ := pa.isInt; obtain ⟨_, rfl⟩ := pb.isInt; exact .mk fun _ _ _ => PyProof.Rows.ne_int ⟨kRefl _, Den.bool ..⟩) hm
theorem tst_eqS {l r : Expr} {pos : Pos} {a b : Str} (hl : Ev prog w A W s₀ (eval l env) (.str a)) (hr : Ev prog w A W s₀ (eval r env) (.str b)) (hm : behindInMarks .Eq r = false := by rfl) : Tst prog w A s₀ env (.Compare l [.Eq] [r] pos) (a == b) :=
  tst_cmp hl hr (fun _ _ _ _ pa pb => by obtain ⟨_, rfl⟩ := pa.isStr; obtain ⟨_, rfl⟩ := pb.isStr; exact .mk fun _ _ _ => PyProof.Rows.eq_str ⟨kRefl _, Den.bool ..⟩) hm
theorem tst_neS {l r : Expr} {pos : Pos} {a b : Str} (hl : Ev prog w A W s₀ (eval l env) (.str a)) (hr : Ev prog w A W s₀ (eval r env) (.str b)) (hm : behindInMarks .NotEq r = false := by rfl) : Tst prog w A s₀ env (.Compare l [.NotEq] [r] pos) (a != b) :=
  tst_cmp hl hr (fun _ _ _ _ pa pb => by obtain ⟨_, rfl⟩ := pa.isStr; obtain ⟨_, rfl⟩ := pb.isStr; exact .mk fun _ _ _ => PyProof.Rows.ne_str ⟨kRefl _, Den.bool ..⟩) hm
theorem tst_and {x : Expr} {xs : List Expr} {pos : Pos} {b c : Bool} (hx : Tst prog w A s₀ env x b) (hr : b = true → Do prog w A s₀ (allTrue .And xs env) (fun r _ => r = c)) (hf : b = false → c = false) : Tst prog w A s₀ env (.BoolOp .And (x :: xs) pos) c := .mk fun _ _ k =>
  wpAny_isTrue_BoolOp (wpAny_allTrue_And_cons (hx.nest k fun r s₁ k₁ e => by
    subst e
    cases r with
    | true => rw [if_pos rfl]; exact (hr rfl).nest (kTrans k k₁) fun _ _ k₂ e => ⟨kTrans k₁ k₂, e⟩
    | false => rw [if_neg (by decide)]; exact ⟨k₁, (hf rfl).symm⟩))
theorem all_and {x : Expr} {xs : List Expr} {b c : Bool} (hx : Tst prog w A s₀ env x b) (hr : b = true → Do prog w A s₀ (allTrue .And xs env) (fun r _ => r = c)) (hf : b = false → c = false) : Do prog w A s₀ (allTrue .And (x :: xs) env) (fun r _ => r = c) := .mk fun _ _ k =>
  wpAny_allTrue_And_cons (hx.nest k fun r s₁ k₁ e => by
    subst e
    cases r with
    | true => rw [if_pos rfl]; exact (hr rfl).nest (kTrans k k₁) fun _ _ k₂ e => ⟨kTrans k₁ k₂, e⟩
    | false => rw [if_neg (by decide)]; exact ⟨k₁, (hf rfl).symm⟩)
theorem all_nil : Do prog w A s₀ (allTrue .And [] env) (fun r _ => r = true) := .mk fun _ s k => wpAny_allTrue_And_nil ⟨kRefl s, rfl⟩
theorem tst_and2 {x y : Expr} {pos : Pos} {b c : Bool} (hx : Tst prog w A s₀ env x b) (hy : b = true → Tst prog w A s₀ env y c) : Tst prog w A s₀ env (.BoolOp .And [x, y] pos) (b && c) :=
  tst_and hx (fun e => by subst e; exact all_and (hy rfl) (fun e => by subst e; exact all_nil) (fun e => by subst e; rfl)) (fun e => by subst e; rfl)
theorem tst_and3 {x y z : Expr} {pos : Pos} {b c d : Bool} (hx : Tst prog w A s₀ env x b) (hy : b = true → Tst prog w A s₀ env y c) (hz : b = true → c = true → Tst prog w A s₀ env z d) : Tst prog w A s₀ env (.BoolOp .And [x, y, z] pos) (b && c && d) :=
  tst_and hx (fun e => by subst e; exact all_and (hy rfl) (fun e => by subst e; exact all_and (hz rfl rfl) (fun e => by subst e; exact all_nil) (fun e => by subst e; rfl)) (fun e => by subst e; rfl)) (fun e => by subst e; rfl)
theorem tst_or2 {x y : Expr} {pos : Pos} {b c : Bool} (hx : Tst prog w A s₀ env x b) (hy : b = false → Tst prog w A s₀ env y c) : Tst prog w A s₀ env (.BoolOp .Or [x, y] pos) (b || c) := .mk fun _ _ k =>
  wpAny_isTrue_BoolOp (wpAny_allTrue_Or_cons (hx.nest k fun r s₁ k₁ e => by
    subst e
    cases r with
    | true => rw [if_pos rfl]; exact ⟨k₁, rfl⟩
    | false =>
      rw [if_neg (by decide)]
      refine wpAny_allTrue_Or_cons ((hy rfl).nest (kTrans k k₁) fun r' s₂ k₂ e => ?_)
      subst e
      cases r' with
      | true => rw [if_pos rfl]; exact ⟨kTrans k₁ k₂, rfl⟩
      | false => rw [if_neg (by decide)]; exact wpAny_allTrue_Or_nil ⟨kTrans k₁ k₂, rfl⟩))
theorem tst_val {e : Expr} {d : PyData} {b : Bool} (hv : Ev prog w A W s₀ (eval e env) d) (ht : ∀ v s₁, Keeps s₀ s₁ → Den (fz W s₁.heap) v d → Do prog w A s₁ (truthy v) (fun r _ => r = b))
    (hq : isTrue e env (eval e env) = (do let v ← eval e env; standAt e.pos; holding [v] (truthy v)) := by rfl) : Tst prog w A s₀ env e b := .mk fun _ _ k =>
  wpAny_isTrue_value (hv.nest k fun v s₁ k₁ pv => (ht v s₁ (kTrans k k₁) pv).nest (kRefl _) fun _ _ k₂ e => ⟨kTrans k₁ k₂, e⟩) hq
theorem ev_ifexp {t a b : Expr} {pos : Pos} {c : Bool} {d : PyData} (ht : Tst prog w A s₀ env t c) (ha : c = true → Ev prog w A W s₀ (eval a env) d) (hb : c = false → Ev prog w A W s₀ (eval b env) d) : Ev prog w A W s₀ (eval (.IfExp t a b pos) env) d := .mk fun _ _ k =>
  wpAny_IfExp (ht.nest k fun r s₁ k₁ e => by
    subst e
    cases r with
    | true => rw [if_pos rfl]; exact (ha rfl).nest (kTrans k k₁) fun _ _ k₂ e => ⟨kTrans k₁ k₂, e⟩
    | false => rw [if_neg (by decide)]; exact (hb rfl).nest (kTrans k k₁) fun _ _ k₂ e => ⟨kTrans k₁ k₂, e⟩)
theorem ex_if {t : Expr} {body orelse : List Stmt} {pos : Pos} {c : Bool} {Q : Flow → Shared → Prop} (ht : Tst prog w A s env t c) (ha : c = true → ∀ s', Keeps s s' → wpAny (model prog w) A (execs body env) Q E s')
    (hb : c = false → ∀ s', Keeps s s' → wpAny (model prog w) A (execs orelse env) Q E s') : wpAny (model prog w) A (exec (.If t body orelse pos) env) Q E s :=
  wpAny_If (ht.nest (kRefl s) fun r s₁ k₁ e => by
    subst e
    cases r with
    | true => rw [if_pos rfl]; exact ha rfl s₁ k₁
    | false => rw [if_neg (by decide)]; exact hb rfl s₁ k₁)
end
end Mine
end
section
open PySem PySem.Spec PySem.Calls PyProof.Rows PySem.W
set_option maxRecDepth 100000
set_option linter.unusedVariables false
namespace Mine
section
variable {prog : Program} {w : World} {A : Around} {E : Value → Shared → Prop} {W : List Addr} {s s₀ : Shared} {env : Env} {σ : List (Str × PyData)}

/-! displays -/
abbrev Els (prog : Program) (w : World) (A : Around) (W : List Addr) (s₀ : Shared) (pos : Pos) (env : Env) (es : List Expr) (ds : List PyData) : Prop := Do prog w A s₀ (spliced (backTo pos (starEach es env))) (fun vs s' => Dens (fz W s'.heap) vs ds)
theorem els_nil {pos : Pos} : Els prog w A W s₀ pos env [] [] := .mk fun _ s _ => wpAny_items_nil ⟨kRefl s, Dens.nil _⟩
theorem els_cons {pos : Pos} {e : Expr} {es : List Expr} {d : PyData} {ds : List PyData} (he : Ev prog w A W s₀ (eval e env) d) (hr : Els prog w A W s₀ pos env es ds) (hs : starEach (e :: es) env = (false, eval e env) :: starEach es env := by rfl) : Els prog w A W s₀ pos env (e :: es) (d :: ds) := .mk fun _ _ k =>
  wpAny_items_cons (he.nest k fun v s₁ k₁ pv => hr.nest (kTrans k k₁) fun vs s₂ k₂ pvs => ⟨kTrans k₁ k₂, .cons (pv.mono (fz_gr (kGr k₂))) pvs⟩) hs
theorem ev_list {pos : Pos} {es : List Expr} {ds : List PyData} (x : Ex W s₀.heap) (h : Els prog w A W s₀ pos env es ds) (hz : ds.length ≤ sizeLine := by decide) : Ev prog w A W s₀ (eval (.List es pos) env) (.list ds) := .mk fun _ s k =>
  wpAny_List (h.nest k fun vs s₁ k₁ pvs => ⟨by rw [pvs.length]; exact hz, kTrans k₁ kPush, Den.newList (x.mono (kGr (kTrans k k₁))) pvs⟩)
theorem ev_tuple {n : Nat} {pos : Pos} {es : List Expr} {ds : List PyData} (x : Ex W s₀.heap) (h : Els prog w A W s₀ pos env es ds) (hz : ds.length ≤ sizeLine := by decide) : Ev prog w A W s₀ (eval (.Tuple es n pos) env) (.tuple ds) := .mk fun _ s k =>
  wpAny_Tuple (h.nest k fun vs s₁ k₁ pvs => ⟨by rw [pvs.length]; exact hz, kTrans k₁ kPush, Den.newTuple (x.mono (kGr (kTrans k k₁))) pvs⟩)

/-! items -/
theorem isList_sub {h : Heap} {a : Addr} {its : Array Value} (x : (fz W h).IsList a its) : h.IsList a its := let ⟨o, e, r⟩ := x; ⟨o, fz_sub W h a o e, r⟩
theorem isTuple_sub {h : Heap} {a : Addr} {its : Array Value} (x : (fz W h).IsTuple a its) : h.IsTuple a its := let ⟨o, e, r⟩ := x; ⟨o, fz_sub W h a o e, r⟩
theorem ev_item {v i : Expr} {pos : Pos} {ds : List PyData} {k : Int} {d : PyData} (hv : Ev prog w A W s₀ (eval v env) (.list ds)) (hi : Ev prog w A W s₀ (eval i env) (.int k)) (h0 : 0 ≤ k) (h1 : k < 2 ^ 63) (hd : ds[k.toNat]? = some d)
    (hs : ∀ l u, subscripted i false (.ref l) (.int k u) = operate [.ref l, .int k u] (getItem (.ref l) (.int k u)) := by intro _ _; with_unfolding_all rfl) : Ev prog w A W s₀ (eval (.Subscript v i pos) env) d := .mk fun _ s q =>
  Subscript_ (hv.nest q fun x s₁ k₁ px => hi.nest (kTrans q k₁) fun y s₂ k₂ py => by
    obtain ⟨l, vs, rfl, il, dn⟩ := (px.mono (fz_gr (kGr k₂))).isList
    obtain ⟨u, rfl⟩ := py.isInt
    obtain ⟨z, hz, dz⟩ := dn.get hd
    exact tail_any (isList_sub il).typeIs slot_list_getitem.lookup (wpAny_getItem_list (isList_sub il) h0 h1 (by simpa using hz) ⟨kTrans k₁ k₂, dz⟩) (hs l u))

/-! slices of lists -/
abbrev Pt (prog : Program) (w : World) (A : Around) (s₀ : Shared) (env : Env) (p : Option Expr) (i : Option Int) : Prop := Do prog w A s₀ (evalPart p env) (fun v _ => IsPart v i)
theorem pt_none : Pt prog w A s₀ env none none := .mk fun _ s _ => wpAny_pure ⟨kRefl s, .none⟩
theorem pt_some {e : Expr} {i : Int} (h : Ev prog w A W s₀ (eval e env) (.int i)) : Pt prog w A s₀ env (some e) (some i) := .mk fun E s k => h.nest k fun v s₁ k₁ pv => by obtain ⟨t, rfl⟩ := pv.isInt; exact ⟨k₁, .int ..⟩
def pick (ds : List PyData) (lo hi st : Option Int) : List PyData :=
  (sliceRange (sliceBounds lo hi st ds.length).1 (sliceBounds lo hi st ds.length).2.1 (sliceBounds lo hi st ds.length).2.2).filterMap (ds[·]?)
theorem Dens.pickAt {h : Heap} {vs : List Value} {ds : List PyData} (x : Dens h vs ds) : ∀ is : List Nat, Dens h (is.filterMap (vs[·]?)) (is.filterMap (ds[·]?))
  | [] => .nil h
  | i :: is => by
    rw [List.filterMap_cons, List.filterMap_cons]
    cases q : ds[i]? with
    | some d =>
      obtain ⟨v, e, p⟩ := x.get q
      rw [e]
      exact .cons p (x.pickAt is)
    | none =>
      have : vs[i]? = none := by
        rw [List.getElem?_eq_none_iff] at q ⊢
        rw [x.length]; exact q
      rw [this]
      exact x.pickAt is
theorem Dens.pick {h : Heap} {vs : List Value} {ds : List PyData} (x : Dens h vs ds) (lo hi st : Option Int) : Dens h (slicePick vs.toArray lo hi st).toList (Mine.pick ds lo hi st) := by
  unfold slicePick Mine.pick
  rw [show vs.toArray.size = ds.length by simpa using x.length]
  simpa using x.pickAt _
theorem ev_slice {v : Expr} {lo hi st : Option Expr} {p pos : Pos} {ds : List PyData} {i j k : Option Int} (x : Ex W s₀.heap) (hv : Ev prog w A W s₀ (eval v env) (.list ds)) (h1 : Pt prog w A s₀ env lo i) (h2 : Pt prog w A s₀ env hi j) (h3 : Pt prog w A s₀ env st k) (hk : k ≠ some 0)
    (hz : ds.length ≤ sizeLine) (hs : ∀ l u, ∃ ops, subscripted (.Slice lo hi st p) false (.ref l) (.ref u) = operate ops (getItem (.ref l) (.ref u)) := by intro _ _; exact ⟨_, by with_unfolding_all rfl⟩) :
    Ev prog w A W s₀ (eval (.Subscript v (.Slice lo hi st p) pos) env) (.list (pick ds i j k)) := .mk fun _ s q =>
  Subscript_ (hv.nest q fun y s₁ k₁ py => wpAny_Slice (h1.nest (kTrans q k₁) fun a s₂ k₂ pa => h2.nest (kTrans q (kTrans k₁ k₂)) fun b s₃ k₃ pb => h3.nest (kTrans q (kTrans k₁ (kTrans k₂ k₃))) fun c s₄ k₄ pc => by
    have K : Keeps s₁ s₄ := kTrans k₂ (kTrans k₃ k₄)
    obtain ⟨l, vs, rfl, il, dn⟩ := (py.mono (fz_gr (Gr.trans (kGr K) (Gr.push s₄.heap { cls := .type "slice", data := .fields #[a, b, c] })))).isList
    have X : Ex W (s₄.heap.push { cls := .type "slice", data := .fields #[a, b, c] }) := x.mono (Gr.trans (kGr (kTrans q (kTrans k₁ K))) (Gr.push _ _))
    obtain ⟨ops, hs⟩ := hs l _
    refine tail_any (isList_sub il).typeIs slot_list_getitem.lookup (wpAny_getItem_list_slice (isList_sub il) (Heap.IsSliceOf.new _ a b c) pa pb pc hk ?_ (by rw [show vs.toArray.size = ds.length by simpa using dn.length]; exact hz)) hs
    refine ⟨kTrans k₁ (kTrans K (kTrans kPush kPush)), ?_⟩
    have := Den.newList (n := 0) X (dn.pick i j k)
    simpa using this))

/-! names of the top -/
structure Gl (env : Env) (mg mb : Str → Option Value) (h : Heap) : Prop where
  kind : env.scope.kind = .function
  g : h.Ns env.globals mg
  b : h.Ns env.builtins mb
theorem Gl.keeps {mg mb : Str → Option Value} {h h' : Heap} (x : Gl env mg mb h) (g : Gr h h') : Gl env mg mb h' := ⟨x.kind, x.g.keeps g, x.b.keeps g⟩
abbrev Is (prog : Program) (w : World) (A : Around) (s₀ : Shared) (t : Sem Value) (v : Value) : Prop := Do prog w A s₀ t (fun r _ => r = v)
theorem is_glob {mg mb : Str → Option Value} {x : Str} {p : Pos} {v : Value} (G : Gl env mg mb s₀.heap) (hv : mg x = some v) (hk : env.kindOf x = some .globalImplicit := by rfl) (hd : (x == ("__debug__" : Str)) = false := by decide) : Is prog w A s₀ (eval (.Name x p) env) v := .mk fun _ s k =>
  Name_function_global G.kind hk (loadGlobal_global (G.keeps (kGr k)).g hv ⟨kRefl s, rfl⟩) hd
theorem is_bltn {mg mb : Str → Option Value} {x : Str} {p : Pos} {v : Value} (G : Gl env mg mb s₀.heap) (hn : mg x = none) (hv : mb x = some v) (hk : env.kindOf x = some .globalImplicit := by rfl) (hd : (x == ("__debug__" : Str)) = false := by decide) : Is prog w A s₀ (eval (.Name x p) env) v := .mk fun _ s k =>
  Name_function_global G.kind hk (loadGlobal_builtin (G.keeps (kGr k)).g hn (G.keeps (kGr k)).b hv ⟨kRefl s, rfl⟩) hd

/-! calls -/
/-- what callWith takes by itself -/
def CanCall (h : Heap) : Value → Prop
  | .builtin _ => True
  | .type _ => True
  | .ref a => ∃ o fd, h.get? a = some o ∧ o.data = .func fd
  | _ => False
theorem CanCall.keeps {h h' : Heap} {f : Value} (x : CanCall h f) (g : Gr h h') : CanCall h' f := by
  unfold CanCall at x ⊢
  split at x
  · trivial
  · trivial
  · obtain ⟨o, fd, e, d⟩ := x; exact ⟨o, fd, g _ _ e, d⟩
  · exact x.elim
theorem callWith_any {pos : Pos} {f : Value} {x : Sem Value} {rest : List (Bool × Sem Value)} {first : List Value} {Q : Value → Shared → Prop} (hf : CanCall s.heap f) (hp : ((false, x) :: rest).any (·.1) = false)
    (h : wpAny (model prog w) A (spliced ((false, x) :: rest)) (fun vs s₁ => Gr s.heap s₁.heap ∧ wpAny (model prog w) A (call f (first ++ vs) []) Q E s₁) E s) : wpAny (model prog w) A (callWith pos f first ((false, x) :: rest) []) Q E s := by
  unfold CanCall at hf
  split at hf
  · exact callWith_builtin hp (evalArgs_plain (wpAny_mono h (fun _ _ y => y.2) fun _ _ y => y))
  · exact PySem.callWith_type hp (evalArgs_plain (wpAny_mono h (fun _ _ y => y.2) fun _ _ y => y))
  · obtain ⟨o, fd, e, d⟩ := hf
    exact callWith_function (o := o) (fd := fd) (evalArgs_plain (wpAny_mono h (fun _ _ y => ⟨⟨y.1 _ _ e, d⟩, y.2⟩) fun _ _ y => y))
  · exact hf.elim
theorem ev_call1 {x : Str} {p pos : Pos} {e : Expr} {f : Value} {d : PyData} {P : Value → Shared → Prop} (hf : Is prog w A s₀ (eval (.Name x p) env) f) (cf : CanCall s₀.heap f) (he : Ev prog w A W s₀ (eval e env) d)
    (hc : ∀ v s₁, Keeps s₀ s₁ → Den (fz W s₁.heap) v d → Do prog w A s₁ (call f [v]) P) (hs : starEach [e] env = [(false, eval e env)] := by rfl) : Do prog w A s₀ (eval (.Call (.Name x p) [e] [] pos) env) P := .mk fun _ s k =>
  Call_Name1 (hf.nest k fun v s₁ k₁ ev => by
    subst ev
    refine callWith_any (first := []) (cf.keeps (kGr (kTrans k k₁))) rfl (spliced_cons (he.nest (kTrans k k₁) fun a s₂ k₂ pa => spliced_nil ⟨kGr k₂, ?_⟩))
    exact (hc a s₂ (kTrans k (kTrans k₁ k₂)) pa).nest (kRefl _) fun r s₃ k₃ pr => ⟨kTrans k₁ (kTrans k₂ k₃), pr⟩) hs
theorem ev_call2 {x : Str} {p pos : Pos} {e e' : Expr} {f : Value} {d d' : PyData} {P : Value → Shared → Prop} (hf : Is prog w A s₀ (eval (.Name x p) env) f) (cf : CanCall s₀.heap f) (he : Ev prog w A W s₀ (eval e env) d) (he' : Ev prog w A W s₀ (eval e' env) d')
    (hc : ∀ v v' s₁, Keeps s₀ s₁ → Den (fz W s₁.heap) v d → Den (fz W s₁.heap) v' d' → Do prog w A s₁ (call f [v, v']) P) (hs : starEach [e, e'] env = [(false, eval e env), (false, eval e' env)] := by rfl) : Do prog w A s₀ (eval (.Call (.Name x p) [e, e'] [] pos) env) P := .mk fun _ s k =>
  Call_Name2 (hf.nest k fun v s₁ k₁ ev => by
    subst ev
    refine callWith_any (first := []) (cf.keeps (kGr (kTrans k k₁))) rfl (spliced_cons (he.nest (kTrans k k₁) fun a s₂ k₂ pa => spliced_cons (he'.nest (kTrans k (kTrans k₁ k₂)) fun b s₃ k₃ pb => spliced_nil ⟨kGr (kTrans k₂ k₃), ?_⟩)))
    exact (hc a b s₃ (kTrans k (kTrans k₁ (kTrans k₂ k₃))) (pa.mono (fz_gr (kGr k₃))) pb).nest (kRefl _) fun r s₄ k₄ pr => ⟨kTrans k₁ (kTrans k₂ (kTrans k₃ k₄)), pr⟩) hs
end
end Mine
end
section
open PySem PySem.Spec PySem.Calls PyProof.Rows PySem.W
set_option maxRecDepth 100000
set_option linter.unusedVariables false
namespace Mine

/-- a run that may spoil the addresses own -/
def Mx (own : List Addr) (s s' : Shared) : Prop := ∃ h' tk, s' = { s with heap := h', toks := tk } ∧ (∀ b o, b ∉ own → s.heap.get? b = some o → h'.get? b = some o)
theorem Mx.of {W : List Addr} {s s' : Shared} (x : Mv W s s') : Mx W s s' := let ⟨h, t, e, k, _⟩ := x; ⟨h, t, e, k⟩
theorem Mx.trans {W : List Addr} {a b c : Shared} (x : Mx W a b) (y : Mx W b c) : Mx W a c := by
  obtain ⟨h, t, rfl, k⟩ := x
  obtain ⟨h', t', rfl, k'⟩ := y
  exact ⟨h', t', rfl, fun p o n e => k' p o n (k p o n e)⟩
theorem Mx.wide {W V : List Addr} {s s' : Shared} (x : Mx W s s') (h : ∀ b ∈ W, b ∈ V) : Mx V s s' := let ⟨h', t, e, k⟩ := x; ⟨h', t, e, fun b o n q => k b o (fun m => n (h b m)) q⟩
theorem Mx.at {W : List Addr} {s s' : Shared} (x : Mx W s s') {b : Addr} {o : Obj} (n : b ∉ W) (e : s.heap.get? b = some o) : s'.heap.get? b = some o := by
  obtain ⟨h, t, rfl, k⟩ := x
  exact k b o n e
theorem Mx.toKeeps {V : List Addr} {s s' : Shared} (x : Mx V s s') (h : ∀ b ∈ V, s.heap.get? b = none) : Keeps s s' := by
  obtain ⟨h', t, rfl, k⟩ := x
  exact ⟨h', t, rfl, fun b o e => k b o (fun m => by rw [h b m] at e; cases e) e⟩
theorem Mx.toMv {W V : List Addr} {s s' : Shared} (x : Mx V s s') (h : ∀ b ∈ V, b ∈ W ∨ s.heap.get? b = none) (e : ∀ b ∈ W, (∃ o, s.heap.get? b = some o) → ∃ o, s'.heap.get? b = some o) : Mv W s s' := by
  obtain ⟨h', t, rfl, k⟩ := x
  have kk : ∀ b o, b ∉ W → s.heap.get? b = some o → h'.get? b = some o := fun b o n q => k b o (fun m => by
    rcases h b m with r | r
    · exact n r
    · rw [r] at q; cases q) q
  refine ⟨h', t, rfl, kk, fun b ⟨o, q⟩ => ?_⟩
  by_cases m : b ∈ W
  · exact e b m ⟨o, q⟩
  · exact ⟨o, kk b o m q⟩
theorem St.endOwn {env : Env} {W own : List Addr} {σ : Sig} {ρ : Rho} {s s' : Shared} (x : St env (own ++ W) σ ρ s) (k : Mx own s s') (hd : ∀ b ∈ own, b ∉ W) (hl : env.locals ∈ W) (hc : ∀ y c, env.cells.lookup y = some c → c ∈ W) (hr : ∀ y a ds, ρ.lookup y = some (a, ds) → a ∈ W) : St env W σ ρ s' := by
  obtain ⟨m, x⟩ := x
  have off : ∀ b ∈ W, b ∉ own := fun b h m => hd b m h
  have at_ : ∀ b ∈ W, ∀ o, s.heap.get? b = some o → s'.heap.get? b = some o := fun b h o e => k.at (off b h) e
  have g : Gr (fz (own ++ W) s.heap) (fz W s'.heap) := fun b o e => by
    obtain ⟨e1, e2⟩ := fz_get e
    rw [List.mem_append] at e2
    exact fz_at (k.at (fun m => e2 (.inl m)) e1) fun m => e2 (.inr m)
  have cl : ∀ y c v, env.cells.lookup y = some c → s.heap.IsCell c v → s'.heap.IsCell c v := fun y c v l ⟨o, ho, hd⟩ => ⟨o, at_ c (hc y c l) o ho, hd⟩
  have vr : ∀ y v, Var env m s.heap y v → Var env m s'.heap y v := fun y v a => by
    rcases a with q | ⟨q, c, l, i⟩
    · exact .inl q
    · exact .inr ⟨q, c, l, cl y c _ l i⟩
  refine ⟨m, x.ns.at' fun o e => at_ _ hl o e, fun y c l => let ⟨v, i⟩ := x.cells y c l; ⟨v, cl y c v l i⟩, fun b h => let ⟨o, e⟩ := x.ex b (List.mem_append_right _ h); ⟨o, at_ b h o e⟩, fun y d l => ?_, fun y a ds l => ?_⟩
  · obtain ⟨v, a, b⟩ := x.vars y d l
    exact ⟨v, vr y v a, b.mono g⟩
  · obtain ⟨p, _, vs, i, d⟩ := x.muts y a ds l
    exact ⟨vr y _ p, hr y a ds l, vs, i.at fun o e => at_ a (hr y a ds l) o e, d.mono g⟩

/-! iterators -/
structure Iters (prog : Program) (w : World) (A : Around) (W V own : List Addr) (tg : Expr) (it : Value) (S : List PyData → Heap → Prop) : Prop where
  frame : ∀ l s s', S l s.heap → Mv V s s' → S l s'.heap
  next : ∀ d l s (Q : Value → Shared → Prop) E, Ex W s.heap → S (d :: l) s.heap → (∀ v s', Mv own s s' → S l s'.heap → Den (fz W s'.heap) v d → Q v s') →
    wpAny (model prog w) A (pyNext it) (fun r s₁ => match r with | none => False | some v => wpAny (model prog w) A (letOwnedTupleGo tg it v) (fun _ s₂ => Q v s₂) E s₁) E s
  done : ∀ s (Q : Shared → Prop) E, S [] s.heap → (∀ s', Mx own s s' → Q s') → wpAny (model prog w) A (pyNext it) (fun r s₁ => match r with | none => Q s₁ | some _ => False) E s
  self : ∀ l s (Q : Value → Shared → Prop) E, S l s.heap → Q it s → wpAny (model prog w) A (pyIter it) Q E s
structure Src (prog : Program) (w : World) (A : Around) (W : List Addr) (s₀ : Shared) (t : Sem Value) (tg : Expr) (l : List PyData) : Prop where
  run : ∀ (E : Value → Shared → Prop) (s : Shared) (Q : Value → Shared → Prop), Keeps s₀ s →
  (∀ it own s₂, Keeps s s₂ → (∀ b ∈ own, s.heap.get? b = none) → Ex own s₂.heap →
    (∀ W' V s₃, (∀ b ∈ own, b ∈ W') → (∀ b ∈ V, b ∈ W') → (∀ b ∈ own, b ∉ V) → (∀ b ∈ W', b ∈ own ∨ b ∈ W ∨ s₂.heap.get? b = none) → Keeps s₂ s₃ → ∃ S, Iters prog w A W' V own tg it S ∧ S l s₃.heap) → Q it s₂) →
  wpAny (model prog w) A t (fun x s₁ => wpAny (model prog w) A (pyIter x) Q E s₁) E s

theorem letGo_list {prog : Program} {w : World} {A : Around} {E : Value → Shared → Prop} {s : Shared} {I ax : Addr} {i : Nat} (tg : Expr) (v : Value) {Q : Unit → Shared → Prop} (h : s.heap.IsListIter I ax i) (hQ : Q () s) : wpAny (model prog w) A (letOwnedTupleGo tg (.ref I) v) Q E s := by
  obtain ⟨o, ho, hc, hd⟩ := h
  have key : wpAny (model prog w) A (letOwnedTupleGo (.Tuple [] 0 default) (.ref I) v) Q E s := by
    cases v with
    | ref T => exact wpAny_letOwnedTupleGo_listiter ⟨o, ho, hc, hd⟩ hQ
    | _ => exact wpAny_pure hQ
  cases tg with
  | Tuple a b c => exact key
  | List a b => exact key
  | _ => exact wpAny_pure hQ

section
variable {prog : Program} {w : World} {A : Around} {W : List Addr} {s₀ : Shared} {env : Env}
theorem src_list {t : Sem Value} {l : List PyData} {tg : Expr} (hh : A.handled = none) (h : Ev prog w A W s₀ t (.list l)) : Src prog w A W s₀ t tg l := .mk fun E s Q k hQ => h.nest k fun x s₁ k₁ px => by
  obtain ⟨ax, vs, rfl, il, dn⟩ := px.isList
  refine wpAny_pyIter_list (isList_sub il) ?_
  have hne : ax ≠ s₁.heap.objs.size := by
    obtain ⟨o, e, _⟩ := isList_sub il
    exact Nat.ne_of_lt (Heap.lt_size e)
  have new : s₁.heap.get? s₁.heap.objs.size = none := Heap.get?_none_of_le (Nat.le_refl _)
  have up : ∀ b, s₁.heap.get? b = none → s.heap.get? b = none := fun b e => by
    cases q : s.heap.get? b with
    | none => rfl
    | some o => rw [kGr k₁ b o q] at e; cases e
  refine hQ _ [s₁.heap.objs.size] _ (kTrans k₁ kPush) (fun b m => ?_) (fun b m => ?_) fun W' V s₃ h1 h2 h3 h4 k₃ => ?_
  · cases m with
    | head => exact up _ new
    | tail _ m => cases m
  · cases m with
    | head => exact ⟨_, Heap.get?_push_size _ rfl⟩
    | tail _ m => cases m
  · have hI : s₁.heap.objs.size ∈ W' := h1 _ (.head _)
    have hw : ∀ b ∈ W', b ∈ W ∨ s₁.heap.get? b = none := fun b m => by
      rcases h4 b m with q | q | q
      · cases q with
        | head => exact .inr new
        | tail _ q => cases q
      · exact .inl q
      · refine .inr ?_
        cases z : s₁.heap.get? b with
        | none => rfl
        | some o => rw [Heap.get?_push_of_some _ z] at q; cases q
    have g₁ : Gr s₁.heap s₃.heap := Gr.trans (Gr.push _ _) (kGr k₃)
    have g : Gr (fz W s₁.heap) (fz W' s₃.heap) := fz_more hw fun b o _ e => g₁ b o e
    refine ⟨fun l' h' => ∃ i, h'.IsListIter s₁.heap.objs.size ax i ∧ (fz W' h').IsList ax vs.toArray ∧ Dens (fz W' h') vs l ∧ l' = l.drop i, ⟨?_, ?_, ?_, ?_⟩, 0, ?_, il.at fun o e => g _ o e, dn.mono g, by simp⟩
    · rintro l' a b ⟨i, p, q, r, e⟩ m
      have gg := (m.wide h2).gr
      exact ⟨i, p.at fun o e => m.at (h3 _ (.head _)) e, q.at fun o e => gg _ o e, r.mono gg, e⟩
    · rintro d l' a Q' E' _ ⟨i, p, q, r, e⟩ hq
      have hd : l[i]? = some d := by
        have := congrArg (·[0]?) e
        simpa using this.symm
      obtain ⟨v, hv, dv⟩ := r.get hd
      refine wpAny_pyNext_list_item p (isList_sub q) (x := v) (by simpa using hv) fun h' p' hs => ?_
      have mv : Mv [s₁.heap.objs.size] a { a with heap := h', toks := a.toks } := .but (.head _) hs (let ⟨o, e, _⟩ := p'; ⟨o, e⟩)
      have gg := (mv.wide (V := W') fun b m => by cases m with | head => exact hI | tail _ m => cases m).gr
      exact letGo_list tg v p' (hq v _ mv ⟨i + 1, p', q.at fun o e => gg _ o e, r.mono gg, by
        have := congrArg List.tail e
        simpa using this⟩ (dv.mono gg))
    · rintro a Q' E' ⟨i, p, q, r, e⟩ hq
      have hd : vs[i]? = none := by
        rw [List.getElem?_eq_none_iff, r.length]
        have := congrArg List.length e
        simp at this
        omega
      exact wpAny_pyNext_list_end hh p (isList_sub q) (by simpa using hd) fun h' hx => hq _ ⟨h', _, rfl, fun b o n e => hx b o (fun z => n (z ▸ .head _)) e⟩
    · rintro l' a Q' E' ⟨i, p, q, r, e⟩ hq
      exact wpAny_pyIter_listiter p hq
    · exact ⟨_, kGr k₃ _ _ (Heap.get?_push_size _ rfl), rfl, rfl⟩

/-! for -/
/-- W' is W and the iterator's own; the body may turn V -/
theorem ex_for {E : Value → Shared → Prop} {tg iter : Expr} {body : List Stmt} {pos : Pos} {s : Shared} {l : List PyData} {Q : Flow → Shared → Prop} (V : List Addr) (Inv : List Addr → List PyData → Shared → Prop) (hsrc : Src prog w A W s (eval iter env) tg l) (hV : ∀ b ∈ V, b ∈ W) (hx : Ex W s.heap)
    (start : ∀ own s₂, Keeps s s₂ → (∀ b ∈ own, s.heap.get? b = none) → Ex own s₂.heap → Inv own l s₂)
    (stab : ∀ own l' s₁ s₂, (∀ b ∈ own, b ∉ W) → Inv own l' s₁ → Mv own s₁ s₂ → Inv own l' s₂)
    (turn : ∀ own d l' v s₁ (E' : Value → Shared → Prop), (∀ b ∈ own, b ∉ W) → Inv own (d :: l') s₁ → Den (fz (own ++ W) s₁.heap) v d →
      wpAny (model prog w) A (assign tg env v) (fun _ s₂ => wpAny (model prog w) A (execs body env) (fun f s₃ => f = .next ∧ Mv V s₁ s₃ ∧ Inv own l' s₃) E' s₂) E' s₁)
    (fin : ∀ own s₁ s₂, (∀ b ∈ own, b ∉ W) → Inv own [] s₁ → Mx own s₁ s₂ → Q .next s₂) (hf : ∀ x, foldedSetIterable iter env x = pure x := by intro _; rfl) : wpAny (model prog w) A (exec (.For tg iter body [] pos) env) Q E s := by
  refine wpAny_For (hsrc.run E s _ (kRefl s) fun it own s₂ k hn ho hit => ?_) hf
  have off : ∀ b ∈ own, b ∉ W := fun b m q => by obtain ⟨o, e⟩ := hx b q; rw [hn b m] at e; cases e
  obtain ⟨S, I, hS⟩ := hit (own ++ W) V s₂ (fun b m => List.mem_append_left _ m) (fun b m => List.mem_append_right _ (hV b m)) (fun b m q => off b m (hV b q)) (fun b m => by
    rcases List.mem_append.mp m with q | q
    · exact .inl q
    · exact .inr (.inl q)) (kRefl _)
  have hx₂ : Ex (own ++ W) s₂.heap := fun b m => by
    rcases List.mem_append.mp m with q | q
    · exact ho b q
    · exact hx.mono (kGr k) b q
  refine codeAny_forLoop_any (fun n s' => ∃ l', n = l'.length ∧ Ex (own ++ W) s'.heap ∧ S l' s'.heap ∧ Inv own l' s') ?_ l.length ⟨l, rfl, hx₂, hS, start own s₂ k hn ho⟩
  rintro n s' ⟨l', rfl, hx', hS', hI⟩
  cases l' with
  | nil =>
    refine wpAny_mono (I.done s' _ _ hS' fun s₃ mx => fin own s' s₃ off hI mx) (fun r s₁ h => ?_) fun _ _ h => h
    cases r with
    | none => exact wpAny_execs_nil h
    | some v => exact h.elim
  | cons d l' =>
    refine wpAny_mono (I.next d l' s' (fun v s₃ => Ex (own ++ W) s₃.heap ∧ S l' s₃.heap ∧ Inv own (d :: l') s₃ ∧ Den (fz (own ++ W) s₃.heap) v d) _ hx' hS' fun v s₃ mv hS₃ dv => ⟨mv.ex hx', hS₃, stab own _ s' s₃ off hI mv, dv⟩) (fun r s₁ h => ?_) fun _ _ h => h
    cases r with
    | none => exact h.elim
    | some v =>
      refine wpAny_mono h (fun _ s₃ h₃ => ?_) fun _ _ h => h
      obtain ⟨hx₃, hS₃, hI₃, dv⟩ := h₃
      refine wpAny_mono (turn own d l' v s₃ _ off hI₃ dv) (fun _ s₄ h₄ => wpAny_mono h₄ (fun f s₅ h₅ => ?_) fun _ _ h => h) fun _ _ h => h
      obtain ⟨rfl, m5, i5⟩ := h₅
      exact ⟨l'.length, Nat.lt_succ_self _, l', rfl, m5.ex hx₃, I.frame l' s₃ s₅ hS₃ m5, i5⟩
end
end Mine
end
section
open PySem PySem.Spec PySem.Calls PyProof.Rows PySem.W
set_option maxRecDepth 100000
set_option linter.unusedVariables false
namespace Mine
def rng : Int → Nat → List PyData
  | _, 0 => []
  | a, n + 1 => .int a :: rng (a + 1) n
theorem isNone_of_gr {h h' : Heap} (g : Gr h h') {b : Addr} (e : h'.get? b = none) : h.get? b = none := by
  cases q : h.get? b with
  | none => rfl
  | some o => rw [g b o q] at e; cases e
theorem new_size (h : Heap) : h.get? h.objs.size = none := Heap.get?_none_of_le (Nat.le_refl _)
theorem new_above (h : Heap) {a : Addr} (l : h.objs.size ≤ a) : h.get? a = none := Heap.get?_none_of_le l
theorem mem1 {a b : Addr} (m : b ∈ [a]) : b = a := by cases m with | head => rfl | tail _ m => cases m
theorem letGo_name {x : Str} {p : Pos} (it v : Value) : letOwnedTupleGo (.Name x p) it v = pure () := rfl

section
variable {prog : Program} {w : World} {A : Around} {W : List Addr} {s₀ : Shared} {env : Env}
/-- a range's iterator, its name a plain one -/
theorem rangeIters (hh : A.handled = none) {W' V : List Addr} {I : Addr} {x : Str} {p : Pos} (hI : I ∈ W') (hV : I ∉ V) :
    Iters prog w A W' V [I] (.Name x p) (.ref I) (fun l h => ∃ (a : Int) (n : Nat), IsRangeIter h I a n 1 ∧ l = rng a n) := by
  refine ⟨?_, ?_, ?_, ?_⟩
  · rintro l s s' ⟨a, n, p, e⟩ m
    exact ⟨a, n, m.at hV p, e⟩
  · rintro d l s Q E _ ⟨a, n, p, e⟩ hq
    cases n with
    | zero => cases e
    | succ n =>
      cases e
      refine wpAny_pyNext_range_item p (by omega) fun h' p' hs => ?_
      have mv : Mv [I] s { s with heap := h', toks := s.toks + 1 } := .but (.head _) hs ⟨_, p'⟩
      show wpAny (model prog w) A (pure ()) _ _ _
      refine wpAny_pure (hq _ _ mv ⟨a + 1, n, ?_, rfl⟩ (Den.int ..))
      have : (((n + 1 : Nat) : Int) - 1) = (n : Int) := by omega
      rw [this] at p'
      exact p'
  · rintro s Q E ⟨a, n, p, e⟩ hq
    cases n with
    | succ n => cases e
    | zero => exact wpAny_pyNext_range_end hh p (by simp) fun h' hx => hq _ ⟨h', _, rfl, fun b o n e => hx b o (fun z => n (z ▸ .head _)) e⟩
  · rintro l s Q E ⟨a, n, p, e⟩ hq
    exact wpAny_pyIter_rangeiter p hq
theorem src_rangeAt (hh : A.handled = none) {E : Value → Shared → Prop} {s₁ : Shared} {r : Addr} {a b : Int} {t u v : Tok} {x : Str} {p : Pos} {Q : Value → Shared → Prop} (hr : IsRange s₁.heap r a b 1 t u v) (ha : -(2 ^ 62) ≤ a) (ha' : a < 2 ^ 62) (hb : -(2 ^ 62) ≤ b) (hb' : b < 2 ^ 62)
    (hQ : ∀ it own s₂, Keeps s₁ s₂ → (∀ b ∈ own, s₁.heap.get? b = none) → Ex own s₂.heap →
      (∀ W' V s₃, (∀ b ∈ own, b ∈ W') → (∀ b ∈ V, b ∈ W') → (∀ b ∈ own, b ∉ V) → (∀ b ∈ W', b ∈ own ∨ b ∈ W ∨ s₂.heap.get? b = none) → Keeps s₂ s₃ → ∃ S, Iters prog w A W' V own (.Name x p) it S ∧ S (rng a (b - a).toNat) s₃.heap) → Q it s₂) :
    wpAny (model prog w) A (pyIter (.ref r)) Q E s₁ := by
  refine wpAny_pyIter_range hr (small_one ha ha' hb hb') ?_
  refine hQ _ [s₁.heap.objs.size] _ kPush (fun b m => by rw [mem1 m]; exact new_size _) (fun b m => by rw [mem1 m]; exact ⟨_, Heap.get?_push_size _ rfl⟩) fun W' V s₃ h1 h2 h3 h4 k₃ => ?_
  refine ⟨_, rangeIters hh (h1 _ (.head _)) (h3 _ (.head _)), a, (b - a).toNat, ?_, rfl⟩
  have e : Builtin.Range.rangeSize a b 1 = ((b - a).toNat : Int) := by rw [rangeSize_one]; split <;> omega
  have := kGr k₃ _ _ (Heap.get?_push_size s₁.heap (o := { cls := .type "range_iterator", data := .fields #[rawInt a, rawInt (Builtin.Range.rangeSize a b 1), rawInt 1] }) rfl)
  rw [e] at this
  exact this
theorem src_up {s s₁ : Shared} {tg : Expr} {l : List PyData} {Q : Value → Shared → Prop} (k : Keeps s s₁)
    (hQ : ∀ it own s₂, Keeps s s₂ → (∀ b ∈ own, s.heap.get? b = none) → Ex own s₂.heap →
      (∀ W' V s₃, (∀ b ∈ own, b ∈ W') → (∀ b ∈ V, b ∈ W') → (∀ b ∈ own, b ∉ V) → (∀ b ∈ W', b ∈ own ∨ b ∈ W ∨ s₂.heap.get? b = none) → Keeps s₂ s₃ → ∃ S, Iters prog w A W' V own tg it S ∧ S l s₃.heap) → Q it s₂) :
    ∀ it own s₂, Keeps s₁ s₂ → (∀ b ∈ own, s₁.heap.get? b = none) → Ex own s₂.heap →
      (∀ W' V s₃, (∀ b ∈ own, b ∈ W') → (∀ b ∈ V, b ∈ W') → (∀ b ∈ own, b ∉ V) → (∀ b ∈ W', b ∈ own ∨ b ∈ W ∨ s₂.heap.get? b = none) → Keeps s₂ s₃ → ∃ S, Iters prog w A W' V own tg it S ∧ S l s₃.heap) → Q it s₂ :=
  fun it own s₂ k₂ hn hx hi => hQ it own s₂ (kTrans k k₂) (fun b m => isNone_of_gr (kGr k) (hn b m)) hx hi
theorem src_range1 {e : Expr} {y x : Str} {q pos p : Pos} {n : Int} (hh : A.handled = none) (hf : Is prog w A s₀ (eval (.Name y q) env) (.type "range")) (he : Ev prog w A W s₀ (eval e env) (.int n)) (hn : -(2 ^ 62) ≤ n) (hn' : n < 2 ^ 62) (hs : starEach [e] env = [(false, eval e env)] := by rfl) :
    Src prog w A W s₀ (eval (.Call (.Name y q) [e] [] pos) env) (.Name x p) (rng 0 n.toNat)   := .mk fun E s Q k hQ =>
  (ev_call1 (P := fun v s' => ∃ r t u z, v = .ref r ∧ IsRange s'.heap r 0 n 1 t u z) hf trivial he (fun v s₁ k₁ pv => by
    obtain ⟨t, rfl⟩ := pv.isInt
    exact .mk fun _ s₂ k₂ => call_range_1 ⟨⟨_, _, rfl, Gr.push _ _⟩, _, _, _, _, rfl, IsRange.new ..⟩) hs).nest k fun v s₁ k₁ ⟨r, t, u, z, e, hr⟩ => by
    subst e
    have := src_rangeAt (W := W) (p := p) (x := x) hh hr (by decide) (by decide) hn hn' (src_up (W := W) k₁ (l := rng 0 (n - 0).toNat) (by rw [Int.sub_zero]; exact hQ)) (E := E)
    exact this
theorem src_range2 {e e' : Expr} {y x : Str} {q pos p : Pos} {a b : Int} (hh : A.handled = none) (hf : Is prog w A s₀ (eval (.Name y q) env) (.type "range")) (he : Ev prog w A W s₀ (eval e env) (.int a)) (he' : Ev prog w A W s₀ (eval e' env) (.int b)) (ha : -(2 ^ 62) ≤ a) (ha' : a < 2 ^ 62) (hb : -(2 ^ 62) ≤ b) (hb' : b < 2 ^ 62)
    (hs : starEach [e, e'] env = [(false, eval e env), (false, eval e' env)] := by rfl) :
    Src prog w A W s₀ (eval (.Call (.Name y q) [e, e'] [] pos) env) (.Name x p) (rng a (b - a).toNat)   := .mk fun E s Q k hQ =>
  (ev_call2 (P := fun v s' => ∃ r t u z, v = .ref r ∧ IsRange s'.heap r a b 1 t u z) hf trivial he he' (fun v v' s₁ k₁ pv pv' => by
    obtain ⟨t, rfl⟩ := pv.isInt
    obtain ⟨t', rfl⟩ := pv'.isInt
    exact .mk fun _ s₂ k₂ => call_range_2 ⟨⟨_, _, rfl, Gr.push _ _⟩, _, _, _, _, rfl, IsRange.new ..⟩) hs).nest k fun v s₁ k₁ ⟨r, t, u, z, e, hr⟩ => by
    subst e
    exact src_rangeAt (W := W) (p := p) (x := x) hh hr ha ha' hb hb' (src_up (W := W) k₁ hQ) (E := E)

/-! enumerate over a list, two names to a turn -/
def enu : Int → List PyData → List PyData
  | _, [] => []
  | i, d :: l => .tuple [.int i, d] :: enu (i + 1) l
theorem enu_cons {i : Int} {l r : List PyData} {d : PyData} (e : d :: r = enu i l) : ∃ y l', l = y :: l' ∧ d = .tuple [.int i, y] ∧ r = enu (i + 1) l' := by
  cases l with
  | nil => cases e
  | cons y l' => cases e; exact ⟨y, l', rfl, rfl, rfl⟩
theorem wp_call1 {E : Value → Shared → Prop} {s : Shared} {x : Str} {p pos : Pos} {e : Expr} {f : Value} {d : PyData} {Q : Value → Shared → Prop} (hf : Is prog w A s₀ (eval (.Name x p) env) f) (cf : CanCall s₀.heap f) (he : Ev prog w A W s₀ (eval e env) d) (k : Keeps s₀ s)
    (hc : ∀ v s₁, Keeps s s₁ → Den (fz W s₁.heap) v d → wpAny (model prog w) A (call f [v]) Q E s₁) (hs : starEach [e] env = [(false, eval e env)] := by rfl) : wpAny (model prog w) A (eval (.Call (.Name x p) [e] [] pos) env) Q E s :=
  Call_Name1 (hf.nest k fun v s₁ k₁ ev => by
    subst ev
    exact callWith_any (first := []) (cf.keeps (kGr (kTrans k k₁))) rfl (spliced_cons (he.nest (kTrans k k₁) fun a s₂ k₂ pa => spliced_nil ⟨kGr k₂, hc a s₂ (kTrans k₁ k₂) pa⟩))) hs
theorem wp_call2 {E : Value → Shared → Prop} {s : Shared} {x : Str} {p pos : Pos} {e e' : Expr} {f : Value} {d d' : PyData} {Q : Value → Shared → Prop} (hf : Is prog w A s₀ (eval (.Name x p) env) f) (cf : CanCall s₀.heap f) (he : Ev prog w A W s₀ (eval e env) d) (he' : Ev prog w A W s₀ (eval e' env) d') (k : Keeps s₀ s)
    (hc : ∀ v v' s₁, Keeps s s₁ → Den (fz W s₁.heap) v d → Den (fz W s₁.heap) v' d' → wpAny (model prog w) A (call f [v, v']) Q E s₁) (hs : starEach [e, e'] env = [(false, eval e env), (false, eval e' env)] := by rfl) : wpAny (model prog w) A (eval (.Call (.Name x p) [e, e'] [] pos) env) Q E s :=
  Call_Name2 (hf.nest k fun v s₁ k₁ ev => by
    subst ev
    exact callWith_any (first := []) (cf.keeps (kGr (kTrans k k₁))) rfl (spliced_cons (he.nest (kTrans k k₁) fun a s₂ k₂ pa => spliced_cons (he'.nest (kTrans k (kTrans k₁ k₂)) fun b s₃ k₃ pb => spliced_nil ⟨kGr (kTrans k₂ k₃), hc a b s₃ (kTrans k₁ (kTrans k₂ k₃)) (pa.mono (fz_gr (kGr k₃))) pb⟩)))) hs
theorem mvOf {s : Shared} {own : List Addr} {h' : Heap} {t : Nat} (k : ∀ b o, b ∉ own → s.heap.get? b = some o → h'.get? b = some o) (x : Ex own h') : Mv own s { s with heap := h', toks := t } :=
  ⟨h', t, rfl, k, fun b ⟨o, e⟩ => by
    by_cases m : b ∈ own
    · exact x b m
    · exact ⟨o, k b o m e⟩⟩
theorem src_enum {v : Expr} {y : Str} {q pos tp : Pos} {n : Nat} {ts : List Expr} {l : List PyData} (hh : A.handled = none) (hf : Is prog w A s₀ (eval (.Name y q) env) (.type "enumerate")) (hv : Ev prog w A W s₀ (eval v env) (.list l)) (hs : starEach [v] env = [(false, eval v env)] := by rfl) :
    Src prog w A W s₀ (eval (.Call (.Name y q) [v] [] pos) env) (.Tuple ts n tp) (enu 0 l)   := .mk fun E s Q k hQ => by
  refine wp_call1 hf trivial hv k (fun v s₁ k₁ pv => ?_) hs
  obtain ⟨ax, vs, rfl, il, dn⟩ := pv.isList
  refine call_enumerate_list (isList_sub il) fun h' a1 a2 a3 a4 => wpAny_pyIter_enum a1 ?_
  have hne : ∀ b, s₁.heap.objs.size ≤ b → ax ≠ b := fun b hb => by
    obtain ⟨o, e, _⟩ := isList_sub il
    exact Nat.ne_of_lt (Nat.lt_of_lt_of_le (Heap.lt_size e) hb)
  have own : ∀ b ∈ [s₁.heap.objs.size + 1, s₁.heap.objs.size], s₁.heap.objs.size ≤ b := fun b m => by
    rcases List.mem_cons.mp m with rfl | m
    · exact Nat.le_succ _
    · rw [mem1 m]; exact Nat.le_refl _
  refine hQ _ [s₁.heap.objs.size + 1, s₁.heap.objs.size] { s₁ with heap := h' } (kTrans k₁ ⟨h', s₁.toks, rfl, a4⟩) (fun b m => isNone_of_gr (kGr k₁) (new_above _ (own b m))) (fun b m => ?_) fun W' V s₃ h1 h2 h3 h4 k₃ => ?_
  · rcases List.mem_cons.mp m with rfl | m
    · exact ⟨_, a1⟩
    · rw [mem1 m]; obtain ⟨o, e, _⟩ := a2; exact ⟨o, e⟩
  · have hw : ∀ b ∈ W', b ∈ W ∨ s₁.heap.get? b = none := fun b m => by
      rcases h4 b m with q | q | q
      · exact .inr (new_above _ (own b q))
      · exact .inl q
      · exact .inr (isNone_of_gr a4 q)
    have g : Gr (fz W s₁.heap) (fz W' s₃.heap) := fz_more hw fun b o _ e => kGr k₃ b o (a4 b o e)
    generalize hE : s₁.heap.objs.size + 1 = eA at *
    generalize hI : s₁.heap.objs.size = iA at *
    have eW : eA ∈ W' := h1 _ (.head _)
    have iW : iA ∈ W' := h1 _ (.tail _ (.head _))
    have ei : eA ≠ iA := by omega
    refine ⟨fun l' h' => ∃ (i : Nat) (old : Value), IsEnum h' eA iA i old ∧ h'.IsListIter iA ax i ∧ (fz W' h').IsList ax vs.toArray ∧ Dens (fz W' h') vs l ∧ l' = enu i (l.drop i), ⟨?_, ?_, ?_, ?_⟩, 0, .none, kGr k₃ _ _ a1, a2.at fun o e => kGr k₃ _ o e, il.at fun o e => g _ o e, dn.mono g, by simp⟩
    · rintro l' a b ⟨i, old, p, p2, q, r, e⟩ m
      have gg := (m.wide h2).gr
      exact ⟨i, old, m.at (h3 _ (.head _)) p, p2.at fun o e => m.at (h3 _ (.tail _ (.head _))) e, q.at fun o e => gg _ o e, r.mono gg, e⟩
    · rintro d l' a Q' E' hxa ⟨i, old, p, p2, q, r, e⟩ hq
      obtain ⟨y', t', e1, rfl, rfl⟩ := enu_cons e
      have hd : l[i]? = some y' := by
        have := congrArg (·[0]?) e1
        simpa using this
      obtain ⟨v, hv, dv⟩ := r.get hd
      refine wpAny_pyNext_enum_item p p2 (isList_sub q) (x := v) (by simpa using hv) ei fun h2' b1 b2 b3 b4 b5 => ?_
      refine wpAny_letOwnedTupleGo_enum b1 fun h3' c1 c2 => ?_
      have mv : Mv [eA, iA] a { a with heap := h3', toks := a.toks + 1 } := mvOf (fun b o n e => (c2.2 b (fun z => n (z ▸ .head _))).trans (b5 b o (fun z => n (z ▸ .head _)) (fun z => n (z ▸ .tail _ (.head _))) e)) fun b m => by
        rcases List.mem_cons.mp m with rfl | m
        · exact ⟨_, c1⟩
        · rw [mem1 m]; obtain ⟨o, e, _⟩ := b2; exact ⟨o, (c2.2 _ ei.symm).trans e⟩
      have gg := (mv.wide (V := W') fun b m => by
        rcases List.mem_cons.mp m with rfl | m
        · exact eW
        · rw [mem1 m]; exact iW).gr
      have tn : ∀ {c o}, a.heap.get? c = some o → a.heap.objs.size ≠ c := fun e => Nat.ne_of_gt (Heap.lt_size e)
      have T : h3'.get? a.heap.objs.size = some { cls := .type "tuple", data := .seq #[.int (i : Int) a.toks, v] } := (c2.2 _ (tn p)).trans b3
      refine hq _ _ mv ⟨i + 1, v, by exact_mod_cast c1, b2.at fun o e => (c2.2 _ ei.symm).trans e, q.at fun o e => gg _ o e, r.mono gg, ?_⟩ ?_
      · have := congrArg List.tail e1
        simp at this
        rw [← this]; rfl
      · refine .tuple (vs := [.int (i : Int) a.toks, v]) ⟨_, fz_at T hxa.fresh, rfl, _, rfl⟩ (.cons (Den.int ..) (.cons (dv.mono gg) (.nil _)))
    · rintro a Q' E' ⟨i, old, p, p2, q, r, e⟩ hq
      have hd : vs[i]? = none := by
        rw [List.getElem?_eq_none_iff, r.length]
        cases hl : l.drop i with
        | nil => have := congrArg List.length hl; simp at this; omega
        | cons y t => rw [hl] at e; cases e
      exact wpAny_pyNext_enum_end hh p p2 (isList_sub q) (by simpa using hd) fun h' hx => hq _ ⟨h', _, rfl, fun b o n e => hx b o (fun z => n (z ▸ .tail _ (.head _))) e⟩
    · rintro l' a Q' E' ⟨i, old, p, p2, q, r, e⟩ hq
      exact wpAny_pyIter_enum p hq
end
end Mine
end
section
open PySem PySem.Spec PySem.Calls PyProof.Rows PySem.W
set_option maxRecDepth 100000
set_option linter.unusedVariables false
namespace Mine
def zipD : List PyData → List PyData → List PyData
  | x :: xs, y :: ys => .tuple [x, y] :: zipD xs ys
  | _, _ => []
theorem zipD_cons {a b r : List PyData} {d : PyData} (e : d :: r = zipD a b) : ∃ x y a' b', a = x :: a' ∧ b = y :: b' ∧ d = .tuple [x, y] ∧ r = zipD a' b' := by
  cases a with
  | nil => cases e
  | cons x a' =>
    cases b with
    | nil => cases e
    | cons y b' => cases e; exact ⟨x, y, a', b', rfl, rfl, rfl, rfl⟩
theorem zipD_nil {a b : List PyData} (e : [] = zipD a b) : a = [] ∨ b = [] := by
  cases a with
  | nil => exact .inl rfl
  | cons x a' =>
    cases b with
    | nil => exact .inr rfl
    | cons y b' => cases e
section
variable {prog : Program} {w : World} {A : Around} {W : List Addr} {s₀ : Shared} {env : Env}
/-- what stands of a zip over two lists at its i-th turn -/
structure ZipAt (z : Addr) (f0 : Value) (l1 l2 : Addr) (n : Addr) (i : Nat) (h : Heap) : Prop where
  z : IsZip h z (n + 2) (n + 3) f0
  ti : IsPair h (n + 2) (.ref n) (.ref (n + 1))
  to : ∃ a b, IsPair h (n + 3) a b
  i1 : h.IsListIter n l1 i
  i2 : h.IsListIter (n + 1) l2 i
theorem zipApart {n l1 l2 : Nat} (h1 : l1 < n) (h2 : l2 < n) : ZipApart (n + 4) (n + 2) (n + 3) n (n + 1) l1 l2 := by
  constructor <;> first | (exact Nat.ne_of_lt (by first | omega | exact Nat.lt_of_lt_of_le h1 (Nat.le_add_right _ _) | exact Nat.lt_of_lt_of_le h2 (Nat.le_add_right _ _) | exact h1 | exact h2)) | simp
theorem src_zip {v v' : Expr} {y : Str} {q pos tp : Pos} {n : Nat} {ts : List Expr} {l l' : List PyData} (hh : A.handled = none) (hf : Is prog w A s₀ (eval (.Name y q) env) (.type "zip")) (hv : Ev prog w A W s₀ (eval v env) (.list l)) (hv' : Ev prog w A W s₀ (eval v' env) (.list l')) (hs : starEach [v, v'] env = [(false, eval v env), (false, eval v' env)] := by rfl) :
    Src prog w A W s₀ (eval (.Call (.Name y q) [v, v'] [] pos) env) (.Tuple ts n tp) (zipD l l') := .mk fun E s Q k hQ => by
  refine wp_call2 hf trivial hv hv' k (fun v v' s₁ k₁ pv pv' => ?_) hs
  obtain ⟨ax, vs, rfl, il, dn⟩ := pv.isList
  obtain ⟨ay, us, rfl, jl, en⟩ := pv'.isList
  have lx : ax < s₁.heap.objs.size := by obtain ⟨o, e, _⟩ := isList_sub il; exact Heap.lt_size e
  have ly : ay < s₁.heap.objs.size := by obtain ⟨o, e, _⟩ := isList_sub jl; exact Heap.lt_size e
  refine call_zip_2 (isList_sub il) (isList_sub jl) fun h' a1 a2 a3 a4 a5 a6 a7 => wpAny_pyIter_zip a1 ?_
  have D := zipApart lx ly
  have own : ∀ b ∈ [s₁.heap.objs.size + 4, s₁.heap.objs.size + 3, s₁.heap.objs.size, s₁.heap.objs.size + 1, s₁.heap.objs.size + 2], s₁.heap.objs.size ≤ b := fun b m => by
    simp at m; omega
  refine hQ _ [s₁.heap.objs.size + 4, s₁.heap.objs.size + 3, s₁.heap.objs.size, s₁.heap.objs.size + 1, s₁.heap.objs.size + 2] { s₁ with heap := h' } (kTrans k₁ ⟨h', s₁.toks, rfl, a7⟩) (fun b m => isNone_of_gr (kGr k₁) (new_above _ (own b m))) (fun b m => ?_) fun W' V s₃ h1 h2 h3 h4 k₃ => ?_
  · obtain ⟨o1, e1, _⟩ := a4
    obtain ⟨o2, e2, _⟩ := a5
    simp at m
    rcases m with rfl | rfl | rfl | rfl | rfl
    · exact ⟨_, a1⟩
    · exact ⟨_, a3⟩
    · exact ⟨_, e1⟩
    · exact ⟨_, e2⟩
    · exact ⟨_, a2⟩
  · have hw : ∀ b ∈ W', b ∈ W ∨ s₁.heap.get? b = none := fun b m => by
      rcases h4 b m with q | q | q
      · exact .inr (new_above _ (own b q))
      · exact .inl q
      · exact .inr (isNone_of_gr a7 q)
    have g : Gr (fz W s₁.heap) (fz W' s₃.heap) := fz_more hw fun b o _ e => kGr k₃ b o (a7 b o e)
    generalize hN : s₁.heap.objs.size = N at *
    refine ⟨fun r h' => ∃ i, ZipAt (N + 4) .none ax ay N i h' ∧ (fz W' h').IsList ax vs.toArray ∧ (fz W' h').IsList ay us.toArray ∧ Dens (fz W' h') vs l ∧ Dens (fz W' h') us l' ∧ r = zipD (l.drop i) (l'.drop i), ⟨?_, ?_, ?_, ?_⟩, 0,
      ⟨kGr k₃ _ _ a1, kGr k₃ _ _ a2, ⟨_, _, kGr k₃ _ _ a3⟩, a4.at fun o e => kGr k₃ _ o e, a5.at fun o e => kGr k₃ _ o e⟩, il.at fun o e => g _ o e, jl.at fun o e => g _ o e, dn.mono g, en.mono g, by simp⟩
    · rintro r a b ⟨i, Z, p, q, d1, d2, e⟩ m
      have gg := (m.wide h2).gr
      obtain ⟨a', b', t⟩ := Z.to
      exact ⟨i, ⟨m.at (h3 _ (by simp)) Z.z, m.at (h3 _ (by simp)) Z.ti, ⟨a', b', m.at (h3 _ (by simp)) t⟩, Z.i1.at fun o e => m.at (h3 _ (by simp)) e, Z.i2.at fun o e => m.at (h3 _ (by simp)) e⟩, p.at fun o e => gg _ o e, q.at fun o e => gg _ o e, d1.mono gg, d2.mono gg, e⟩
    · rintro d r a Q' E' hxa ⟨i, Z, p, q, d1, d2, e⟩ hq
      obtain ⟨x', y', t1, t2, e1, e2, rfl, rfl⟩ := zipD_cons e
      have hd1 : l[i]? = some x' := by have := congrArg (·[0]?) e1; simpa using this
      have hd2 : l'[i]? = some y' := by have := congrArg (·[0]?) e2; simpa using this
      obtain ⟨v1, hv1, dv1⟩ := d1.get hd1
      obtain ⟨v2, hv2, dv2⟩ := d2.get hd2
      obtain ⟨a', b', t⟩ := Z.to
      refine wpAny_pyNext_zip_item D Z.z Z.ti t Z.i1 Z.i2 (isList_sub p) (isList_sub q) (x := v1) (y := v2) (by simpa using hv1) (by simpa using hv2) fun h2' b1 b2 b3 b4 b5 b6 b7 => ?_
      refine wpAny_letOwnedTupleGo_zip b1 fun h3' c1 c2 => ?_
      have kk : ∀ b o, b ≠ N + 4 → b ≠ N + 3 → b ≠ N → b ≠ N + 1 → a.heap.get? b = some o → h3'.get? b = some o := fun b o n1 n2 n3 n4 e => (c2.2 b n1).trans (b7 b o n1 n2 n3 n4 e)
      have Z' : ZipAt (N + 4) .none ax ay N (i + 1) h3' := ⟨c1, kk _ _ (by simp) (by simp) (by simp) (by simp) Z.ti, ⟨v1, v2, (c2.2 _ (by simp)).trans b2⟩, b3.at fun o e => (c2.2 _ (by simp)).trans e, b4.at fun o e => (c2.2 _ (by simp)).trans e⟩
      have mv : Mv [N + 4, N + 3, N, N + 1, N + 2] a { a with heap := h3', toks := a.toks } := mvOf (fun b o n e => by simp at n; exact kk b o n.1 n.2.1 n.2.2.1 n.2.2.2.1 e) fun b m => by
        obtain ⟨o1, x1, _⟩ := Z'.i1
        obtain ⟨o2, x2, _⟩ := Z'.i2
        obtain ⟨_, _, x3⟩ := Z'.to
        simp at m
        rcases m with rfl | rfl | rfl | rfl | rfl
        · exact ⟨_, c1⟩
        · exact ⟨_, x3⟩
        · exact ⟨_, x1⟩
        · exact ⟨_, x2⟩
        · exact ⟨_, Z'.ti⟩
      have gg := (mv.wide (V := W') h1).gr
      have tn : ∀ {c o}, a.heap.get? c = some o → a.heap.objs.size ≠ c := fun e => Nat.ne_of_gt (Heap.lt_size e)
      have T : h3'.get? a.heap.objs.size = some { cls := .type "tuple", data := .seq #[v1, v2] } := (c2.2 _ (tn Z.z)).trans b5
      refine hq _ _ mv ⟨i + 1, Z', p.at fun o e => gg _ o e, q.at fun o e => gg _ o e, d1.mono gg, d2.mono gg, ?_⟩ ?_
      · have z1 := congrArg List.tail e1
        have z2 := congrArg List.tail e2
        simp at z1 z2
        rw [← z1, ← z2]
      · exact .tuple (vs := [v1, v2]) ⟨_, fz_at T hxa.fresh, rfl, _, rfl⟩ (.cons (dv1.mono gg) (.cons (dv2.mono gg) (.nil _)))
    · rintro a Q' E' ⟨i, Z, p, q, d1, d2, e⟩ hq
      obtain ⟨a', b', t⟩ := Z.to
      have hd : vs.toArray[i]? = none ∨ us.toArray[i]? = none := by
        rcases zipD_nil e with e | e
        · left
          have := congrArg List.length e
          simp at this
          simp [d1.length]; omega
        · right
          have := congrArg List.length e
          simp at this
          simp [d2.length]; omega
      exact wpAny_pyNext_zip_end hh D Z.z Z.ti t Z.i1 Z.i2 (isList_sub p) (isList_sub q) hd fun h' hx => hq _ ⟨h', _, rfl, fun b o n e => by simp at n; exact hx b o n.1 n.2.1 n.2.2.1 n.2.2.2.1 e⟩
    · rintro r a Q' E' ⟨i, Z, p, q, d1, d2, e⟩ hq
      exact wpAny_pyIter_zip Z.z hq
end
end Mine
end
section
open PySem PySem.Spec PySem.Calls PyProof.Rows PySem.W
set_option maxRecDepth 100000
set_option linter.unusedVariables false
namespace Mine
section
variable {prog : Program} {w : World} {A : Around} {W W' V own : List Addr} {s s₀ : Shared} {env cenv : Env} {σ σf : Sig} {ρ : Rho}
theorem comp_loop {elt tg : Expr} {gens : List Comprehension} {scope : Scope} {pos p : Pos} {depth : Nat} {it acc : Value} {T : Sem Fin} {R : Result → Shared → Prop} {S : List PyData → Heap → Prop} {l : List PyData}
    (hturn : compTurn (.ListComp elt gens scope pos) depth it acc cenv = (standAt p >>= fun _ => pyNext it >>= fun r => match r with | none => pure (.done .next) | some v => letOwnedTupleGo tg it v >>= fun _ => assign tg cenv v >>= fun _ => T))
    (I : Iters prog w A W' V own tg it S) (J : List PyData → Shared → Prop) (stab : ∀ r s s', J r s → Mv own s s' → J r s')
    (turn : ∀ d r v s (E : Value → Shared → Prop), Ex W' s.heap → J (d :: r) s → Den (fz W' s.heap) v d → wpAny (model prog w) A (assign tg cenv v) (fun _ s₂ => wpAny (model prog w) A T (fun fin s₃ => fin = .again (.compLoop (.ListComp elt gens scope pos) depth it acc cenv) ∧ Mv V s s₃ ∧ J r s₃) E s₂) E s)
    (fin : ∀ s₁ s₂, J [] s₁ → Mx own s₁ s₂ → R (.ok .next) s₂) (hx : Ex W' s.heap) (hS : S l s.heap) (hJ : J l s) :
    codeAny (model prog w) A (.compLoop (.ListComp elt gens scope pos) depth it acc cenv) R s := by
  refine codeAny_loop rfl (fun n s' => ∃ r, n = r.length ∧ Ex W' s'.heap ∧ S r s'.heap ∧ J r s') (fun n s' hI => ?_) l.length ⟨l, rfl, hx, hS, hJ⟩
  obtain ⟨r, rfl, hx', hS', hJ'⟩ := hI
  show wpAny _ A ((compTurn (.ListComp elt gens scope pos) depth it acc cenv).onRaise (fun x => do noteFrame x cenv; theTreesLotGoes x)) _ _ s'
  refine wpAny_noted ?_
  rw [hturn]
  refine wpAny_bind (wpAny_standAt (wpAny_bind ?_))
  cases r with
  | nil =>
    refine wpAny_mono (I.done s' _ _ hS' fun s₃ mx => fin s' s₃ hJ' mx) (fun r s₁ h => ?_) fun _ _ h => h
    cases r with
    | none => exact wpAny_pure h
    | some v => exact h.elim
  | cons d r =>
    refine wpAny_mono (I.next d r s' (fun v s₃ => Ex W' s₃.heap ∧ S r s₃.heap ∧ J (d :: r) s₃ ∧ Den (fz W' s₃.heap) v d) _ hx' hS' fun v s₃ mv hS₃ dv => ⟨mv.ex hx', hS₃, stab _ s' s₃ hJ' mv, dv⟩) (fun r' s₁ h => ?_) fun _ _ h => h
    cases r' with
    | none => exact h.elim
    | some v =>
      refine wpAny_bind (wpAny_mono h (fun _ s₃ h₃ => ?_) fun _ _ h => h)
      obtain ⟨hx₃, hS₃, hJ₃, dv⟩ := h₃
      refine wpAny_bind (wpAny_mono (turn d r v s₃ _ hx₃ hJ₃ dv) (fun _ s₄ h₄ => wpAny_mono h₄ (fun f s₅ h₅ => ?_) fun _ _ h => h) fun _ _ h => h)
      obtain ⟨rfl, m5, i5⟩ := h₅
      exact ⟨rfl, r.length, Nat.lt_succ_self _, r, rfl, m5.ex hx₃, I.frame r s₃ s₅ hS₃ m5, i5⟩

/-- the tests of a clause -/
abbrev Tests (prog : Program) (w : World) (A : Around) (s₀ : Shared) (cenv : Env) (ifs : List Expr) (b : Bool) : Prop :=
  Do prog w A s₀ (forIn ifs true fun c r => if r = true then do let ok ← isTrue c cenv (eval c cenv); pure (ForInStep.yield ok) else pure (ForInStep.yield r)) (fun r _ => r = b)
theorem tests_nil : Tests prog w A s₀ cenv [] true := .mk fun _ s _ => wpAny_tests_nil ⟨kRefl s, rfl⟩
theorem tests_one {c : Expr} {b : Bool} (h : Tst prog w A s₀ cenv c b) : Tests prog w A s₀ cenv [c] b := .mk fun E s k => wpAny_tests_one (h.run E s k)

/-- a list that is being filled -/
def Acc (W : List Addr) (h : Heap) (D : Addr) (ds : List PyData) : Prop := ∃ vs, h.IsList D vs.toArray ∧ Dens (fz W h) vs ds
theorem Acc.keeps {h h' : Heap} {D : Addr} {ds : List PyData} (x : Acc W h D ds) (g : Gr h h') : Acc W h' D ds := let ⟨vs, i, d⟩ := x; ⟨vs, i.at fun o e => g _ o e, d.mono (fz_gr g)⟩
theorem Acc.but {D : Addr} {ds : List PyData} {s s' : Shared} (x : Acc W s.heap D ds) (k : Mv V s s') (hv : ∀ b ∈ V, b ∈ W) (hD : D ∉ V) : Acc W s'.heap D ds := let ⟨vs, i, d⟩ := x; ⟨vs, i.at fun o e => k.at hD e, d.mono (k.wide hv).gr⟩
theorem acc_append {E : Value → Shared → Prop} {D : Addr} {ds : List PyData} {v : Value} {d : PyData} {Q : Value → Shared → Prop} (x : Acc W s.heap D ds) (hD : D ∈ W) (hd : Den (fz W s.heap) v d) (hz : ds.length ≤ sizeLine)
    (h : ∀ s', Mv [D] s s' → Acc W s'.heap D (ds ++ [d]) → Q .none s') : wpAny (model prog w) A (call (.builtin "list.append") [.ref D, v]) Q E s := by
  obtain ⟨vs, i, dn⟩ := x
  refine wpAny_list_append i (fun h' i' hs => ?_) (by rw [show vs.toArray.size = ds.length by simpa using dn.length]; exact hz)
  have mv : Mv [D] s { s with heap := h', toks := s.toks } := .but (.head _) hs (let ⟨o, e, _⟩ := i'; ⟨o, e⟩)
  have g := (mv.wide (V := W) fun b m => by rw [mem1 m]; exact hD).gr
  exact h _ mv ⟨vs ++ [v], by simpa using i', (dn.mono g).append (.cons (hd.mono g) (.nil _))⟩

theorem turn_list (elt target iter : Expr) (ifs : List Expr) (scope : Scope) (pos : Pos) (it acc : Value) (env : Env) :
    compTurn (.ListComp elt [⟨target, iter, ifs, 0⟩] scope pos) 0 it acc env = (standAt iter.pos >>= fun _ => pyNext it >>= fun r => match r with
      | none => pure (.done .next)
      | some v => letOwnedTupleGo target it v >>= fun _ => assign target env v >>= fun _ =>
        (forIn ifs true fun c r => if r = true then do let ok ← isTrue c env (eval c env); pure (ForInStep.yield ok) else pure (ForInStep.yield r)) >>= fun ok =>
          if ok = true then (eval elt env >>= fun x => call (.builtin "list.append") [acc, x] >>= fun _ => pure ()) >>= fun _ => again (.compLoop (.ListComp elt [⟨target, iter, ifs, 0⟩] scope pos) 0 it acc env)
          else again (.compLoop (.ListComp elt [⟨target, iter, ifs, 0⟩] scope pos) 0 it acc env)) := by rfl
theorem turn_list1 (elt target iter : Expr) (ifs : List Expr) (g : Comprehension) (scope : Scope) (pos : Pos) (it acc : Value) (env : Env) :
    compTurn (.ListComp elt [g, ⟨target, iter, ifs, 0⟩] scope pos) 1 it acc env = (standAt iter.pos >>= fun _ => pyNext it >>= fun r => match r with
      | none => pure (.done .next)
      | some v => letOwnedTupleGo target it v >>= fun _ => assign target env v >>= fun _ =>
        (forIn ifs true fun c r => if r = true then do let ok ← isTrue c env (eval c env); pure (ForInStep.yield ok) else pure (ForInStep.yield r)) >>= fun ok =>
          if ok = true then (eval elt env >>= fun x => call (.builtin "list.append") [acc, x] >>= fun _ => pure ()) >>= fun _ => again (.compLoop (.ListComp elt [g, ⟨target, iter, ifs, 0⟩] scope pos) 1 it acc env)
          else again (.compLoop (.ListComp elt [g, ⟨target, iter, ifs, 0⟩] scope pos) 1 it acc env)) := by rfl
theorem turn_list0 (elt target iter target' iter' : Expr) (ifs' : List Expr) (scope : Scope) (pos : Pos) (it acc : Value) (env : Env) :
    compTurn (.ListComp elt [⟨target, iter, [], 0⟩, ⟨target', iter', ifs', 0⟩] scope pos) 0 it acc env = (standAt iter.pos >>= fun _ => pyNext it >>= fun r => match r with
      | none => pure (.done .next)
      | some v => letOwnedTupleGo target it v >>= fun _ => assign target env v >>= fun _ =>
        eval iter' env >>= fun x => standAt iter'.pos >>= fun _ => foldedSetIterable iter' env x >>= fun x => holding [x] (pyIter x) >>= fun it' => runOwn (.compStart (.ListComp elt [⟨target, iter, [], 0⟩, ⟨target', iter', ifs', 0⟩] scope pos) 1 it' acc env) env >>= fun _ =>
          again (.compLoop (.ListComp elt [⟨target, iter, [], 0⟩, ⟨target', iter', ifs', 0⟩] scope pos) 0 it acc env)) := by rfl
/-- a turn that tests, reckons, appends -/
theorem turn_emit {E : Value → Shared → Prop} {D : Addr} {elt : Expr} {ifs : List Expr} {c : Code} {out : List PyData} {b : Bool} {d : PyData} {P : Shared → Prop} (hD : D ∈ W') (ha : Acc W' s.heap D out) (ht : Tests prog w A s cenv ifs b) (he : b = true → Ev prog w A W' s (eval elt cenv) d) (hz : out.length ≤ sizeLine)
    (h : ∀ s₁ s₂, Keeps s s₁ → Mv [D] s₁ s₂ → Acc W' s₂.heap D (out ++ if b = true then [d] else []) → P s₂) :
    wpAny (model prog w) A ((forIn ifs true fun c r => if r = true then do let ok ← isTrue c cenv (eval c cenv); pure (ForInStep.yield ok) else pure (ForInStep.yield r)) >>= fun ok =>
          if ok = true then (eval elt cenv >>= fun x => call (.builtin "list.append") [.ref D, x] >>= fun _ => pure ()) >>= fun _ => again c else again c) (fun fin s₃ => fin = .again c ∧ P s₃) E s := by
  refine wpAny_bind (ht.nest (kRefl s) fun r s₁ k₁ e => ?_)
  subst e
  cases r with
  | false =>
    rw [if_neg (by decide)]
    exact wpAny_pure ⟨rfl, h s₁ s₁ k₁ (Mv.refl _ _) (by simpa using ha.keeps (kGr k₁))⟩
  | true =>
    rw [if_pos rfl]
    refine wpAny_bind (wpAny_bind ((he rfl).nest k₁ fun x s₂ k₂ px => wpAny_bind (acc_append (ha.keeps (kGr (kTrans k₁ k₂))) hD px hz fun s₃ m a => wpAny_pure (wpAny_pure ⟨rfl, h s₂ s₃ (kTrans k₁ k₂) m (by simpa using a)⟩))))
end
end Mine
end
section
open PySem PySem.Spec PySem.Calls PyProof.Rows PySem.W
set_option maxRecDepth 100000
set_option linter.unusedVariables false
namespace Mine
/-- what a comprehension's own frame takes from around it -/
structure CompOk (env : Env) (scope : Scope) (cl : List (Str × Addr)) (σ σf : Sig) : Prop where
  clos : closureFor scope env = pure cl
  kind : scope.kind = .function
  names : ∀ x ∈ scope.names, x.2 = .local → scope.names.lookup x.1 = some .local
  sub : ∀ x c, cl.lookup x = some c → env.cells.lookup x = some c
  free : ∀ x d, σf.lookup x = some d → σ.lookup x = some d ∧ (env.kindOf x = some .cell ∨ env.kindOf x = some .free) ∧ ((relabel scope env).names.lookup x = some .cell ∨ (relabel scope env).names.lookup x = some .free) ∧ cl.lookup x = env.cells.lookup x
section
variable {prog : Program} {w : World} {A : Around} {E : Value → Shared → Prop} {W W' V own : List Addr} {s s₀ : Shared} {env : Env} {σ σf : Sig} {ρ : Rho} {scope : Scope} {cl : List (Str × Addr)}
theorem CompOk.envOk (ok : EnvOk env W) (c : CompOk env scope cl σ σf) {C : Addr} (hC : C ∈ W') (hw : ∀ b ∈ W, b ∈ W') (hn : C ∉ W) : EnvOk (compEnvC scope cl C env) W' where
  kind := c.kind
  loc := hC
  cell := fun x a l => hw _ (ok.cell x a (c.sub x a l))
  apart := fun x y a l l' => ok.apart x y a (c.sub x a l) (c.sub y a l')
  ne := fun x a l e => by
    have e : a = C := e
    subst e
    exact hn (ok.cell x a (c.sub x a l))
theorem CompOk.st (c : CompOk env scope cl σ σf) (S : St env W σ ρ s) {C : Addr} {m' : Str → Option Value} {s' : Shared} (k : Keeps s s') (hn : s'.heap.Ns C m') (hx : Ex W' s'.heap) (hw : ∀ b ∈ W', b ∈ W ∨ s.heap.get? b = none) : St (compEnvC scope cl C env) W' σf [] s' := by
  obtain ⟨m, S⟩ := S
  refine ⟨m', hn, fun x a l => let ⟨v, i⟩ := S.cells x a (c.sub x a l); ⟨v, i.keeps (kGr k)⟩, hx, fun x d l => ?_, fun x a ds l => by cases l⟩
  obtain ⟨l', q, z, e⟩ := c.free x d l
  obtain ⟨v, a, b⟩ := S.vars x d l'
  refine ⟨v, ?_, b.mono (fz_more hw fun b o _ e => kGr k b o e)⟩
  rcases a with ⟨q', _⟩ | ⟨_, a, la, i⟩
  · rcases q with q | q <;> (rw [q] at q'; cases q')
  · exact .inr ⟨z, a, by show cl.lookup x = some a; rw [e]; exact la, i.keeps (kGr k)⟩

theorem comp_core {elt tg iter : Expr} {ifs : List Expr} {rest : List Comprehension} {pos pos' : Pos} {use : Option (Value → Sem Unit)} {l : List PyData} {Q : Value → Shared → Prop} (ok : EnvOk env W) (S : St env W σ ρ s) (c : CompOk env scope cl σ σf) (hcell : ∀ y ∈ scope.names, y.2 ≠ .cell)
    (hsrc : Src prog w A W s (eval iter env) tg l) (hs : ∀ x, foldedSetIterable iter env x = pure x)
    (h : ∀ it own D C s₂ s₄ S, Keeps s s₂ → Keeps s₂ s₄ → (∀ b ∈ own, s.heap.get? b = none) → s₂.heap.get? D = none → s₂.heap.get? C = none → D ≠ C → C ∉ own → D ∉ own → C ∉ W → D ∉ W →
      Ex (C :: D :: (own ++ W)) s₄.heap → EnvOk (compEnvC scope cl C env) (C :: D :: (own ++ W)) → St (compEnvC scope cl C env) (C :: D :: (own ++ W)) σf [] s₄ → Acc (C :: D :: (own ++ W)) s₄.heap D [] →
      Iters prog w A (C :: D :: (own ++ W)) [C, D] own tg it S → S l s₄.heap →
      codeAny (model prog w) A (.compLoop (.ListComp elt (⟨tg, iter, ifs, 0⟩ :: rest) scope pos) 0 it (.ref D) (compEnvC scope cl C env)) (compPost (model prog w) A E use Q (.ref D) C) s₄) :
    wpAny (model prog w) A (comprehension (.ListComp elt (⟨tg, iter, ifs, 0⟩ :: rest) scope pos) scope env pos' (newList []) false (eval iter env) use) Q E s := by
  refine wpAny_comprehension_free (use := use) rfl hs c.clos c.kind c.names (hsrc.run E s _ (kRefl s) fun it own s₂ k₂ hn ho hit => ?_)
  refine wpAny_newObj_type (wpAny_newFunctionEnv hcell (by intro y hy; simp at hy) (fun h₁ hns hsb => ?_) c.kind)
  dsimp only at hns hsb ⊢
  have exW : Ex W s.heap := S.ex
  have hD : (s₂.heap.push { cls := .type "list", dict := none, data := .seq ([] : List Value).toArray }).objs.size = s₂.heap.objs.size + 1 := Heap.size_push ..
  have hDC : s₂.heap.objs.size ≠ (s₂.heap.push { cls := .type "list", dict := none, data := .seq ([] : List Value).toArray }).objs.size := by rw [hD]; exact Nat.ne_of_lt (Nat.lt_succ_self _)
  generalize hCe : (s₂.heap.push { cls := .type "list", dict := none, data := .seq ([] : List Value).toArray }).objs.size = C at *
  have old : Gr s₂.heap h₁ := fun b o e => by
    have lt := Heap.lt_size e
    exact hsb.extBut b o (by rw [hD]; exact Nat.ne_of_lt (Nat.lt_succ_of_lt lt)) (Heap.get?_push_of_some _ (Heap.get?_push_of_some _ e))
  have hacc : h₁.IsList s₂.heap.objs.size (#[] : Array Value) := ⟨_, hsb.extBut _ _ hDC (Heap.get?_push_of_some _ (Heap.get?_push_size _ rfl)), rfl, _, rfl⟩
  generalize hDe : s₂.heap.objs.size = D at *
  have nD : s₂.heap.get? D = none := new_above _ (by rw [hDe]; exact Nat.le_refl _)
  have nC : s₂.heap.get? C = none := new_above _ (by rw [hDe, hD]; exact Nat.le_succ _)
  have up : ∀ b, s₂.heap.get? b = none → s.heap.get? b = none := fun b e => isNone_of_gr (kGr k₂) e
  have offO : ∀ b, s₂.heap.get? b = none → b ∉ own := fun b e m => by obtain ⟨o, q⟩ := ho b m; rw [e] at q; cases q
  have offW : ∀ b, s₂.heap.get? b = none → b ∉ W := fun b e m => by obtain ⟨o, q⟩ := exW b m; rw [up b e] at q; cases q
  have k₄ : Keeps s₂ { s₂ with heap := h₁, toks := s₂.toks + ([] : List (Str × Value)).length } := ⟨_, _, rfl, old⟩
  have hx : Ex (C :: D :: (own ++ W)) h₁ := fun b m => by
    rcases List.mem_cons.mp m with rfl | m
    · obtain ⟨o, _, _, e, _⟩ := hns; exact ⟨o, e⟩
    · rcases List.mem_cons.mp m with rfl | m
      · obtain ⟨o, e, _⟩ := hacc; exact ⟨o, e⟩
      · rcases List.mem_append.mp m with m | m
        · obtain ⟨o, e⟩ := ho b m; exact ⟨o, old b o e⟩
        · obtain ⟨o, e⟩ := exW b m; exact ⟨o, old b o (kGr k₂ b o e)⟩
  obtain ⟨Sx, I, hS⟩ := hit (C :: D :: (own ++ W)) [C, D] { s₂ with heap := h₁, toks := s₂.toks + ([] : List (Str × Value)).length } (fun b m => by simp [m]) (fun b m => by simp at m; rcases m with rfl | rfl <;> simp) (fun b m q => by
      simp at q
      rcases q with rfl | rfl
      · exact offO _ nC m
      · exact offO _ nD m) (fun b m => by
      simp at m
      rcases m with rfl | rfl | m | m
      · exact .inr (.inr nC)
      · exact .inr (.inr nD)
      · exact .inl m
      · exact .inr (.inl m)) k₄
  have loop := h it own D C s₂ { s₂ with heap := h₁, toks := s₂.toks + ([] : List (Str × Value)).length } Sx k₂ k₄ hn nD nC hDC (offO _ nC) (offO _ nD) (offW _ nC) (offW _ nD) hx
    (c.envOk ok (by simp) (fun b m => by simp [m]) (offW _ nC)) (c.st S (kTrans k₂ k₄) hns hx (fun b m => by
      simp at m
      rcases m with rfl | rfl | m | m
      · exact .inr (up _ nC)
      · exact .inr (up _ nD)
      · exact .inr (hn b m)
      · exact .inl m)) ⟨[], hacc, .nil _⟩ I hS
  exact codeAny_compStart_list loop (I.self l _ _ _ hS loop)
end
end Mine
end
section
open PySem PySem.Spec PySem.Calls PyProof.Rows PySem.W
set_option maxRecDepth 100000
set_option linter.unusedVariables false
namespace Mine
section
variable {prog : Program} {w : World} {A : Around} {E : Value → Shared → Prop} {W W' V own : List Addr} {s s₀ : Shared} {env : Env} {σ σf : Sig} {ρ : Rho} {scope : Scope} {cl : List (Str × Addr)}
/-- the end of a filling -/
def Filled (prog : Program) (w : World) (A : Around) (E : Value → Shared → Prop) (W : List Addr) (s : Shared) (use : Option (Value → Sem Unit)) (Q : Value → Shared → Prop) (out : List PyData) : Prop :=
  ∀ D C s', Keeps s s' → (∃ m, s'.heap.Ns C m) → s.heap.get? C = none → s.heap.get? D = none → C ≠ D → Den (fz (C :: W) s'.heap) (.ref D) (.list out) → compPost (model prog w) A E use Q (.ref D) C (.ok .next) s'
theorem filled_none {Q : Value → Shared → Prop} {out : List PyData} (x : Ex W s.heap) (h : ∀ D s', Keeps s s' → s.heap.get? D = none → Den (fz W s'.heap) (.ref D) (.list out) → Q (.ref D) s') : Filled prog w A E W s none Q out := by
  rintro D C s' k ⟨m, hn⟩ nC nD ne hd
  refine ⟨m, hn, fun h' hs => h D _ ?_ nD ?_⟩
  · obtain ⟨h₁, t, rfl, k⟩ := k
    exact ⟨h', t, rfl, fun b o e => (hs.2 b fun q => by rw [q, nC] at e; cases e).trans (k b o e)⟩
  · exact hd.mono fun b o e => by
      obtain ⟨e1, e2⟩ := fz_get e
      simp at e2
      exact fz_at ((hs.2 b e2.1).trans e1) e2.2
theorem filled_assign {Q : Value → Shared → Prop} {out : List PyData} {x : Str} {a : Addr} {p : Pos} (ok : EnvOk env W) (S : St env W σ ρ s) (hk : Sto env x a) (hρ : ρ.lookup x = none)
    (h : ∀ s', Mv [a] s s' → St env W ((x, .list out) :: σ) ρ s' → Q .none s') : Filled prog w A E W s (some (assign (.Name x p) env)) Q out := by
  rintro D C s' k ⟨m, hn⟩ nC nD ne hd
  have exW := S.ex
  have CW : C ∉ W := fun q => by obtain ⟨o, e⟩ := exW C q; rw [nC] at e; cases e
  have hx : Ex (C :: W) s'.heap := fun b q => by
    rcases List.mem_cons.mp q with rfl | q
    · obtain ⟨o, _, _, e, _⟩ := hn; exact ⟨o, e⟩
    · exact exW.mono (kGr k) b q
  have S' : St env (C :: W) σ ρ s' := S.lift (V := []) (Mv.of k) (fun b q => by cases q) (fun b q => by
    rcases List.mem_cons.mp q with rfl | q
    · exact .inr nC
    · exact .inl q) hx fun b q => .tail _ q
  have ok' : EnvOk env (C :: W) := ⟨ok.kind, .tail _ ok.loc, fun y c l => .tail _ (ok.cell y c l), ok.apart, ok.ne⟩
  have aW : a ∈ W := by
    rcases hk with ⟨_, rfl⟩ | ⟨_, l⟩
    · exact ok.loc
    · exact ok.cell x a l
  have aC : a ≠ C := fun e => CW (e ▸ aW)
  show wpAny (model prog w) A (assign (.Name x p) env (.ref D)) _ E s'
  refine wpAny_assign_Name (store_any ok' S' hk hd hρ fun s'' mv T => ⟨m, hn.at' fun o e => mv.at (by simpa using aC.symm) e, fun h' hs => ?_⟩)
  obtain ⟨oC, hoC⟩ : ∃ o, s''.heap.get? C = some o := T.ex C (.head _)
  obtain ⟨m', T'⟩ := T
  have kk : Mx [C] s'' { s'' with heap := h' } := ⟨h', _, rfl, fun b o n e => (hs.2 b (by simpa using n)).trans e⟩
  have T2 : St env ([C] ++ W) ((x, .list out) :: σ) ρ s'' := ⟨m', T'⟩
  refine h _ ?_ (T2.endOwn kk (fun b q => by rw [mem1 q]; exact CW) ok.loc ok.cell fun y b ds l => ?_)
  · obtain ⟨h₁, t, rfl, k⟩ := k
    obtain ⟨h₂, t₂, rfl, k₂, e₂⟩ := mv
    refine ⟨h', t₂, rfl, fun b o n e => (hs.2 b fun q => by rw [q, nC] at e; cases e).trans (k₂ b o n (k b o e)), fun b ⟨o, e⟩ => ?_⟩
    obtain ⟨o', e'⟩ := e₂ b ⟨o, k b o e⟩
    exact ⟨o', (hs.2 b fun q => by rw [q, nC] at e; cases e).trans e'⟩
  · obtain ⟨_, S⟩ := S
    exact (S.muts y b ds l).2.1

theorem comp1 {elt tg iter : Expr} {ifs : List Expr} {pos pos' : Pos} {use : Option (Value → Sem Unit)} {l : List PyData} {Q : Value → Shared → Prop} (ok : EnvOk env W) (S : St env W σ ρ s) (c : CompOk env scope cl σ σf) (hcell : ∀ y ∈ scope.names, y.2 ≠ .cell)
    (hsrc : Src prog w A W s (eval iter env) tg l) (hz : l.length ≤ sizeLine) (tb : PyData → Sig) (p : PyData → Bool) (f : PyData → PyData)
    (hasg : ∀ C W' s₁ v d (Q : Unit → Shared → Prop) E, d ∈ l → EnvOk (compEnvC scope cl C env) W' → St (compEnvC scope cl C env) W' σf [] s₁ → Den (fz W' s₁.heap) v d → (∀ s', Mv [C] s₁ s' → St (compEnvC scope cl C env) W' (tb d ++ σf) [] s' → Q () s') → wpAny (model prog w) A (assign tg (compEnvC scope cl C env) v) Q E s₁)
    (hdis : ∀ d ∈ l, ∀ y e, σf.lookup y = some e → (tb d ++ σf).lookup y = some e)
    (htest : ∀ C W' d s', d ∈ l → Keeps s s' → EnvOk (compEnvC scope cl C env) W' → St (compEnvC scope cl C env) W' (tb d ++ σf) [] s' → Tests prog w A s' (compEnvC scope cl C env) ifs (p d))
    (helt : ∀ C W' d s', d ∈ l → p d = true → Keeps s s' → EnvOk (compEnvC scope cl C env) W' → St (compEnvC scope cl C env) W' (tb d ++ σf) [] s' → Ev prog w A W' s' (eval elt (compEnvC scope cl C env)) (f d))
    (h : Filled prog w A E W s use Q ((l.filter p).map f)) (hs : ∀ x, foldedSetIterable iter env x = pure x := by intro _; rfl) :
    wpAny (model prog w) A (comprehension (.ListComp elt [⟨tg, iter, ifs, 0⟩] scope pos) scope env pos' (newList []) false (eval iter env) use) Q E s := by
  refine comp_core ok S c hcell hsrc hs fun it own D C s₂ s₄ Sx k₂ k₄ hn nD nC hDC cO dO cW dW hx okc St0 A0 I hS => ?_
  have up : ∀ b, s₂.heap.get? b = none → s.heap.get? b = none := fun b e => isNone_of_gr (kGr k₂) e
  have exW := S.ex
  have oW : ∀ b ∈ own, b ∉ W := fun b m q => by obtain ⟨o, e⟩ := exW b q; rw [hn b m] at e; cases e
  have newAll : ∀ b ∈ C :: D :: own, s.heap.get? b = none := fun b m => by
    simp at m
    rcases m with rfl | rfl | m
    · exact up _ nC
    · exact up _ nD
    · exact hn b m
  have cellW : ∀ y a, (compEnvC scope cl C env).cells.lookup y = some a → a ∈ W := fun y a l => ok.cell y a (c.sub y a l)
  refine comp_loop (turn_list ..) I (fun r s' => Mv (C :: D :: own) s₄ s' ∧ St (compEnvC scope cl C env) (C :: D :: (own ++ W)) σf [] s' ∧ (∀ d ∈ r, d ∈ l) ∧ ∃ out, Acc (C :: D :: (own ++ W)) s'.heap D out ∧ out ++ (r.filter p).map f = (l.filter p).map f) ?_ ?_ ?_ hx hS ⟨Mv.refl _ _, St0, fun _ m => m, [], A0, rfl⟩
  · rintro r a b ⟨m, T, hr, out, ac, e⟩ mv
    refine ⟨m.trans (mv.wide fun b q => by simp [q]), T.but mv (fun b q => by simp [q]) cO (fun y a l q => oW a q (cellW y a l)) (fun y a ds l => by cases l), hr, out, ac.but mv (fun b q => by simp [q]) dO, e⟩
  · rintro d r v a E' hxa ⟨m, T, hr, out, ac, e⟩ dv
    have hd : d ∈ l := hr d (.head _)
    refine hasg C _ a v d _ _ hd okc T dv fun b mb Tb => ?_
    have mC : Mv (C :: D :: own) s₄ b := m.trans (mb.wide fun b q => by rw [mem1 q]; simp)
    have kb : Keeps s b := by
      have : Mx (C :: D :: own) s b := (Mx.of (Mv.of (kTrans k₂ k₄))).trans (Mx.of mC)
      exact this.toKeeps newAll
    have acb : Acc (C :: D :: (own ++ W)) b.heap D out := ac.but mb (fun b q => by rw [mem1 q]; simp) (by simpa using hDC)
    have len : out.length ≤ sizeLine := by
      have := congrArg List.length e
      simp at this
      have q : (l.filter p).length ≤ l.length := List.length_filter_le _ _
      omega
    refine turn_emit (by simp) acb (htest C _ d b hd kb okc Tb) (fun e => helt C _ d b hd e kb okc Tb) len fun s₅ s₆ k5 m6 ac6 => ?_
    have m56 : Mv [C, D] a s₆ := (mb.wide fun b q => by rw [mem1 q]; simp).trans ((Mv.of k5).trans (m6.wide fun b q => by rw [mem1 q]; simp))
    refine ⟨m56, m.trans (m56.wide fun b q => by simp at q; rcases q with rfl | rfl <;> simp), ?_, fun y q => hr y (.tail _ q), _, ac6, ?_⟩
    · exact ((Tb.keeps k5).but m6 (fun b q => by rw [mem1 q]; simp) (fun q => hDC (mem1 q).symm) (fun y a l q => dW (by rw [← mem1 q]; exact cellW y a l)) (fun y a ds l => by cases l)).less (hdis d hd) fun y e l => by cases l
    · rw [← e, List.append_assoc]
      cases q : p d <;> simp [q]
  · rintro a b ⟨m, ⟨m', T⟩, hr, out, ⟨vs, il, dn⟩, e⟩ mx
    have ks : Keeps s b := by
      have : Mx (C :: D :: own) s b := ((Mx.of (Mv.of (kTrans k₂ k₄))).trans (Mx.of m)).trans (mx.wide fun b q => by simp [q])
      exact this.toKeeps newAll
    refine h D C b ks ⟨m', T.ns.at' fun o e => mx.at cO e⟩ (up _ nC) (up _ nD) (Ne.symm hDC) ?_
    simp at e
    rw [← e]
    refine .list (vs := vs) ?_ (dn.mono fun b o e => ?_)
    · obtain ⟨o, e, r⟩ := il
      exact ⟨o, fz_at (mx.at dO e) (by simpa using ⟨hDC, dW⟩), r⟩
    · obtain ⟨e1, e2⟩ := fz_get e
      simp at e2
      exact fz_at (mx.at e2.2.2.1 e1) (by simpa using ⟨e2.1, e2.2.2.2⟩)
end
end Mine
end
section
open PySem PySem.Spec PySem.Calls PyProof.Rows PySem.W
set_option maxRecDepth 100000
set_option linter.unusedVariables false
namespace Mine
section
variable {prog : Program} {w : World} {A : Around} {E : Value → Shared → Prop} {W W' V own : List Addr} {s s₀ : Shared} {env : Env} {σ σf : Sig} {ρ : Rho} {scope : Scope} {cl : List (Str × Addr)}
theorem compStart1 {R : Result → Shared → Prop} {elt target iter : Expr} {ifs : List Expr} {g : Comprehension} {pos : Pos} {it acc : Value} {env : Env}
    (h0 : codeAny (model prog w) A (.compLoop (.ListComp elt [g, ⟨target, iter, ifs, 0⟩] scope pos) 1 it acc env) R s)
    (h : wpAny (model prog w) A (pyIter it) (fun it' s' => codeAny (model prog w) A (.compLoop (.ListComp elt [g, ⟨target, iter, ifs, 0⟩] scope pos) 1 it' acc env) R s') (notedBy (model prog w) A env fun x s' => R (.error x) s') s) :
    codeAny (model prog w) A (.compStart (.ListComp elt [g, ⟨target, iter, ifs, 0⟩] scope pos) 1 it acc env) R s := by
  refine codeAny_of_tree ?_
  show wpAny _ _ ((compStart (.ListComp elt [g, ⟨target, iter, ifs, 0⟩] scope pos) 1 it acc env).onRaise (fun x => do noteFrame x env; standAt theWindowsPlace)) _ _ s
  refine wpAny_notedAt ?_
  unfold compStart
  show wpAny _ _ (ask >>= _) _ _ s
  refine wpAny_bind (wpAny_askSetting (wpAny_ite ?_))
  split
  · first
      | exact wpAny_bind (wpAny_pure (wpAny_pure (And.intro rfl h0)))
      | exact wpAny_pure (And.intro rfl h0)
  · first
      | exact wpAny_bind (wpAny_rule (wpAny_bind (wpAny_standAt (wpAny_bind (wpAny_mono h (fun it' s' h' => wpAny_pure (And.intro rfl h')) fun _ _ x => x)))))
      | (refine wpAny_bind (wpAny_rule ?_); show wpAny _ _ (standAt iter.pos >>= _) _ _ s; exact wpAny_bind (wpAny_standAt (wpAny_bind (wpAny_mono h (fun it' s' h' => wpAny_pure (And.intro rfl h')) fun _ _ x => x))))

/-- one round of the inner clause -/
theorem inner {cenv : Env} {elt tg iter tg' iter' : Expr} {ifs' : List Expr} {pos : Pos} {it : Value} {C D : Addr} {l : List PyData} {out : List PyData} {σb : Sig} {Q : Shared → Prop} (hloc : cenv.locals = C) (okc : EnvOk cenv W) (T : St cenv W σb [] s) (ac : Acc W s.heap D out) (hD : D ∈ W) (hDC : D ≠ C) (dc : ∀ y a, cenv.cells.lookup y = some a → a ≠ D)
    (hsrc : Src prog w A W s (eval iter' cenv) tg' l) (hz : out.length + l.length ≤ sizeLine) (tb : PyData → Sig) (p : PyData → Bool) (f : PyData → PyData)
    (hasg : ∀ W' s₁ v d (Q : Unit → Shared → Prop) E, d ∈ l → EnvOk cenv W' → St cenv W' σb [] s₁ → Den (fz W' s₁.heap) v d → (∀ s', Mv [C] s₁ s' → St cenv W' (tb d ++ σb) [] s' → Q () s') → wpAny (model prog w) A (assign tg' cenv v) Q E s₁)
    (hdis : ∀ d ∈ l, ∀ y e, σb.lookup y = some e → (tb d ++ σb).lookup y = some e)
    (htest : ∀ W' d s', d ∈ l → Mv [C, D] s s' → EnvOk cenv W' → St cenv W' (tb d ++ σb) [] s' → Tests prog w A s' cenv ifs' (p d))
    (helt : ∀ W' d s', d ∈ l → p d = true → Mv [C, D] s s' → EnvOk cenv W' → St cenv W' (tb d ++ σb) [] s' → Ev prog w A W' s' (eval elt cenv) (f d))
    (h : ∀ s', Mv [C, D] s s' → St cenv W σb [] s' → Acc W s'.heap D (out ++ (l.filter p).map f) → Q s') (hf : ∀ x, foldedSetIterable iter' cenv x = pure x := by intro _; rfl) :
    wpAny (model prog w) A (eval iter' cenv >>= fun x => standAt iter'.pos >>= fun _ => foldedSetIterable iter' cenv x >>= fun x => holding [x] (pyIter x) >>= fun it' => runOwn (.compStart (.ListComp elt [⟨tg, iter, [], 0⟩, ⟨tg', iter', ifs', 0⟩] scope pos) 1 it' (.ref D) cenv) cenv >>= fun _ =>
          again (.compLoop (.ListComp elt [⟨tg, iter, [], 0⟩, ⟨tg', iter', ifs', 0⟩] scope pos) 0 it (.ref D) cenv)) (fun fin s₃ => fin = .again (.compLoop (.ListComp elt [⟨tg, iter, [], 0⟩, ⟨tg', iter', ifs', 0⟩] scope pos) 0 it (.ref D) cenv) ∧ Q s₃) E s := by
  have exW := T.ex
  refine wpAny_bind (wpAny_mono (hsrc.run E s (fun it' s₂ => wpAny (model prog w) A (runOwn (.compStart (.ListComp elt [⟨tg, iter, [], 0⟩, ⟨tg', iter', ifs', 0⟩] scope pos) 1 it' (.ref D) cenv) cenv) (fun _ s₃ => Q s₃) E s₂) (kRefl s) fun it' own s₂ k₂ hn ho hit => ?_) (fun x s₁ h₁ => ?_) fun _ _ h => h)
  · have oW : ∀ b ∈ own, b ∉ W := fun b m q => by obtain ⟨o, e⟩ := exW b q; rw [hn b m] at e; cases e
    have cW : C ∈ W := hloc ▸ okc.loc
    have hx : Ex (own ++ W) s₂.heap := fun b m => by
      rcases List.mem_append.mp m with q | q
      · exact ho b q
      · exact exW.mono (kGr k₂) b q
    have VW : ∀ b ∈ [C, D], b ∈ W := fun b m => by simp at m; rcases m with rfl | rfl <;> assumption
    have okc' : EnvOk cenv (own ++ W) := ⟨okc.kind, List.mem_append_right _ okc.loc, fun y a l => List.mem_append_right _ (okc.cell y a l), okc.apart, okc.ne⟩
    obtain ⟨Sx, I, hS⟩ := hit (own ++ W) [C, D] s₂ (fun b m => List.mem_append_left _ m) (fun b m => List.mem_append_right _ (VW b m)) (fun b m q => oW b m (VW b q)) (fun b m => by
      rcases List.mem_append.mp m with q | q
      · exact .inl q
      · exact .inr (.inl q)) (kRefl _)
    have T₂ : St cenv (own ++ W) σb [] s₂ := T.lift (V := []) (Mv.of k₂) (fun b q => by cases q) (fun b m => by
      rcases List.mem_append.mp m with q | q
      · exact .inr (hn b q)
      · exact .inl q) hx fun b q => List.mem_append_right _ q
    have A₂ : Acc (own ++ W) s₂.heap D out := by
      obtain ⟨vs, i, d⟩ := ac
      exact ⟨vs, i.at fun o e => kGr k₂ _ o e, d.mono (fz_more (fun b m => by
        rcases List.mem_append.mp m with q | q
        · exact .inr (hn b q)
        · exact .inl q) fun b o _ e => kGr k₂ b o e)⟩
    have loop : codeAny (model prog w) A (.compLoop (.ListComp elt [⟨tg, iter, [], 0⟩, ⟨tg', iter', ifs', 0⟩] scope pos) 1 it' (.ref D) cenv) (fun r s' => match r with | .ok f => Q s' | .error e => cameBackBy (model prog w) A cenv E e s') s₂ := by
      refine comp_loop (turn_list1 ..) I (fun r s' => Mv (C :: D :: own) s₂ s' ∧ St cenv (own ++ W) σb [] s' ∧ (∀ d ∈ r, d ∈ l) ∧ ∃ o2, Acc (own ++ W) s'.heap D o2 ∧ o2 ++ (r.filter p).map f = out ++ (l.filter p).map f) ?_ ?_ ?_ hx hS ⟨Mv.refl _ _, T₂, fun _ m => m, out, A₂, rfl⟩
      · rintro r a b ⟨m, Ta, hr, o2, aca, e⟩ mv
        exact ⟨m.trans (mv.wide fun b q => by simp [q]), Ta.but mv (fun b q => by simp [q]) (fun q => oW _ q okc.loc) (fun y a l q => oW a q (okc.cell y a l)) (fun y a ds l => by cases l), hr, o2, aca.but mv (fun b q => by simp [q]) (fun q => oW _ q hD), e⟩
      · rintro d r v a E' hxa ⟨m, Ta, hr, o2, aca, e⟩ dv
        have hd : d ∈ l := hr d (.head _)
        refine hasg _ a v d _ _ hd okc' Ta dv fun b mb Tb => ?_
        have kb : Mv [C, D] s b := by
          have : Mv (C :: D :: own) s b := (Mv.of k₂).trans (m.trans (mb.wide fun b q => by rw [mem1 q]; simp))
          exact this.keeps fun b q => by
            simp at q
            rcases q with rfl | rfl | q
            · exact .inl (by simp)
            · exact .inl (by simp)
            · exact .inr (hn b q)
        have acb : Acc (own ++ W) b.heap D o2 := aca.but mb (fun b q => by rw [mem1 q]; simp [cW]) (by simpa using hDC)
        have len : o2.length ≤ sizeLine := by
          have := congrArg List.length e
          simp at this
          have q : (l.filter p).length ≤ l.length := List.length_filter_le _ _
          omega
        refine turn_emit (by simp [hD]) acb (htest _ d b hd kb okc' Tb) (fun e => helt _ d b hd e kb okc' Tb) len fun s₅ s₆ k5 m6 ac6 => ?_
        have m56 : Mv [C, D] a s₆ := (mb.wide fun b q => by rw [mem1 q]; simp).trans ((Mv.of k5).trans (m6.wide fun b q => by rw [mem1 q]; simp))
        refine ⟨m56, m.trans (m56.wide fun b q => by simp at q; rcases q with rfl | rfl <;> simp), ?_, fun y q => hr y (.tail _ q), _, ac6, ?_⟩
        · exact ((Tb.keeps k5).but m6 (fun b q => by rw [mem1 q]; simp [hD]) (fun q => hDC (by rw [← mem1 q, hloc])) (fun y a l q => dc y a l (mem1 q)) (fun y a ds l => by cases l)).less (hdis d hd) fun y e l => by cases l
        · rw [← e, List.append_assoc]
          cases q : p d <;> simp [q]
      · rintro a b ⟨m, Ta, hr, o2, aca, e⟩ mx
        simp at e
        subst e
        have ex_b : Ex W b.heap := fun c q => by
          obtain ⟨o, e⟩ := Ta.ex c (List.mem_append_right _ q)
          exact ⟨o, mx.at (fun z => oW c z q) e⟩
        have mv : Mv [C, D] s b := by
          have : Mx (C :: D :: own) s b := ((Mx.of (Mv.of k₂)).trans (Mx.of m)).trans (mx.wide fun b q => by simp [q])
          refine this.toMv (fun b q => ?_) fun b q _ => ex_b b (VW b q)
          simp at q
          rcases q with rfl | rfl | q
          · exact .inl (by simp)
          · exact .inl (by simp)
          · exact .inr (hn b q)
        refine h b mv (Ta.endOwn mx oW okc.loc okc.cell fun y a ds l => by cases l) ?_
        obtain ⟨vs, i, dn⟩ := aca
        refine ⟨vs, i.at fun o e => mx.at (fun q => oW _ q hD) e, dn.mono fun c o e => ?_⟩
        obtain ⟨e1, e2⟩ := fz_get e
        rw [List.mem_append] at e2
        exact fz_at (mx.at (fun q => e2 (.inl q)) e1) fun q => e2 (.inr q)
    exact wpAny_runOwn (compStart1 loop (I.self _ _ _ _ hS loop))
  · refine wpAny_bind (wpAny_standAt (wpAny_bind ?_))
    rw [hf]
    refine wpAny_pure (wpAny_bind (wpAny_holding (wpAny_mono h₁ (fun it' s₂ h₂ => wpAny_bind (wpAny_mono h₂ (fun _ s₃ h₃ => wpAny_pure ⟨rfl, h₃⟩) fun _ _ h => h)) fun _ _ h => h)))
end
end Mine
end
section
open PySem PySem.Spec PySem.Calls PyProof.Rows PySem.W
set_option maxRecDepth 100000
set_option linter.unusedVariables false
namespace Mine
section
variable {prog : Program} {w : World} {A : Around} {E : Value → Shared → Prop} {W W' V own : List Addr} {s s₀ : Shared} {env : Env} {σ σf : Sig} {ρ : Rho} {scope : Scope} {cl : List (Str × Addr)}
theorem comp2 {elt tg iter tg' iter' : Expr} {ifs' : List Expr} {pos pos' : Pos} {use : Option (Value → Sem Unit)} {l : List PyData} {Q : Value → Shared → Prop} (ok : EnvOk env W) (S : St env W σ ρ s) (c : CompOk env scope cl σ σf) (hcell : ∀ y ∈ scope.names, y.2 ≠ .cell)
    (hsrc : Src prog w A W s (eval iter env) tg l) (inn : PyData → List PyData) (hz : (l.map fun d => (inn d).length).sum ≤ sizeLine) (tb : PyData → Sig) (tb' : PyData → PyData → Sig) (p : PyData → PyData → Bool) (f : PyData → PyData → PyData)
    (hasg : ∀ C W' s₁ v d (Q : Unit → Shared → Prop) E, d ∈ l → EnvOk (compEnvC scope cl C env) W' → St (compEnvC scope cl C env) W' σf [] s₁ → Den (fz W' s₁.heap) v d → (∀ s', Mv [C] s₁ s' → St (compEnvC scope cl C env) W' (tb d ++ σf) [] s' → Q () s') → wpAny (model prog w) A (assign tg (compEnvC scope cl C env) v) Q E s₁)
    (hdis : ∀ d ∈ l, ∀ y e, σf.lookup y = some e → (tb d ++ σf).lookup y = some e)
    (hsrc' : ∀ C W' d s', d ∈ l → Keeps s s' → EnvOk (compEnvC scope cl C env) W' → St (compEnvC scope cl C env) W' (tb d ++ σf) [] s' → Src prog w A W' s' (eval iter' (compEnvC scope cl C env)) tg' (inn d))
    (hasg' : ∀ C W' s₁ v d d' (Q : Unit → Shared → Prop) E, d ∈ l → d' ∈ inn d → EnvOk (compEnvC scope cl C env) W' → St (compEnvC scope cl C env) W' (tb d ++ σf) [] s₁ → Den (fz W' s₁.heap) v d' → (∀ s', Mv [C] s₁ s' → St (compEnvC scope cl C env) W' (tb' d d' ++ (tb d ++ σf)) [] s' → Q () s') → wpAny (model prog w) A (assign tg' (compEnvC scope cl C env) v) Q E s₁)
    (hdis' : ∀ d ∈ l, ∀ d' ∈ inn d, ∀ y e, (tb d ++ σf).lookup y = some e → (tb' d d' ++ (tb d ++ σf)).lookup y = some e)
    (htest : ∀ C W' d d' s', d ∈ l → d' ∈ inn d → Keeps s s' → EnvOk (compEnvC scope cl C env) W' → St (compEnvC scope cl C env) W' (tb' d d' ++ (tb d ++ σf)) [] s' → Tests prog w A s' (compEnvC scope cl C env) ifs' (p d d'))
    (helt : ∀ C W' d d' s', d ∈ l → d' ∈ inn d → p d d' = true → Keeps s s' → EnvOk (compEnvC scope cl C env) W' → St (compEnvC scope cl C env) W' (tb' d d' ++ (tb d ++ σf)) [] s' → Ev prog w A W' s' (eval elt (compEnvC scope cl C env)) (f d d'))
    (h : Filled prog w A E W s use Q (l.flatMap fun d => ((inn d).filter (p d)).map (f d))) (hs : ∀ x, foldedSetIterable iter env x = pure x := by intro _; rfl) (hs' : ∀ C x, foldedSetIterable iter' (compEnvC scope cl C env) x = pure x := by intro _ _; rfl) :
    wpAny (model prog w) A (comprehension (.ListComp elt [⟨tg, iter, [], 0⟩, ⟨tg', iter', ifs', 0⟩] scope pos) scope env pos' (newList []) false (eval iter env) use) Q E s := by
  refine comp_core ok S c hcell hsrc hs fun it own D C s₂ s₄ Sx k₂ k₄ hn nD nC hDC cO dO cW dW hx okc St0 A0 I hS => ?_
  have up : ∀ b, s₂.heap.get? b = none → s.heap.get? b = none := fun b e => isNone_of_gr (kGr k₂) e
  have exW := S.ex
  have oW : ∀ b ∈ own, b ∉ W := fun b m q => by obtain ⟨o, e⟩ := exW b q; rw [hn b m] at e; cases e
  have newAll : ∀ b ∈ C :: D :: own, s.heap.get? b = none := fun b m => by
    simp at m
    rcases m with rfl | rfl | m
    · exact up _ nC
    · exact up _ nD
    · exact hn b m
  have cellW : ∀ y a, (compEnvC scope cl C env).cells.lookup y = some a → a ∈ W := fun y a l => ok.cell y a (c.sub y a l)
  have lenLe : ∀ r : List PyData, (r.flatMap fun d => ((inn d).filter (p d)).map (f d)).length ≤ (r.map fun d => (inn d).length).sum := by
    intro r
    induction r with
    | nil => simp
    | cons d r ih =>
      simp only [List.flatMap_cons, List.length_append, List.length_map, List.map_cons, List.sum_cons]
      have := List.length_filter_le (p d) (inn d)
      omega
  refine comp_loop (turn_list0 ..) I (fun r s' => Mv (C :: D :: own) s₄ s' ∧ St (compEnvC scope cl C env) (C :: D :: (own ++ W)) σf [] s' ∧ (∀ d ∈ r, d ∈ l) ∧ ∃ out, Acc (C :: D :: (own ++ W)) s'.heap D out ∧ out.length + (r.map fun d => (inn d).length).sum ≤ sizeLine ∧ out ++ (r.flatMap fun d => ((inn d).filter (p d)).map (f d)) = l.flatMap fun d => ((inn d).filter (p d)).map (f d)) ?_ ?_ ?_ hx hS ⟨Mv.refl _ _, St0, fun _ m => m, [], A0, by simpa using hz, rfl⟩
  · rintro r a b ⟨m, T, hr, out, ac, z, e⟩ mv
    refine ⟨m.trans (mv.wide fun b q => by simp [q]), T.but mv (fun b q => by simp [q]) cO (fun y a l q => oW a q (cellW y a l)) (fun y a ds l => by cases l), hr, out, ac.but mv (fun b q => by simp [q]) dO, z, e⟩
  · rintro d r v a E' hxa ⟨m, T, hr, out, ac, z, e⟩ dv
    have hd : d ∈ l := hr d (.head _)
    refine hasg C _ a v d _ _ hd okc T dv fun b mb Tb => ?_
    have mC : Mv (C :: D :: own) s₄ b := m.trans (mb.wide fun b q => by rw [mem1 q]; simp)
    have keepOf : ∀ b', Mv (C :: D :: own) s₄ b' → Keeps s b' := fun b' q => by
      have : Mx (C :: D :: own) s b' := (Mx.of (Mv.of (kTrans k₂ k₄))).trans (Mx.of q)
      exact this.toKeeps newAll
    have acb : Acc (C :: D :: (own ++ W)) b.heap D out := ac.but mb (fun b q => by rw [mem1 q]; simp) (by simpa using hDC)
    have sub : ∀ {x y}, Mv [C, D] x y → Mv (C :: D :: own) x y := fun q => q.wide fun b q => by simp at q; rcases q with rfl | rfl <;> simp
    simp only [List.map_cons, List.sum_cons] at z
    refine inner (C := C) rfl okc Tb acb (by simp) hDC (fun y a l e => dW (e ▸ cellW y a l)) (hsrc' C _ d b hd (keepOf b mC) okc Tb) (by omega) (tb' d) (p d) (f d) (fun W' s₁ v d' Q E hd' => hasg' C W' s₁ v d d' Q E hd hd') (hdis' d hd)
      (fun W' d' s' hd' mv => htest C W' d d' s' hd hd' (keepOf s' (mC.trans (sub mv)))) (fun W' d' s' hd' hp mv => helt C W' d d' s' hd hd' hp (keepOf s' (mC.trans (sub mv)))) (fun s' mv Ts acs => ?_) (hs' C)
    have m56 : Mv [C, D] a s' := (mb.wide fun b q => by rw [mem1 q]; simp).trans mv
    refine ⟨m56, m.trans (sub m56), Ts.less (hdis d hd) (fun y e l => by cases l), fun y q => hr y (.tail _ q), _, acs, ?_, ?_⟩
    · have := List.length_filter_le (p d) (inn d)
      simp only [List.length_append, List.length_map]
      omega
    · rw [← e, List.append_assoc, List.flatMap_cons]
  · rintro a b ⟨m, ⟨m', T⟩, hr, out, ⟨vs, il, dn⟩, z, e⟩ mx
    have ks : Keeps s b := by
      have : Mx (C :: D :: own) s b := ((Mx.of (Mv.of (kTrans k₂ k₄))).trans (Mx.of m)).trans (mx.wide fun b q => by simp [q])
      exact this.toKeeps newAll
    refine h D C b ks ⟨m', T.ns.at' fun o e => mx.at cO e⟩ (up _ nC) (up _ nD) (Ne.symm hDC) ?_
    simp only [List.flatMap_nil, List.append_nil] at e
    rw [← e]
    refine .list (vs := vs) ?_ (dn.mono fun b o e => ?_)
    · obtain ⟨o, e, r⟩ := il
      exact ⟨o, fz_at (mx.at dO e) (by simpa using ⟨hDC, dW⟩), r⟩
    · obtain ⟨e1, e2⟩ := fz_get e
      simp at e2
      exact fz_at (mx.at e2.2.2.1 e1) (by simpa using ⟨e2.1, e2.2.2.2⟩)

/-! targets -/
theorem asg_name {x : Str} {p : Pos} {cenv : Env} {s₁ : Shared} {v : Value} {d : PyData} {Q : Unit → Shared → Prop} (ok : EnvOk cenv W) (hk : cenv.kindOf x = some .local) (S : St cenv W σ [] s₁) (dv : Den (fz W s₁.heap) v d) (h : ∀ s', Mv [cenv.locals] s₁ s' → St cenv W ([(x, d)] ++ σ) [] s' → Q () s') : wpAny (model prog w) A (assign (.Name x p) cenv v) Q E s₁ :=
  wpAny_assign_Name (store_local ok S hk dv rfl h)
end
end Mine
end
section
open PySem PySem.Spec PySem.Calls PyProof.Rows PySem.W
set_option maxRecDepth 100000
set_option linter.unusedVariables false
namespace Mine
section
variable {prog : Program} {w : World} {A : Around} {E : Value → Shared → Prop} {W W' V own : List Addr} {s s₀ : Shared} {env : Env} {σ σf : Sig} {ρ : Rho}
theorem keepsExt {s : Shared} {h' : Heap} (h : Heap.ExtBut s.heap.objs.size s.heap h') : Keeps s { s with heap := h' } := ⟨h', s.toks, rfl, fun b o e => h b o (Nat.ne_of_lt (Heap.lt_size e)) e⟩
theorem asg_pair {x y : Str} {px py p : Pos} {n : Nat} {a b : PyData} {v : Value} {Q : Unit → Shared → Prop} (hh : A.handled = none) (ok : EnvOk env W) (hx : env.kindOf x = some .local) (hy : env.kindOf y = some .local) (S : St env W σ ρ s) (rx : ρ.lookup x = none) (ry : ρ.lookup y = none) (dv : Den (fz W s.heap) v (.tuple [a, b]))
    (h : ∀ s', Mv [env.locals] s s' → St env W ([(y, b), (x, a)] ++ σ) ρ s' → Q () s') : wpAny (model prog w) A (assign (.Tuple [.Name x px, .Name y py] n p) env v) Q E s := by
  obtain ⟨t, vs, rfl, it, dn⟩ := dv.isTuple
  obtain ⟨v1, vs1, rfl, d1, dn⟩ := dn.inv
  obtain ⟨v2, vs2, rfl, d2, dn⟩ := dn.inv
  rw [dn.inv0] at it
  refine wpAny_assign_Tuple hh (isTuple_sub it) rfl rfl fun h' he => ?_
  have k := keepsExt he
  show wpAny (model prog w) A (holding [v2] (assign (.Name x px) env v1) >>= fun _ => holding [] (assign (.Name y py) env v2) >>= fun _ => pure ()) Q E _
  refine wpAny_bind (wpAny_holding (wpAny_assign_Name (store_local ok (S.keeps k) hx (d1.mono (fz_gr (kGr k))) rx fun s₁ m₁ S₁ => ?_)))
  have m1 : Mv [env.locals] s s₁ := (Mv.of k).trans m₁
  have g := (m1.wide (V := W) fun b q => by rw [mem1 q]; exact ok.loc).gr
  exact wpAny_bind (wpAny_holding (wpAny_assign_Name (store_local ok S₁ hy (d2.mono g) ry fun s₂ m₂ S₂ => wpAny_pure (h s₂ (m1.trans m₂) S₂))))
end
end Mine
end
section
open PySem PySem.Spec PySem.Calls PyProof.Rows PySem.W
set_option maxRecDepth 100000
set_option linter.unusedVariables false
namespace Mine
section
variable {prog : Program} {w : World} {A : Around} {E : Value → Shared → Prop} {W : List Addr} {s s₀ : Shared} {env : Env} {σ : Sig} {ρ : Rho}
theorem ev_len {e : Expr} {x : Str} {p pos : Pos} {ds : List PyData} (hf : Is prog w A s₀ (eval (.Name x p) env) (.builtin "len")) (he : Ev prog w A W s₀ (eval e env) (.list ds)) (hz : ds.length < 2 ^ 62) (hs : starEach [e] env = [(false, eval e env)] := by rfl) :
    Ev prog w A W s₀ (eval (.Call (.Name x p) [e] [] pos) env) (.int ds.length) :=
  ev_call1 hf trivial he (fun v s₁ k₁ pv => by
    refine .mk fun E s₂ k₂ => ?_
    obtain ⟨l, vs, rfl, il, dn⟩ := (pv.mono (fz_gr (kGr k₂))).isList
    have e : vs.toArray.size = ds.length := by simpa using dn.length
    refine len_list (isList_sub il) (by rw [e]; omega) ⟨kTok, ?_⟩
    rw [e]; exact Den.int ..) hs
theorem Dens.ints {h : Heap} : ∀ {vs : List Value} {ns : List Int}, Dens h vs (ns.map .int) → IntsAre vs ns
  | vs, [], x => by rw [x.inv0]; exact .nil
  | vs, n :: ns, x => by
    obtain ⟨v, vs', rfl, a, b⟩ := x.inv
    obtain ⟨t, rfl⟩ := a.isInt
    exact .cons _ _ (Dens.ints b)
theorem intsDens {h : Heap} : ∀ {vs : List Value} {ns : List Int}, IntsAre vs ns → Dens h vs (ns.map .int)
  | _, _, .nil => .nil h
  | _, _, .cons n t r => .cons (Den.int ..) (intsDens r)
theorem ev_sum {e : Expr} {x : Str} {p pos : Pos} {ns : List Int} (hh : A.handled = none) (hf : Is prog w A s₀ (eval (.Name x p) env) (.builtin "sum")) (he : Ev prog w A W s₀ (eval e env) (.list (ns.map .int))) (hs : starEach [e] env = [(false, eval e env)] := by rfl) :
    Ev prog w A W s₀ (eval (.Call (.Name x p) [e] [] pos) env) (.int ns.sum) :=
  ev_call1 hf trivial he (fun v s₁ k₁ pv => by
    refine .mk fun E s₂ k₂ => ?_
    obtain ⟨l, vs, rfl, il, dn⟩ := (pv.mono (fz_gr (kGr k₂))).isList
    have hi := dn.ints
    have hall : AllInts vs.toArray := hi.allInts
    obtain ⟨xs, hxs⟩ := hall.items
    have il' := isList_sub il
    rw [hxs] at il'
    refine sum_intListG hh il' fun h' tk t' hk => ⟨⟨_, _, rfl, hk⟩, ?_⟩
    have e1 : numsOf vs = ns := hi.numsOf
    have e2 : numsOf (intItems xs).toList = xs.toList.map (·.1) := nums_intItems xs
    rw [← hxs] at e2
    rw [preSum_eq, List.take_of_length_le (by simp), ← e2]
    simp only [e1]
    exact Den.int ..) hs
theorem ev_strInt {e : Expr} {x : Str} {p pos : Pos} {n : Int} (hf : Is prog w A s₀ (eval (.Name x p) env) (.type "str")) (he : Ev prog w A W s₀ (eval e env) (.int n)) (hz : n.natAbs.log2 < 1920) (hs : starEach [e] env = [(false, eval e env)] := by rfl) :
    Ev prog w A W s₀ (eval (.Call (.Name x p) [e] [] pos) env) (.str (Str.ofString (toString n))) :=
  ev_call1 hf trivial he (fun v s₁ k₁ pv => by
    obtain ⟨t, rfl⟩ := pv.isInt
    exact .mk fun _ _ _ => P.str_of_int hz ⟨kTok, Den.str ..⟩) hs
theorem ev_abs {e : Expr} {x : Str} {p pos : Pos} {n : Int} (hf : Is prog w A s₀ (eval (.Name x p) env) (.builtin "abs")) (he : Ev prog w A W s₀ (eval e env) (.int n)) (hs : starEach [e] env = [(false, eval e env)] := by rfl) :
    Ev prog w A W s₀ (eval (.Call (.Name x p) [e] [] pos) env) (.int (if n < 0 then -n else n)) :=
  ev_call1 hf trivial he (fun v s₁ k₁ pv => by
    obtain ⟨t, rfl⟩ := pv.isInt
    exact .mk fun _ _ _ => call_abs_int fun u tk => ⟨kTok, Den.int ..⟩) hs
theorem ev_divmod {e e' : Expr} {x : Str} {p pos : Pos} {a b : Int} (X : Ex W s₀.heap) (hf : Is prog w A s₀ (eval (.Name x p) env) (.builtin "divmod")) (he : Ev prog w A W s₀ (eval e env) (.int a)) (he' : Ev prog w A W s₀ (eval e' env) (.int b)) (hb : b ≠ 0) (hp : Builtin.divisionGoesByPylong a b = false) (hs : starEach [e, e'] env = [(false, eval e env), (false, eval e' env)] := by rfl) :
    Ev prog w A W s₀ (eval (.Call (.Name x p) [e, e'] [] pos) env) (.tuple [.int (a.fdiv b), .int (a.fmod b)]) :=
  ev_call2 hf trivial he he' (fun v v' s₁ k₁ pv pv' => by
    obtain ⟨t, rfl⟩ := pv.isInt
    obtain ⟨t', rfl⟩ := pv'.isInt
    refine .mk fun _ s₂ k₂ => ?_
    refine divmod_int hb ⟨⟨_, _, rfl, Gr.push _ _⟩, ?_⟩ (.inl hp)
    exact Den.newTuple (n := 0) (X.mono (kGr (kTrans k₁ k₂))) (.cons (Den.int ..) (.cons (Den.int ..) (.nil _)))) hs
theorem ev_intStr {e : Expr} {x : Str} {p pos : Pos} {y : Str} {n : Int} (hf : Is prog w A s₀ (eval (.Name x p) env) (.type "int")) (he : Ev prog w A W s₀ (eval e env) (.str y)) (hn : PySem.intText? y = some n) (hl : y.length ≤ 640) (hs : starEach [e] env = [(false, eval e env)] := by rfl) :
    Ev prog w A W s₀ (eval (.Call (.Name x p) [e] [] pos) env) (.int n) :=
  ev_call1 hf trivial he (fun v s₁ k₁ pv => by
    obtain ⟨t, rfl⟩ := pv.isStr
    exact .mk fun _ _ _ => PySem.W.KIN.call_text hn hl ⟨kTok, Den.int ..⟩) hs
theorem ev_sorted {e : Expr} {x : Str} {p pos : Pos} {ns : List Int} {P : Value → Shared → Prop} (X : Ex W s₀.heap) (hf : Is prog w A s₀ (eval (.Name x p) env) (.builtin "sorted")) (he : Ev prog w A W s₀ (eval e env) (.list (ns.map .int))) (hz : ns.length < 64) (hs : starEach [e] env = [(false, eval e env)] := by rfl) :
    Do prog w A s₀ (eval (.Call (.Name x p) [e] [] pos) env) (fun v s' => ∃ ns' : List Int, ns'.Perm ns ∧ ns'.Pairwise (· ≤ ·) ∧ Den (fz W s'.heap) v (.list (ns'.map .int))) :=
  ev_call1 hf trivial he (fun v s₁ k₁ pv => by
    refine .mk fun E s₂ k₂ => ?_
    obtain ⟨l, vs, rfl, il, dn⟩ := (pv.mono (fz_gr (kGr k₂))).isList
    have X₂ : Ex W s₂.heap := X.mono (kGr (kTrans k₁ k₂))
    refine sorted_ints (isList_sub il) dn.ints (by rw [dn.length]; simpa using hz) fun out ns' a1 a2 a3 => ⟨⟨_, s₂.toks, rfl, fun _ _ => sortedAll_old⟩, ns', a2, a3, ?_⟩
    obtain ⟨e, he⟩ := sortedAll_at s₂.heap vs out
    exact .list (vs := out.toList) ⟨_, fz_at he (X₂.above (Nat.le_succ _)), rfl, e, by simp⟩ (intsDens a1)) hs
theorem ev_addL {l r : Expr} {pos : Pos} {ds es : List PyData} (X : Ex W s₀.heap) (hl : Ev prog w A W s₀ (eval l env) (.list ds)) (hr : Ev prog w A W s₀ (eval r env) (.list es)) (hz : ds.length + es.length ≤ sizeLine) : Ev prog w A W s₀ (eval (.BinOp l .Add r pos) env) (.list (ds ++ es)) :=
  ev_bin hl hr fun a b s₂ k₂ pa pb => by
    refine .mk fun E s₃ k₃ => ?_
    obtain ⟨x, vs, rfl, il, dn⟩ := (pa.mono (fz_gr (kGr k₃))).isList
    obtain ⟨y, us, rfl, jl, en⟩ := (pb.mono (fz_gr (kGr k₃))).isList
    obtain ⟨⟨cls, dd, data, sl⟩, ho, hc, n, hd⟩ := isList_sub il
    obtain ⟨⟨cls2, dd2, data2, sl2⟩, ho2, hc2, n2, hd2⟩ := isList_sub jl
    simp only at hc hd hc2 hd2
    subst hc hd hc2 hd2
    have e : vs.toArray ++ us.toArray = (vs ++ us).toArray := by simp
    refine concat_meets ⟨_, ho, rfl⟩ ⟨_, ho2, rfl⟩ noFill_list_add seq_list_add PySem.F.slot_list_add PySem.F.entry_list_add (PySem.F.args_list_add_2 _ _) (list_addW x y vs.toArray us.toArray n n2 dd dd2 sl sl2 (by have := dn.length; have := en.length; simp; omega)) ⟨ho, ho2, ?_⟩
    rw [e]
    exact ⟨kPush, Den.newList (n := 0) (X.mono (kGr (kTrans k₂ k₃))) (dn.append en)⟩
theorem tst_neL {l r : Expr} {pos : Pos} {dl dr : PyData} (hl : Ev prog w A W s₀ (eval l env) dl) (hr : Ev prog w A W s₀ (eval r env) dr) (ha : dl.canLay0 = true) (hb : dr.canLay0 = true) (hu : A.units + min dl.depth dr.depth < cLine) (hm : behindInMarks .NotEq r = false := by rfl) : Tst prog w A s₀ env (.Compare l [.NotEq] [r] pos) (!PyData.eqv dl dr) :=
  tst_cmp hl hr (fun a b s₂ _ pa pb => by
    refine .mk fun _ s₃ k₃ => ?_
    obtain ⟨_, ra⟩ := pa.mono (Gr.trans (fz_sub W _) (kGr k₃))
    obtain ⟨_, rb⟩ := pb.mono (Gr.trans (fz_sub W _) (kGr k₃))
    exact SeqAt.compareNe_reads ra rb ha hb hu ⟨kRefl _, Den.bool ..⟩) hm
theorem ev_strList {e : Expr} {x : Str} {p pos : Pos} {ds : List PyData} (hg : A.guards = some []) (hu : A.units + ((PyData.list ds).depth + 3) < cLine) (hf : Is prog w A s₀ (eval (.Name x p) env) (.type "str")) (he : Ev prog w A W s₀ (eval e env) (.list ds)) (h1 : (PyData.list ds).showable = true) (h2 : (PyData.list ds).hasDict = false) (h3 : (PyData.list ds).shown.length ≤ sizeLine) (hs : starEach [e] env = [(false, eval e env)] := by rfl) :
    Ev prog w A W s₀ (eval (.Call (.Name x p) [e] [] pos) env) (.str (PyData.list ds).shown) :=
  ev_call1 hf trivial he (fun v s₁ k₁ pv => by
    refine .mk fun E s₂ k₂ => ?_
    obtain ⟨l, vs, rfl, il, dn⟩ := pv.isList
    obtain ⟨_, r⟩ := pv.mono (Gr.trans (fz_sub W _) (kGr k₂))
    exact str_of_reads r h1 (fun q => by rw [h2] at q; cases q) hg hu (fun _ _ e => e) (fun h' u tk hk => ⟨⟨_, _, rfl, hk⟩, Den.str ..⟩) h3) hs
/-! is, is not -/
theorem tst_is {l r : Expr} {pos : Pos} {dl dr : PyData} {c : Bool} (hl : Ev prog w A W s₀ (eval l env) dl) (hr : Ev prog w A W s₀ (eval r env) dr) (hp : ∀ h a b, Den h a dl → Den h b dr → plainIs a b = true ∧ (a == b) = c) (hm : behindInMarks .Is r = false := by rfl) : Tst prog w A s₀ env (.Compare l [.Is] [r] pos) c :=
  tst_cmp hl hr (fun a b s₂ _ pa pb => by obtain ⟨q, e⟩ := hp _ a b pa pb; subst e; exact .mk fun _ _ _ => wpAny_is_plain q ⟨kRefl _, Den.bool ..⟩) hm
theorem tst_isnot {l r : Expr} {pos : Pos} {dl dr : PyData} {c : Bool} (hl : Ev prog w A W s₀ (eval l env) dl) (hr : Ev prog w A W s₀ (eval r env) dr) (hp : ∀ h a b, Den h a dl → Den h b dr → plainIs a b = true ∧ (a == b) = !c) (hm : behindInMarks .IsNot r = false := by rfl) : Tst prog w A s₀ env (.Compare l [.IsNot] [r] pos) c :=
  tst_cmp hl hr (fun a b s₂ _ pa pb => by
    obtain ⟨q, e⟩ := hp _ a b pa pb
    have : c = !(a == b) := by rw [e]; simp
    subst this
    exact .mk fun _ _ _ => wpAny_isNot_plain q ⟨kRefl _, Den.bool ..⟩) hm
theorem is_bools (b c : Bool) : ∀ h x y, Den h x (.bool b) → Den h y (.bool c) → plainIs x y = true ∧ (x == y) = (b == c) := fun h x y p q => by
  rw [p.isBool, q.isBool]
  cases b <;> cases c <;> exact ⟨rfl, by decide⟩
end
end Mine
end
section
open PySem PySem.Spec PySem.Calls PyProof.Rows PySem.W
set_option maxRecDepth 100000
set_option linter.unusedVariables false
namespace Mine
/-! the program's own defs -/
def defAt (i : Nat) : Stmt := PySem.Challenge.pw_rs0014_01.main.body.getD i (.Pass default)
def nameOf : Stmt → Str
  | .FunctionDef n _ _ _ _ _ _ _ _ _ => n
  | _ => Str.empty
def paramsOf : Stmt → Arguments
  | .FunctionDef _ a _ _ _ _ _ _ _ _ => a
  | _ => { posonlyargs := [], args := [], vararg := none, kwonlyargs := [], kw_defaults := [], kwarg := none, defaults := [] }
def bodyOf : Stmt → List Stmt
  | .FunctionDef _ _ b _ _ _ _ _ _ _ => b
  | _ => []
def scopeOf : Stmt → Scope
  | .FunctionDef _ _ _ _ _ _ s _ _ _ => s
  | _ => { kind := .function, names := [], isGenerator := false, isCoroutine := false, more := [] }
def fdAt (i : Nat) (pm cd doc : Value) : FuncData := docDef (nameOf (defAt i)) (paramsOf (defAt i)) (bodyOf (defAt i)) (scopeOf (defAt i)) pm cd doc
/-- the i-th statement's def stands at a -/
def FnAt (h : Heap) (i : Nat) (a : Addr) : Prop := ∃ o pm cd doc, h.get? a = some o ∧ o.data = .func (fdAt i pm cd doc) ∧ h.CodeRec cd (nameOf (defAt i))
theorem FnAt.keeps {h h' : Heap} {i : Nat} {a : Addr} (x : FnAt h i a) (g : Gr h h') : FnAt h' i a := by
  obtain ⟨o, pm, cd, doc, e, d, c, oc, vs, tq, hc, hoc, r⟩ := x
  exact ⟨o, pm, cd, doc, g _ _ e, d, c, oc, vs, tq, hc, g _ _ hoc, r⟩
theorem FnAt.can {h : Heap} {i : Nat} {a : Addr} (x : FnAt h i a) : CanCall h (.ref a) := let ⟨o, _, _, _, e, d, _⟩ := x; ⟨o, _, e, d⟩
/-- the Around is light enough -/
structure Lt (k : Nat) (A : Around) : Prop where
  hd : A.handled = none
  gd : A.guards = some []
  dp : A.depth + k < recursionLimit
  un : A.units + 4 * k + 10 < cLine
theorem Lt.deeper {k : Nat} {A : Around} (x : Lt (k + 1) A) (env : Env) : Lt k (A.deeper env) := by
  obtain ⟨a, b, c, d⟩ := x
  refine ⟨a, b, ?_, ?_⟩
  · show A.depth + 1 + k < _; omega
  · show A.units + 3 + 4 * k + 10 < _; omega
section
variable {prog : Program} {w : World} {A : Around} {E : Value → Shared → Prop} {W : List Addr} {s s₀ : Shared} {env : Env} {σ : Sig} {ρ : Rho}
theorem zip_lookup : ∀ {xs : List Str} {vs : List Value} {ds : List PyData} {h : Heap}, Dens h vs ds → ∀ {x : Str} {d : PyData}, (xs.zip ds).lookup x = some d → ∃ v, (xs.zip vs).lookup x = some v ∧ Den h v d
  | [], _, _, _, _, _, _, l => by simp at l
  | x :: xs, vs, [], h, dn, y, e, l => by simp at l
  | x :: xs, vs, d :: ds, h, dn, y, e, l => by
    obtain ⟨v, vs', rfl, a, b⟩ := dn.inv
    rw [List.zip_cons_cons, List.lookup_cons] at l ⊢
    cases q : y == x with
    | true => rw [q] at l; cases l; exact ⟨v, rfl, a⟩
    | false => rw [q] at l; exact zip_lookup b l
theorem lookup_all {α : Type} : ∀ {l : List (Str × α)} {x : Str} {v : α}, (x, v) ∈ l → (∀ p ∈ l, p.1 = x → p.2 = v) → l.lookup x = some v
  | [], _, _, m, _ => by cases m
  | (y, u) :: l, x, v, m, h => by
    rw [List.lookup_cons]
    cases q : x == y with
    | true => obtain rfl := eq_of_beq q; exact congrArg some (h (x, u) (.head _) rfl)
    | false =>
      rcases List.mem_cons.mp m with e | m
      · cases e; simp at q
      · exact lookup_all m fun p hp => h p (.tail _ hp)
theorem only_one {α : Type} : ∀ {l : List (Str × α)} {x : Str} {v : α}, (l.map (·.1)).Nodup → l.lookup x = some v → ∀ p ∈ l, p.1 = x → p.2 = v
  | [], _, _, _, l, _, _, _ => by cases l
  | (y, u) :: r, x, v, nd, l, p, m, e => by
    rw [List.map_cons, List.nodup_cons] at nd
    rw [List.lookup_cons] at l
    cases q : x == y with
    | true =>
      rw [q] at l; cases l
      obtain rfl := eq_of_beq q
      rcases List.mem_cons.mp m with rfl | m
      · rfl
      · exact absurd (List.mem_map.mpr ⟨p, m, e⟩) nd.1
    | false =>
      rw [q] at l
      rcases List.mem_cons.mp m with rfl | m
      · simp at e; subst e; simp at q
      · exact only_one nd.2 l p m e
theorem keepL {L : Addr} {s₁ s' : Shared} (k : Keeps s₀ s₁) (m : Mv [L] s₁ s') (h : s₀.heap.get? L = none) : Keeps s₀ s' :=
  ((Mx.of (Mv.of k)).trans (Mx.of m)).toKeeps fun b q => by rw [mem1 q]; exact h
theorem call_fn {i : Nat} {a : Addr} {xs : List Str} {vs : List Value} {ds : List PyData} {d : PyData} {k : Nat} (lt : Lt (k + 1) A) (F : FnAt s₀.heap i a) (hlim : s₀.heap.NoLimit) (X : Ex W s₀.heap) (dn : Dens (fz W s₀.heap) vs ds)
    (hbind : ∀ pm cd doc, bindArgs (fdAt i pm cd doc) ⟨vs, []⟩ = pure (xs.zip vs)) (hxs : xs.Nodup) (hlen : xs.length = vs.length) (hcell : ∀ x ∈ (scopeOf (defAt i)).names, x.2 ≠ .cell) (hloc : ∀ x ∈ xs, (scopeOf (defAt i)).names.lookup x = some .local)
    (hb : ∀ pm cd doc L s₁ E, Keeps s₀ s₁ → s₀.heap.get? L = none → Lt k (A.deeper (callEnv (fdAt i pm cd doc) L a)) → EnvOk (callEnv (fdAt i pm cd doc) L a) (L :: W) → St (callEnv (fdAt i pm cd doc) L a) (L :: W) (xs.zip ds) [] s₁ →
      wpAny (model prog w) (A.deeper (callEnv (fdAt i pm cd doc) L a)) (execs (bodyOf (defAt i)) (callEnv (fdAt i pm cd doc) L a)) (fun f s' => ∃ v, f = .ret v ∧ Mv [L] s₁ s' ∧ Den (fz (L :: W) s'.heap) v d) E s₁)
    (hco : (scopeOf (defAt i)).isCoroutine = false := by rfl) (hgen : (scopeOf (defAt i)).isGenerator = false := by rfl) (hk : (scopeOf (defAt i)).kind = .function := by rfl) :
    Ev prog w A W s₀ (call (.ref a) vs) d := .mk fun E s k₀ => by
  obtain ⟨o, pm, cd, doc, ho, hd, hcd⟩ := F.keeps (kGr k₀)
  refine wpAny_call (codeAny_call_def (by have := lt.dp; omega) ho hd (hlim.keeps (kGr k₀)) hcd rfl (BindsTo.of_eq (hbind pm cd doc)) hcell (fun x hx => hloc x.1 ?_) (fun h₀ hns hk₀ => ?_) hco hgen hk)
  · exact (List.of_mem_zip (show (x.1, x.2) ∈ xs.zip vs from hx)).1
  · have X' : Ex W s.heap := X.mono (kGr k₀)
    have LW : s.heap.objs.size ∉ W := X'.fresh
    have k₁ : Keeps s { s with heap := h₀, toks := s.toks + (xs.zip vs).length } := ⟨_, _, rfl, hk₀⟩
    have nL : s.heap.get? s.heap.objs.size = none := new_size _
    have rev : ∀ x v, (xs.zip vs).lookup x = some v → (xs.zip vs).reverse.lookup x = some v := fun x v l => by
      have nd : ((xs.zip vs).map (·.1)).Nodup := by rw [List.map_fst_zip (Nat.le_of_eq hlen)]; exact hxs
      exact lookup_all (List.mem_reverse.mpr (mem_of_lookup l)) fun p hp => only_one nd l p (List.mem_reverse.mp hp)
    refine wpAny_mono (hb pm cd doc s.heap.objs.size _ _ (kTrans k₀ k₁) (isNone_of_gr (kGr k₀) (new_size _)) (lt.deeper _) ⟨hk, .head _, fun x c l => (by cases l), fun x y c l => (by cases l), fun x c l => (by cases l)⟩ ⟨_, hns, fun x c l => (by cases l), fun b m => ?_, fun x e l => ?_, fun x a ds l => by cases l⟩) (fun f s' h => ?_) (fun e s' h => h)
    · rcases List.mem_cons.mp m with rfl | m
      · obtain ⟨o, _, _, e, _⟩ := hns; exact ⟨o, e⟩
      · exact X'.mono hk₀ b m
    · obtain ⟨v, lv, dv⟩ := zip_lookup dn l
      refine ⟨v, .inl ⟨?_, rev x v lv⟩, dv.mono (fz_more (fun b m => ?_) fun b o _ e => hk₀ b o (kGr k₀ b o e))⟩
      · exact hloc x (List.of_mem_zip (mem_of_lookup lv)).1
      · rcases List.mem_cons.mp m with rfl | m
        · exact .inr (isNone_of_gr (kGr k₀) nL)
        · exact .inl m
    · obtain ⟨v, rfl, mv, dv⟩ := h
      refine ⟨?_, dv.mono (fz_less _ fun b m => .tail _ m)⟩
      have : Mx [s.heap.objs.size] s s' := (Mx.of (Mv.of k₁)).trans (Mx.of mv)
      exact this.toKeeps fun b m => by rw [mem1 m]; exact nL
end
end Mine
end
section
open PySem PySem.Spec PySem.Calls PyProof.Rows PySem.W
set_option maxRecDepth 100000
set_option linter.unusedVariables false
namespace Mine
def bltNames : List (Str × Value) := [("len", .builtin "len"), ("sum", .builtin "sum"), ("sorted", .builtin "sorted"), ("abs", .builtin "abs"), ("divmod", .builtin "divmod"), ("str", .type "str"), ("int", .type "int"), ("range", .type "range"), ("list", .type "list"), ("zip", .type "zip"), ("enumerate", .type "enumerate")]
/-- what the top has left, as far as the law asks it -/
structure Tp (mg mb : Str → Option Value) (h : Heap) : Prop where
  g : h.Ns mainGlobals mg
  b : h.Ns builtinsNs mb
  lim : h.NoLimit
  fn : ∀ i ∈ [4, 5, 8, 9, 11, 12, 13], ∃ a, mg (nameOf (defAt i)) = some (.ref a) ∧ FnAt h i a
  nt : ∃ t, mg "NT_OFFSET" = some (.int 256 t)
  blt : ∀ x v, bltNames.lookup x = some v → mg x = none ∧ mb x = some v
theorem Tp.keeps {mg mb : Str → Option Value} {h h' : Heap} (x : Tp mg mb h) (g : Gr h h') : Tp mg mb h' :=
  ⟨x.g.keeps g, x.b.keeps g, x.lim.keeps g, fun i m => let ⟨a, e, f⟩ := x.fn i m; ⟨a, e, f.keeps g⟩, x.nt, x.blt⟩
theorem Tp.gl {mg mb : Str → Option Value} {h : Heap} (x : Tp mg mb h) {i : Nat} {pm cd doc : Value} {L a : Addr} (hk : (scopeOf (defAt i)).kind = .function := by rfl) : Gl (callEnv (fdAt i pm cd doc) L a) mg mb h := ⟨hk, x.g, x.b⟩
section
variable {prog : Program} {w : World} {A : Around} {E : Value → Shared → Prop} {W : List Addr} {s s₀ : Shared} {env : Env} {σ : Sig} {ρ : Rho} {mg mb : Str → Option Value}
theorem is_b {x : Str} {p : Pos} {v : Value} (T : Tp mg mb s₀.heap) (G : Gl env mg mb s₀.heap) (hx : bltNames.lookup x = some v) (hk : env.kindOf x = some .globalImplicit := by rfl) (hd : (x == ("__debug__" : Str)) = false := by decide) : Is prog w A s₀ (eval (.Name x p) env) v :=
  is_bltn G (T.blt x v hx).1 (T.blt x v hx).2 hk hd
theorem ev_nt {p : Pos} (T : Tp mg mb s₀.heap) (G : Gl env mg mb s₀.heap) (hk : env.kindOf "NT_OFFSET" = some .globalImplicit := by rfl) : Ev prog w A W s₀ (eval (.Name "NT_OFFSET" p) env) (.int 256) := by
  obtain ⟨t, e⟩ := T.nt
  exact (is_glob (w := w) (A := A) (prog := prog) G e hk).mono fun v s _ h => by rw [h]; exact Den.int ..
theorem isterminal {a : Addr} {v : Value} {n : Int} (lt : Lt 1 A) (T : Tp mg mb s₀.heap) (F : FnAt s₀.heap 8 a) (X : Ex W s₀.heap) (dv : Den (fz W s₀.heap) v (.int n)) : Ev prog w A W s₀ (call (.ref a) [v]) (.bool (decide (n < 256))) := by
  refine call_fn (i := 8) (k := 0) (xs := ["x"]) lt F T.lim X (.cons dv (.nil _)) (fun _ _ _ => rfl) (by decide) rfl (by decide +kernel) (by decide +kernel) fun pm cd doc L s₁ E k₁ hL lt' ok S => ?_
  have T₁ := T.keeps (kGr k₁)
  refine wpAny_execs_cons (ex_ret (ev_lt (ev_name ok.kind S rfl) (ev_nt T₁ T₁.gl)) fun v s' k' dv => ?_)
  exact ⟨v, rfl, Mv.of k', dv⟩
theorem isnonterminal {a : Addr} {v : Value} {n : Int} (lt : Lt 1 A) (T : Tp mg mb s₀.heap) (F : FnAt s₀.heap 9 a) (X : Ex W s₀.heap) (dv : Den (fz W s₀.heap) v (.int n)) : Ev prog w A W s₀ (call (.ref a) [v]) (.bool (decide (256 ≤ n))) := by
  refine call_fn (i := 9) (k := 0) (xs := ["x"]) lt F T.lim X (.cons dv (.nil _)) (fun _ _ _ => rfl) (by decide) rfl (by decide +kernel) (by decide +kernel) fun pm cd doc L s₁ E k₁ hL lt' ok S => ?_
  have T₁ := T.keeps (kGr k₁)
  refine wpAny_execs_cons (ex_ret (ev_ge (ev_name ok.kind S rfl) (ev_nt T₁ T₁.gl)) fun v s' k' dv => ?_)
  exact ⟨v, rfl, Mv.of k', dv⟩
end
end Mine
end
section
open PySem PySem.Spec PySem.Calls PyProof.Rows PySem.W
set_option maxRecDepth 100000
set_option linter.unusedVariables false
namespace Mine
section
variable {prog : Program} {w : World} {A : Around} {E : Value → Shared → Prop} {W : List Addr} {s s₀ : Shared} {env : Env} {σ : Sig} {ρ : Rho} {mg mb : Str → Option Value}
theorem part_of {v : Value} {i : Option Int} (h : IsPart v i) : ∃ l, v = partValue l ∧ l.map (·.1) = i := by
  cases h with
  | none => exact ⟨none, rfl, rfl⟩
  | int i t => exact ⟨some (i, t), rfl, rfl⟩
theorem ev_sliceS {v : Expr} {lo hi : Option Expr} {p pos : Pos} {x : Str} {i j : Option Int} (hv : Ev prog w A W s₀ (eval v env) (.str x)) (h1 : Pt prog w A s₀ env lo i) (h2 : Pt prog w A s₀ env hi j) (hz : (Txt.slice x i j).length ≤ sizeLine)
    (hs : ∀ t u, subscripted (.Slice lo hi none p) false (.str x t) (.ref u) = operate [.ref u, .str x t] (getItem (.str x t) (.ref u)) := by intro _ _; with_unfolding_all rfl) :
    Ev prog w A W s₀ (eval (.Subscript v (.Slice lo hi none p) pos) env) (.str (Txt.slice x i j)) := .mk fun _ s q =>
  Subscript_ (hv.nest q fun y s₁ k₁ py => wpAny_Slice (h1.nest (kTrans q k₁) fun a s₂ k₂ pa => h2.nest (kTrans q (kTrans k₁ k₂)) fun b s₃ k₃ pb => by
    obtain ⟨t, rfl⟩ := py.isStr
    obtain ⟨l, rfl, el⟩ := part_of pa
    obtain ⟨u, rfl, eu⟩ := part_of pb
    rw [evalPart_none]
    refine wpAny_pure (tail_any (typeIs_str _ x t) F.slot_str_getitem.lookup (wpAny_getItem_str_slice (l := l) (u := u) (st := none) ⟨_, Heap.get?_push_size _ rfl, rfl, rfl⟩ rfl ?_) (hs t _))
    have K : Keeps s { s₃ with heap := s₃.heap.push { cls := .type "slice", data := .fields #[partValue l, partValue u, .none] } } := kTrans k₁ (kTrans k₂ (kTrans k₃ kPush))
    unfold Txt.slice at hz ⊢
    unfold sliceMade slicePicked
    rw [el, eu]
    simp only [Option.map_none, Option.getD_none]
    split
    · exact ⟨K, Den.str ..⟩
    · rename_i h
      rw [if_neg h] at hz
      exact ⟨hz, kTrans K kTok, Den.str ..⟩))
theorem ev_startswith {o e : Expr} {apos pos : Pos} {x y : Str} (ho : Ev prog w A W s₀ (eval o env) (.str x)) (he : Ev prog w A W s₀ (eval e env) (.str y)) (hb : attributeBase o "startswith" env (eval o env) = eval o env := by rfl) (hs : starEach [e] env = [(false, eval e env)] := by rfl) (hl : (apos.endLine == pos.line) = true := by rfl) :
    Ev prog w A W s₀ (eval (.Call (.Attribute o "startswith" apos) [e] [] pos) env) (.bool (Txt.startswith x y)) := .mk fun _ s k =>
  Call_method1 hb hs hl (ho.nest k fun v s₁ k₁ pv => by
    obtain ⟨t, rfl⟩ := pv.isStr
    exact SB.startswith (he.nest (kTrans k k₁) fun v' s₂ k₂ pv' => by
      obtain ⟨u, rfl⟩ := pv'.isStr
      exact ⟨y, u, rfl, kTrans k₁ k₂, Den.bool ..⟩))
theorem ev_endswith {o e : Expr} {apos pos : Pos} {x y : Str} (ho : Ev prog w A W s₀ (eval o env) (.str x)) (he : Ev prog w A W s₀ (eval e env) (.str y)) (hb : attributeBase o "endswith" env (eval o env) = eval o env := by rfl) (hs : starEach [e] env = [(false, eval e env)] := by rfl) (hl : (apos.endLine == pos.line) = true := by rfl) :
    Ev prog w A W s₀ (eval (.Call (.Attribute o "endswith" apos) [e] [] pos) env) (.bool (Txt.endswith x y)) := .mk fun _ s k =>
  Call_method1 hb hs hl (ho.nest k fun v s₁ k₁ pv => by
    obtain ⟨t, rfl⟩ := pv.isStr
    exact SB.endswith (he.nest (kTrans k k₁) fun v' s₂ k₂ pv' => by
      obtain ⟨u, rfl⟩ := pv'.isStr
      exact ⟨y, u, rfl, kTrans k₁ k₂, Den.bool ..⟩))
theorem tst_bool {e : Expr} {b : Bool} (h : Ev prog w A W s₀ (eval e env) (.bool b)) (hq : isTrue e env (eval e env) = (do let v ← eval e env; standAt e.pos; holding [v] (truthy v)) := by rfl) : Tst prog w A s₀ env e b :=
  tst_val h (fun v s₁ k₁ pv => by rw [pv.isBool]; exact .mk fun _ s _ => wpAny_truthy_bool ⟨kRefl s, rfl⟩) hq
theorem tst_int {e : Expr} {n : Int} (h : Ev prog w A W s₀ (eval e env) (.int n)) (hq : isTrue e env (eval e env) = (do let v ← eval e env; standAt e.pos; holding [v] (truthy v)) := by rfl) : Tst prog w A s₀ env e (n != 0) :=
  tst_val h (fun v s₁ k₁ pv => by obtain ⟨t, rfl⟩ := pv.isInt; exact .mk fun _ s _ => PyProof.Rows.truthy_int ⟨kRefl s, rfl⟩) hq
def qt : Str := "\""
def stripQ (x : Str) : Str :=
  let y := if Txt.startswith x qt = true then Txt.slice x (some 1) none else x
  if Txt.endswith y qt = true then Txt.slice y none (some (-1)) else y
theorem len_slice (x : Str) (i j : Option Int) : (Txt.slice x i j).length ≤ x.length := PyProof.Txt.length_slice_le x i j
theorem stripquotes {a : Addr} {v : Value} {x : Str} (lt : Lt 1 A) (T : Tp mg mb s₀.heap) (F : FnAt s₀.heap 5 a) (X : Ex W s₀.heap) (hz : x.length ≤ sizeLine) (dv : Den (fz W s₀.heap) v (.str x)) : Ev prog w A W s₀ (call (.ref a) [v]) (.str (stripQ x)) := by
  refine call_fn (i := 5) (k := 0) (xs := ["text"]) lt F T.lim X (.cons dv (.nil _)) (fun _ _ _ => rfl) (by decide) rfl (by decide +kernel) (by decide +kernel) fun pm cd doc L s₁ E k₁ hL lt' ok S => ?_
  have second : ∀ (y : Str) s₂ ρ', y.length ≤ sizeLine → Mv [L] s₁ s₂ → St (callEnv (fdAt 5 pm cd doc) L a) (L :: W) (("text", .str y) :: ρ') [] s₂ → wpAny (model prog w) (A.deeper (callEnv (fdAt 5 pm cd doc) L a)) (execs ((bodyOf (defAt 5)).drop 1) (callEnv (fdAt 5 pm cd doc) L a)) (fun f s' => ∃ v, f = .ret v ∧ Mv [L] s₁ s' ∧ Den (fz (L :: W) s'.heap) v (.str (if Txt.endswith y qt = true then Txt.slice y none (some (-1)) else y))) E s₂ := by
    intro y s₂ ρ' hy m₂ S₂
    refine wpAny_execs_cons (ex_if (tst_bool (ev_endswith (ev_name ok.kind S₂ rfl) ev_str)) (fun hc s₃ k₃ => ?_) (fun hc s₃ k₃ => ?_))
    · have S₃ := S₂.keeps k₃
      refine wpAny_execs_cons (ex_assign ok S₃ (ev_sliceS (ev_name ok.kind S₃ rfl) pt_none (pt_some (W := L :: W) (ev_neg ev_int)) (Nat.le_trans (len_slice ..) hy)) (.inl ⟨rfl, rfl⟩) fun s₄ m₄ S₄ => wpAny_execs_nil ?_)
      refine wpAny_execs_cons (ex_ret (ev_name ok.kind S₄ rfl) fun v s' k' dv => ⟨v, rfl, m₂.trans ((Mv.of k₃).trans (m₄.trans (Mv.of k'))), ?_⟩)
      rw [if_pos (show Txt.endswith y qt = true from hc)]; exact dv
    · have S₃ := S₂.keeps k₃
      refine wpAny_execs_nil (wpAny_execs_cons (ex_ret (ev_name ok.kind S₃ rfl) fun v s' k' dv => ⟨v, rfl, m₂.trans ((Mv.of k₃).trans (Mv.of k')), ?_⟩))
      rw [if_neg (by rw [show Txt.endswith y qt = false from hc]; decide)]; exact dv
  refine wpAny_execs_cons (ex_if (tst_bool (ev_startswith (ev_name ok.kind S rfl) ev_str)) (fun hc s₃ k₃ => ?_) (fun hc s₃ k₃ => ?_))
  · have S₃ := S.keeps k₃
    refine wpAny_execs_cons (ex_assign ok S₃ (ev_sliceS (ev_name ok.kind S₃ rfl) (pt_some (W := L :: W) ev_int) pt_none (Nat.le_trans (len_slice ..) hz)) (.inl ⟨rfl, rfl⟩) fun s₄ m₄ S₄ => wpAny_execs_nil ?_)
    have := second _ s₄ _ (Nat.le_trans (len_slice ..) hz) ((Mv.of k₃).trans m₄) S₄
    have e : stripQ x = (if Txt.endswith (Txt.slice x (some 1) none) qt = true then Txt.slice (Txt.slice x (some 1) none) none (some (-1)) else Txt.slice x (some 1) none) := by
      unfold stripQ; rw [show Txt.startswith x qt = true from hc]; rfl
    rw [e]
    exact this
  · have := second x s₃ _ hz (Mv.of k₃) (S.keeps k₃)
    have e : stripQ x = (if Txt.endswith x qt = true then Txt.slice x none (some (-1)) else x) := by
      unfold stripQ; rw [show Txt.startswith x qt = false from hc]; rfl
    rw [e]
    exact wpAny_execs_nil this
end
end Mine
end
section
open PySem PySem.Spec PySem.Calls PyProof.Rows PySem.W
set_option maxRecDepth 100000
set_option linter.unusedVariables false
namespace Mine
def menu12 : List Str := ["EST", "gmt", "", "+", "\"\"1", "+-1", "12345", "1 ", "1:2", "1\"\"", "1\"0", "100:00"]
def menu4 : List Str := ["GMT", "UTC", "UT", "Z"]
def num (n : Int) : Str := Str.ofString (toString n)
def two (n : Int) : Str := Txt.slice (num (100 + n)) (some 1) none
/-- the zone's text for a sign, hours, minutes, a way of writing -/
def zoneF (sg : Str) (h r : Int) (f b : Int) : Str :=
  if (f == 5 && r == 0) = true then sg ++ num h ++ (["", ":"] : List Str).getD b.toNat "" else
  sg ++ ([two h ++ ":" ++ two r, two h ++ two r, num h ++ ":" ++ two r, num h ++ two r, two h ++ ":" ++ two r, two h ++ two r] : List Str).getD f.toNat ""
def zoneS (m : Int) (c : Int) : Str := if decide (m < 0) = true then "-" else (["", "+", if (m != 0) = true then "" else "-"] : List Str).getD c.toNat ""
def absI (m : Int) : Int := if m < 0 then -m else m
def zoneC (m f : Int) : Bool := f == 4 && decide (0 < (absI m).fdiv 60) && decide ((absI m).fmod 60 < 40)
def zoneH (m f : Int) : Int := if zoneC m f = true then (absI m).fdiv 60 - 1 else (absI m).fdiv 60
def zoneR (m f : Int) : Int := if zoneC m f = true then (absI m).fmod 60 + 60 else (absI m).fmod 60
def zoneT (m d : Int) : Str :=
  if ((d.fdiv 144).fmod 6 == 5) = true then menu12.getD ((d.fdiv 6).fmod 12).toNat "" else
  if (d.fmod 6 == 5 && m == 0) = true then menu4.getD ((d.fdiv 6).fmod 4).toNat "" else
  zoneF (zoneS m ((d.fdiv 48).fmod 3)) (zoneH m (d.fmod 6)) (zoneR m (d.fmod 6)) (d.fmod 6) ((d.fdiv 6).fmod 2)

theorem num_len : ∀ n : Nat, n < 1000 → (num (n : Int)).length ≤ 3 := by decide +kernel
theorem num_le {n : Int} (h0 : 0 ≤ n) (h1 : n < 1000) : (num n).length ≤ 3 := by
  have := num_len n.toNat (by omega)
  rwa [Int.toNat_of_nonneg h0] at this
theorem two_le {n : Int} (h0 : 0 ≤ n) (h1 : n < 900) : (two n).length ≤ 3 := Nat.le_trans (len_slice ..) (num_le (by omega) (by omega))
theorem fmod_range {a b : Int} (hb : 0 < b) : 0 ≤ a.fmod b ∧ a.fmod b < b := ⟨Int.fmod_nonneg_of_pos a hb, Int.fmod_lt_of_pos a hb⟩
section
variable {prog : Program} {w : World} {A : Around} {E : Value → Shared → Prop} {W : List Addr} {s s₀ : Shared} {env : Env} {σ : Sig} {ρ : Rho} {mg mb : Str → Option Value}
theorem getD_str : ∀ (xs : List Str) (i : Nat), i < xs.length → (xs.map PyData.str)[i]? = some (.str (xs.getD i ""))
  | x :: xs, 0, _ => rfl
  | x :: xs, i + 1, h => by simpa using getD_str xs i (by simpa using h)
theorem ev_itemS {v i : Expr} {pos : Pos} (xs : List Str) {k : Int} (hv : Ev prog w A W s₀ (eval v env) (.list (xs.map .str))) (hi : Ev prog w A W s₀ (eval i env) (.int k)) (h0 : 0 ≤ k) (h1 : k < xs.length) (hz : xs.length < 100)
    (hs : ∀ l u, subscripted i false (.ref l) (.int k u) = operate [.ref l, .int k u] (getItem (.ref l) (.int k u)) := by intro _ _; with_unfolding_all rfl) : Ev prog w A W s₀ (eval (.Subscript v i pos) env) (.str (xs.getD k.toNat "")) :=
  ev_item hv hi h0 (by omega) (getD_str xs k.toNat (by omega)) hs
theorem getD_int : ∀ (xs : List Int) (i : Nat), i < xs.length → (xs.map PyData.int)[i]? = some (.int (xs.getD i 0))
  | x :: xs, 0, _ => rfl
  | x :: xs, i + 1, h => by simpa using getD_int xs i (by simpa using h)
theorem ev_itemI {v i : Expr} {pos : Pos} (xs : List Int) {k : Int} (hv : Ev prog w A W s₀ (eval v env) (.list (xs.map .int))) (hi : Ev prog w A W s₀ (eval i env) (.int k)) (h0 : 0 ≤ k) (h1 : k < xs.length) (hz : xs.length < 100)
    (hs : ∀ l u, subscripted i false (.ref l) (.int k u) = operate [.ref l, .int k u] (getItem (.ref l) (.int k u)) := by intro _ _; with_unfolding_all rfl) : Ev prog w A W s₀ (eval (.Subscript v i pos) env) (.int (xs.getD k.toNat 0)) :=
  ev_item hv hi h0 (by omega) (getD_int xs k.toNat (by omega)) hs
theorem log_small {n : Int} (h : n.natAbs < 2 ^ 64) : n.natAbs.log2 < 1920 := by
  rcases Nat.eq_zero_or_pos n.natAbs with q | q
  · rw [q]; decide
  · exact Nat.lt_trans ((Nat.log2_lt (by omega)).mpr h) (by decide)
theorem nolong {a b : Int} (h : b.natAbs < 1073741824) : Builtin.divisionGoesByPylong a b = false := PyProof.noPylong_small h

theorem less5 (a b : PyData) (c d e f : PyData) : ∀ (y : Str) (q : PyData), List.lookup y [(Str.ofString "sign", a), ("rest", c), ("hours", d), ("minutes", e), ("dress", f)] = some q → List.lookup y [(Str.ofString "sign", a), ("sign", b), ("rest", c), ("hours", d), ("minutes", e), ("dress", f)] = some q := by
  intro y q l
  rw [List.lookup_cons] at l ⊢
  cases z : y == Str.ofString "sign" with
  | true => rw [z] at l; exact l
  | false => rw [z] at l; rw [List.lookup_cons, z]; exact l
theorem less4 (a b a' b' : PyData) (e f : PyData) : ∀ (y : Str) (q : PyData), List.lookup y [(Str.ofString "rest", a), ("hours", b), ("minutes", e), ("dress", f)] = some q → List.lookup y ([(Str.ofString "rest", a), ("hours", b)] ++ ([(Str.ofString "rest", a'), ("hours", b')] ++ [(Str.ofString "minutes", e), ("dress", f)])) = some q := by
  intro y q l
  simp only [List.cons_append, List.nil_append]
  rw [List.lookup_cons] at l ⊢
  cases z : y == Str.ofString "rest" with
  | true => rw [z] at l; exact l
  | false =>
    rw [z] at l
    simp only at l ⊢
    rw [List.lookup_cons] at l ⊢
    cases z' : y == Str.ofString "hours" with
    | true => rw [z'] at l; exact l
    | false =>
      rw [z'] at l
      simp only at l ⊢
      rw [List.lookup_cons, z, List.lookup_cons, z']
      exact l
/-- the tail of _law_zone, from the sign on -/
theorem zone_tail {pm cd doc : Value} {L a : Addr} {s₁ : Shared} {m d h r : Int} {sg : Str} (hsg : sg.length ≤ 1) (h0 : 0 ≤ h) (h1 : h < 900) (r0 : 0 ≤ r) (r1 : r < 900) (T : Tp mg mb s₀.heap) (k₁ : Keeps s₀ s₁) (hL : s₀.heap.get? L = none)
    (ok : EnvOk (callEnv (fdAt 11 pm cd doc) L a) (L :: W)) (S : St (callEnv (fdAt 11 pm cd doc) L a) (L :: W) [("sign", .str sg), ("rest", .int r), ("hours", .int h), ("minutes", .int m), ("dress", .int d)] [] s₁) :
    wpAny (model prog w) A (execs ((bodyOf (defAt 11)).drop 6) (callEnv (fdAt 11 pm cd doc) L a)) (fun f s' => ∃ v, f = .ret v ∧ Mv [L] s₁ s' ∧ Den (fz (L :: W) s'.heap) v (.str (zoneF sg h r (d.fmod 6) ((d.fdiv 6).fmod 2)))) E s₁ := by
  have z : (2 ^ 24 : Nat) = sizeLine := rfl
  have f6 := fmod_range (a := d) (b := 6) (by decide)
  have f2 := fmod_range (a := d.fdiv 6) (b := 2) (by decide)
  have X := S.ex
  have T₁ := T.keeps (kGr k₁)
  refine wpAny_execs_cons (ex_if (tst_and2 (tst_eq (ev_mod (ev_name ok.kind S rfl) ev_int (by decide)) ev_int) (fun _ => tst_eq (ev_name ok.kind S rfl) ev_int)) (fun hc s₂ k₂ => ?_) (fun hc s₂ k₂ => ?_))
  · have S₂ := S.keeps k₂
    have T₂ := T₁.keeps (kGr k₂)
    have nl : (num h).length ≤ 3 := num_le h0 (by omega)
    refine wpAny_execs_cons (ex_ret (ev_cat (ev_cat (ev_name ok.kind S₂ rfl) (ev_strInt (is_b T₂ T₂.gl rfl) (ev_name ok.kind S₂ rfl) (log_small (by omega))) (by show sg.length + (num h).length ≤ _; omega))
      (ev_itemS ["", ":"] (ev_list S₂.ex (els_cons ev_str (els_cons ev_str els_nil))) (ev_mod (ev_div (ev_name ok.kind S₂ rfl) ev_int (by decide) (nolong (by decide))) ev_int (by decide)) f2.1 (by simpa using f2.2) (by decide)) ?_) fun v s' k' dv => ⟨v, rfl, (Mv.of k₂).trans (Mv.of k'), ?_⟩)
    · have : ((["", ":"] : List Str).getD ((d.fdiv 6).fmod 2).toNat "").length ≤ 1 := by
        have : ((d.fdiv 6).fmod 2).toNat = 0 ∨ ((d.fdiv 6).fmod 2).toNat = 1 := by omega
        rcases this with e | e <;> rw [e] <;> decide
      rw [Str.length_append]
      show sg.length + (num h).length + _ ≤ _
      omega
    · have e : zoneF sg h r (d.fmod 6) ((d.fdiv 6).fmod 2) = sg ++ num h ++ (["", ":"] : List Str).getD ((d.fdiv 6).fmod 2).toNat "" := by
        unfold zoneF; rw [if_pos hc]
      rw [e]; exact dv
  · refine wpAny_execs_nil ?_
    have S₂ := S.keeps k₂
    have T₂ := T₁.keeps (kGr k₂)
    have h3 : (num (100 + h)).length ≤ 3 := num_le (by omega) (by omega)
    have r3 : (num (100 + r)).length ≤ 3 := num_le (by omega) (by omega)
    have hl : (two h).length ≤ 3 := two_le h0 h1
    have rl : (two r).length ≤ 3 := two_le r0 r1
    have nl : (num h).length ≤ 3 := num_le h0 (by omega)
    refine wpAny_execs_cons (ex_assign ok S₂ (d := .str (two h)) (ev_sliceS (ev_strInt (is_b T₂ T₂.gl rfl) (ev_add ev_int (ev_name ok.kind S₂ rfl)) (log_small (by omega))) (pt_some (W := L :: W) ev_int) pt_none (by show (two h).length ≤ _; omega)) (.inl ⟨rfl, rfl⟩) fun s₃ m₃ S₃ => ?_)
    have T₃ : Tp mg mb s₃.heap := T.keeps (kGr (keepL k₁ ((Mv.of k₂).trans m₃) hL))
    refine wpAny_execs_cons (ex_assign ok S₃ (d := .str (two r)) (ev_sliceS (ev_strInt (is_b T₃ T₃.gl rfl) (ev_add ev_int (ev_name ok.kind S₃ rfl)) (log_small (by omega))) (pt_some (W := L :: W) ev_int) pt_none (by show (two r).length ≤ _; omega)) (.inl ⟨rfl, rfl⟩) fun s₄ m₄ S₄ => ?_)
    have T₄ : Tp mg mb s₄.heap := T.keeps (kGr (keepL k₁ ((Mv.of k₂).trans (m₃.trans m₄)) hL))
    have nt : ∀ {p : Pos}, Ev prog w A (L :: W) s₄ (eval (.Name "two" p) (callEnv (fdAt 11 pm cd doc) L a)) (.str (two h)) := fun {p} => ev_name ok.kind S₄ rfl
    have nr : ∀ {p : Pos}, Ev prog w A (L :: W) s₄ (eval (.Name "last" p) (callEnv (fdAt 11 pm cd doc) L a)) (.str (two r)) := fun {p} => ev_name ok.kind S₄ rfl
    have nh : ∀ {p q q' : Pos}, Ev prog w A (L :: W) s₄ (eval (.Call (.Name "str" p) [.Name "hours" q] [] q') (callEnv (fdAt 11 pm cd doc) L a)) (.str (num h)) := fun {p q q'} => ev_strInt (is_b T₄ T₄.gl rfl) (ev_name ok.kind S₄ rfl) (log_small (by omega))
    have c1 : (Str.ofString ":").length = 1 := by decide
    have l3 : ∀ x : Str, x.length ≤ 3 → x.length + (Str.ofString ":").length ≤ sizeLine := fun x hx => by omega
    have l4 : ∀ x y : Str, x.length ≤ 3 → y.length ≤ 3 → (x ++ Str.ofString ":").length + y.length ≤ sizeLine := fun x y hx hy => by rw [Str.length_append]; omega
    have l5 : ∀ x y : Str, x.length ≤ 3 → y.length ≤ 3 → x.length + y.length ≤ sizeLine := fun x y hx hy => by omega
    refine wpAny_execs_cons (ex_ret (ev_cat (ev_name ok.kind S₄ rfl) (ev_itemS [two h ++ ":" ++ two r, two h ++ two r, num h ++ ":" ++ two r, num h ++ two r, two h ++ ":" ++ two r, two h ++ two r]
      (ev_list S₄.ex (els_cons (ev_cat (ev_cat nt ev_str (l3 _ hl)) nr (l4 _ _ hl rl)) (els_cons (ev_cat nt nr (l5 _ _ hl rl)) (els_cons (ev_cat (ev_cat nh ev_str (l3 _ nl)) nr (l4 _ _ nl rl)) (els_cons (ev_cat nh nr (l5 _ _ nl rl)) (els_cons (ev_cat (ev_cat nt ev_str (l3 _ hl)) nr (l4 _ _ hl rl)) (els_cons (ev_cat nt nr (l5 _ _ hl rl)) els_nil)))))) (by show 6 ≤ sizeLine; decide))
      (ev_mod (ev_name ok.kind S₄ rfl) ev_int (by decide)) f6.1 (by simpa using f6.2) (by show 6 < 100; decide)) ?_) fun v s' k' dv => ⟨v, rfl, (Mv.of k₂).trans (m₃.trans (m₄.trans (Mv.of k'))), ?_⟩)
    · have : (([two h ++ ":" ++ two r, two h ++ two r, num h ++ ":" ++ two r, num h ++ two r, two h ++ ":" ++ two r, two h ++ two r] : List Str).getD (d.fmod 6).toNat "").length ≤ 7 := by
        have : (d.fmod 6).toNat = 0 ∨ (d.fmod 6).toNat = 1 ∨ (d.fmod 6).toNat = 2 ∨ (d.fmod 6).toNat = 3 ∨ (d.fmod 6).toNat = 4 ∨ (d.fmod 6).toNat = 5 := by omega
        rcases this with e | e | e | e | e | e <;> rw [e] <;> simp only [List.getD_cons_zero, List.getD_cons_succ, Str.length_append] <;> omega
      omega
    · have e : zoneF sg h r (d.fmod 6) ((d.fdiv 6).fmod 2) = sg ++ ([two h ++ ":" ++ two r, two h ++ two r, num h ++ ":" ++ two r, num h ++ two r, two h ++ ":" ++ two r, two h ++ two r] : List Str).getD (d.fmod 6).toNat "" := by
        unfold zoneF; rw [if_neg (by rw [hc]; decide)]
      rw [e]; exact dv
theorem sign_len (m c : Int) (h0 : 0 ≤ c) (h1 : c < 3) : (zoneS m c).length ≤ 1 := by
  unfold zoneS
  split
  · decide
  · have : c.toNat = 0 ∨ c.toNat = 1 ∨ c.toNat = 2 := by omega
    rcases this with e | e | e <;> rw [e] <;> simp only [List.getD_cons_zero, List.getD_cons_succ]
    · decide
    · decide
    · split <;> decide
/-- from the sign on -/
theorem zone_sign {pm cd doc : Value} {L a : Addr} {s₁ : Shared} {m d h r : Int} (h0 : 0 ≤ h) (h1 : h < 900) (r0 : 0 ≤ r) (r1 : r < 900) (T : Tp mg mb s₀.heap) (k₁ : Keeps s₀ s₁) (hL : s₀.heap.get? L = none)
    (ok : EnvOk (callEnv (fdAt 11 pm cd doc) L a) (L :: W)) (S : St (callEnv (fdAt 11 pm cd doc) L a) (L :: W) [("rest", .int r), ("hours", .int h), ("minutes", .int m), ("dress", .int d)] [] s₁) :
    wpAny (model prog w) A (execs ((bodyOf (defAt 11)).drop 4) (callEnv (fdAt 11 pm cd doc) L a)) (fun f s' => ∃ v, f = .ret v ∧ Mv [L] s₁ s' ∧ Den (fz (L :: W) s'.heap) v (.str (zoneF (zoneS m ((d.fdiv 48).fmod 3)) h r (d.fmod 6) ((d.fdiv 6).fmod 2)))) E s₁ := by
  have f3 := fmod_range (a := d.fdiv 48) (b := 3) (by decide)
  have nm : ∀ {p : Pos}, Ev prog w A (L :: W) s₁ (eval (.Name "minutes" p) (callEnv (fdAt 11 pm cd doc) L a)) (.int m) := fun {p} => ev_name ok.kind S rfl
  refine wpAny_execs_cons (ex_assign ok S (ev_itemS ["", "+", if (m != 0) = true then "" else "-"] (ev_list S.ex (els_cons ev_str (els_cons ev_str (els_cons (ev_ifexp (d := .str (if (m != 0) = true then "" else "-")) (tst_int nm) (fun e => by rw [if_pos e]; exact ev_str) (fun e => by rw [if_neg (by rw [e]; decide)]; exact ev_str)) els_nil))) (by show 3 ≤ sizeLine; decide))
    (ev_mod (ev_div (ev_name ok.kind S rfl) ev_int (by decide) (nolong (by decide))) ev_int (by decide)) f3.1 (by simpa using f3.2) (by show 3 < 100; decide)) (.inl ⟨rfl, rfl⟩) fun s₂ m₂ S₂ => ?_)
  refine wpAny_execs_cons (ex_if (tst_lt (ev_name ok.kind S₂ rfl) ev_int) (fun hc s₃ k₃ => ?_) (fun hc s₃ k₃ => ?_))
  · have S₃ := S₂.keeps k₃
    refine wpAny_execs_cons (ex_assign ok S₃ ev_str (.inl ⟨rfl, rfl⟩) fun s₄ m₄ S₄ => wpAny_execs_nil ?_)
    have mm : Mv [L] s₁ s₄ := m₂.trans ((Mv.of k₃).trans m₄)
    have e : zoneS m ((d.fdiv 48).fmod 3) = "-" := by unfold zoneS; rw [if_pos hc]
    rw [e]
    refine wpAny_mono (zone_tail (s₀ := s₀) (m := m) (d := d) (sg := "-") (by decide) h0 h1 r0 r1 T (keepL k₁ mm hL) hL ok (S₄.less (fun y e l => ?_) fun y e l => by cases l)) (fun f s' h => ?_) fun _ _ h => h
    · revert l; revert e; revert y; exact less5 _ _ _ _ _ _
    · obtain ⟨v, q1, q2, q3⟩ := h; exact ⟨v, q1, mm.trans q2, q3⟩
  · have S₃ := S₂.keeps k₃
    have mm : Mv [L] s₁ s₃ := m₂.trans (Mv.of k₃)
    have e : zoneS m ((d.fdiv 48).fmod 3) = (["", "+", if (m != 0) = true then "" else "-"] : List Str).getD ((d.fdiv 48).fmod 3).toNat "" := by unfold zoneS; rw [if_neg (by rw [hc]; decide)]
    have sl := sign_len m _ f3.1 f3.2
    rw [e] at sl ⊢
    exact wpAny_execs_nil (wpAny_mono (zone_tail (s₀ := s₀) (m := m) (d := d) sl h0 h1 r0 r1 T (keepL k₁ mm hL) hL ok S₃) (fun f s' h => by obtain ⟨v, q1, q2, q3⟩ := h; exact ⟨v, q1, mm.trans q2, q3⟩) fun _ _ h => h)
end
end Mine
end
section
open PySem PySem.Spec PySem.Calls PyProof.Rows PySem.W
set_option maxRecDepth 100000
set_option linter.unusedVariables false
namespace Mine
section
variable {prog : Program} {w : World} {A : Around} {E : Value → Shared → Prop} {W : List Addr} {s s₀ : Shared} {env : Env} {σ : Sig} {ρ : Rho} {mg mb : Str → Option Value}
def strOf : Expr → Option Str
  | .Constant (.str x) _ _ => some x
  | _ => none
theorem els_strs {pos : Pos} : ∀ (es : List Expr) (xs : List Str), es.map strOf = xs.map some → Els prog w A W s₀ pos env es (xs.map .str)
  | [], [], _ => els_nil
  | [], x :: xs, h => by cases h
  | e :: es, [], h => by cases h
  | e :: es, x :: xs, h => by
      injection h with h1 h2
      unfold strOf at h1
      split at h1
      · cases h1
        exact els_cons ev_str (els_strs es xs h2)
      · cases h1
set_option maxHeartbeats 400000 in
theorem zone {a : Addr} {v v' : Value} {m d : Int} (lt : Lt 1 A) (T : Tp mg mb s₀.heap) (F : FnAt s₀.heap 11 a) (X : Ex W s₀.heap) (hm : absI m < 30000) (dv : Den (fz W s₀.heap) v (.int m)) (dv' : Den (fz W s₀.heap) v' (.int d)) : Ev prog w A W s₀ (call (.ref a) [v, v']) (.str (zoneT m d)) := by
  refine call_fn (i := 11) (k := 0) (xs := ["minutes", "dress"]) lt F T.lim X (.cons dv (.cons dv' (.nil _))) (fun _ _ _ => rfl) (by decide) rfl (by decide +kernel) (by decide +kernel) fun pm cd doc L s₁ E k₁ hL lt' ok S => ?_
  have T₁ := T.keeps (kGr k₁)
  have f12 := fmod_range (a := d.fdiv 6) (b := 12) (by decide)
  have f4 := fmod_range (a := d.fdiv 6) (b := 4) (by decide)
  have nd : ∀ {p : Pos}, Ev prog w (A.deeper (callEnv (fdAt 11 pm cd doc) L a)) (L :: W) s₁ (eval (.Name "dress" p) (callEnv (fdAt 11 pm cd doc) L a)) (.int d) := fun {p} => ev_name ok.kind S rfl
  refine wpAny_execs_cons (ex_if (tst_eq (ev_mod (ev_div nd ev_int (by decide) (nolong (by decide))) ev_int (by decide)) ev_int) (fun hc s₂ k₂ => ?_) (fun hc s₂ k₂ => ?_))
  · have S₂ := S.keeps k₂
    refine wpAny_execs_cons ?_
    refine ex_ret (W := L :: W) (d := .str (menu12.getD ((d.fdiv 6).fmod 12).toNat "")) ?_ ?_
    · refine ev_itemS menu12 ?_ ?_ f12.1 f12.2 (by decide)
      · exact ev_list S₂.ex (els_strs _ menu12 rfl) (by show 12 ≤ sizeLine; decide)
      · exact ev_mod (ev_div (ev_name ok.kind S₂ rfl) ev_int (by decide) (nolong (by decide))) ev_int (by decide)
    intro v s' k' dv
    refine ⟨v, rfl, (Mv.of k₂).trans (Mv.of k'), ?_⟩
    have e : zoneT m d = menu12.getD ((d.fdiv 6).fmod 12).toNat "" := by unfold zoneT; rw [if_pos hc]
    rw [e]; exact dv
  · refine wpAny_execs_nil ?_
    have S₂ := S.keeps k₂
    have T₂ := T₁.keeps (kGr k₂)
    refine wpAny_execs_cons (ex_if (tst_and2 (tst_eq (ev_mod (ev_name ok.kind S₂ rfl) ev_int (by decide)) ev_int) (fun _ => tst_eq (ev_name ok.kind S₂ rfl) ev_int)) (fun hc' s₃ k₃ => ?_) (fun hc' s₃ k₃ => ?_))
    · have S₃ := S₂.keeps k₃
      refine wpAny_execs_cons (ex_ret (ev_itemS menu4 (ev_list S₃.ex (els_cons ev_str (els_cons ev_str (els_cons ev_str (els_cons ev_str els_nil)))) (by show 4 ≤ sizeLine; decide))
        (ev_mod (ev_div (ev_name ok.kind S₃ rfl) ev_int (by decide) (nolong (by decide))) ev_int (by decide)) f4.1 (by show _ < (4 : Int); exact f4.2) (by decide)) fun v s' k' dv => ⟨v, rfl, (Mv.of k₂).trans ((Mv.of k₃).trans (Mv.of k')), ?_⟩)
      have e : zoneT m d = menu4.getD ((d.fdiv 6).fmod 4).toNat "" := by unfold zoneT; rw [if_neg (by rw [hc]; decide), if_pos hc']
      rw [e]; exact dv
    · refine wpAny_execs_nil ?_
      have S₃ := S₂.keeps k₃
      have T₃ := T₂.keeps (kGr k₃)
      have e : zoneT m d = zoneF (zoneS m ((d.fdiv 48).fmod 3)) (zoneH m (d.fmod 6)) (zoneR m (d.fmod 6)) (d.fmod 6) ((d.fdiv 6).fmod 2) := by unfold zoneT; rw [if_neg (by rw [hc]; decide), if_neg (by rw [hc']; decide)]
      rw [e]
      have a0 : 0 ≤ absI m := by unfold absI; split <;> omega
      have q0 : 0 ≤ (absI m).fdiv 60 ∧ (absI m).fdiv 60 < 501 := by
        rw [Int.fdiv_eq_ediv_of_nonneg _ (by decide)]
        omega
      have q1 := fmod_range (a := absI m) (b := 60) (by decide)
      refine wpAny_execs_cons (Assign_Tuple ((ev_divmod S₃.ex (is_b T₃ T₃.gl rfl) (ev_abs (is_b T₃ T₃.gl rfl) (ev_name ok.kind S₃ rfl)) ev_int (by decide) (nolong (by decide))).nest (kRefl _) fun v s₄ k₄ dv => asg_pair lt'.hd ok rfl rfl (S₃.keeps k₄) rfl rfl dv fun s₅ m₅ S₅ => ?_))
      have mm : Mv [L] s₁ s₅ := (Mv.of k₂).trans ((Mv.of k₃).trans ((Mv.of k₄).trans m₅))
      refine wpAny_execs_cons (ex_if (c := zoneC m (d.fmod 6)) (tst_and3 (tst_eq (ev_mod (ev_name ok.kind S₅ rfl) ev_int (by decide)) ev_int) (fun _ => tst_gt (ev_name ok.kind S₅ rfl) ev_int) (fun _ _ => tst_lt (ev_name ok.kind S₅ rfl) ev_int)) (fun hz s₆ k₆ => ?_) (fun hz s₆ k₆ => ?_))
      · have S₆ := S₅.keeps k₆
        refine wpAny_execs_cons (ex_assign ok S₆ (ev_sub (ev_name ok.kind S₆ rfl) ev_int) (.inl ⟨rfl, rfl⟩) fun s₇ m₇ S₇ => ?_)
        refine wpAny_execs_cons (ex_assign ok S₇ (ev_add (ev_name ok.kind S₇ rfl) ev_int) (.inl ⟨rfl, rfl⟩) fun s₈ m₈ S₈ => wpAny_execs_nil ?_)
        have mm' : Mv [L] s₁ s₈ := mm.trans ((Mv.of k₆).trans (m₇.trans m₈))
        have eh : zoneH m (d.fmod 6) = (absI m).fdiv 60 - 1 := by unfold zoneH; rw [if_pos hz]
        have er : zoneR m (d.fmod 6) = (absI m).fmod 60 + 60 := by unfold zoneR; rw [if_pos hz]
        have hpos : 0 < (absI m).fdiv 60 := by
          unfold zoneC at hz
          simp only [Bool.and_eq_true, decide_eq_true_eq] at hz
          exact hz.1.2
        rw [eh, er]
        refine wpAny_mono (zone_sign (s₀ := s₀) (m := m) (d := d) (h := (absI m).fdiv 60 - 1) (r := (absI m).fmod 60 + 60) (by omega) (by omega) (by omega) (by omega) T (keepL k₁ mm' hL) hL ok (S₈.less (fun y e l => ?_) fun y e l => by cases l)) (fun f s' h => ?_) fun _ _ h => h
        · revert l; revert e; revert y; exact less4 _ _ _ _ _ _
        · obtain ⟨v, q1, q2, q3⟩ := h; exact ⟨v, q1, mm'.trans q2, q3⟩
      · have S₆ := S₅.keeps k₆
        have mm' : Mv [L] s₁ s₆ := mm.trans (Mv.of k₆)
        have eh : zoneH m (d.fmod 6) = (absI m).fdiv 60 := by unfold zoneH; rw [if_neg (by rw [hz]; decide)]
        have er : zoneR m (d.fmod 6) = (absI m).fmod 60 := by unfold zoneR; rw [if_neg (by rw [hz]; decide)]
        rw [eh, er]
        exact wpAny_execs_nil (wpAny_mono (zone_sign (s₀ := s₀) (m := m) (d := d) (h := (absI m).fdiv 60) (r := (absI m).fmod 60) q0.1 (by omega) q1.1 (by omega) T (keepL k₁ mm' hL) hL ok S₆) (fun f s' h => by obtain ⟨v, q1, q2, q3⟩ := h; exact ⟨v, q1, mm'.trans q2, q3⟩) fun _ _ h => h)
end
end Mine
end
section
open PySem PySem.Spec PySem.Calls PyProof.Rows PySem.W
set_option maxRecDepth 100000
set_option linter.unusedVariables false
namespace Mine
section
variable {prog : Program} {w : World} {A : Around} {E : Value → Shared → Prop} {W : List Addr} {s s₀ : Shared} {env : Env} {mg mb : Str → Option Value}
theorem EnvOk.wide {W' : List Addr} (ok : EnvOk env W) (h : ∀ b ∈ W, b ∈ W') : EnvOk env W' := ⟨ok.kind, h _ ok.loc, fun x c l => h c (ok.cell x c l), ok.apart, ok.ne⟩
inductive Sb (σ : Sig) : Sig → Prop
  | nil : Sb σ []
  | cons {x : Str} {d : PyData} {r : Sig} (h : σ.lookup x = some d) (q : Sb σ r) : Sb σ ((x, d) :: r)
theorem Sb.get {σ : Sig} : ∀ {σ' : Sig}, Sb σ σ' → ∀ y d, σ'.lookup y = some d → σ.lookup y = some d
  | _, .nil, y, d, l => by cases l
  | _, .cons (x := x) h q, y, d, l => by
      rw [List.lookup_cons] at l
      cases z : y == x with
      | true => rw [z] at l; rw [eq_of_beq z]; exact h.trans l
      | false => rw [z] at l; exact q.get y d l
theorem St.re {σ σ' : Sig} {ρ : Rho} (x : St env W σ ρ s) (h : Sb σ σ') : St env W σ' ρ s := x.less h.get fun _ _ l => l
theorem rng_length : ∀ (a : Int) (n : Nat), (rng a n).length = n
  | _, 0 => rfl
  | a, n + 1 => congrArg (· + 1) (rng_length (a + 1) n)
/-- a for over one name, as a fold -/
theorem ex_fold {β : Type} {x : Str} {c : Addr} {p pos : Pos} {iter : Expr} {body : List Stmt} {l : List PyData} {Q : Flow → Shared → Prop} (V : List Addr) (g : β → PyData → β) (σ : β → Sig) (ρ : β → Rho) (R : β → List PyData → Prop) (b₀ : β)
    (ok : EnvOk env W) (S : St env W (σ b₀) (ρ b₀) s) (hsrc : Src prog w A W s (eval iter env) (.Name x p) l) (hV : ∀ b ∈ V, b ∈ W) (hk : Sto env x c) (hc : c ∈ V) (hρ : ∀ b y a ds, (ρ b).lookup y = some (a, ds) → a ∈ W) (hx : ∀ b, (ρ b).lookup x = none) (R₀ : R b₀ l)
    (turn : ∀ W' b d l' s₁ (E' : Value → Shared → Prop), (∀ a ∈ W, a ∈ W') → (∀ s₀, Keeps s₀ s → (∀ b ∈ V, s₀.heap.get? b = none) → Keeps s₀ s₁) → EnvOk env W' → R b (d :: l') → St env W' ((x, d) :: σ b) (ρ b) s₁ →
      wpAny (model prog w) A (execs body env) (fun f s₃ => f = .next ∧ Mv V s₁ s₃ ∧ R (g b d) l' ∧ St env W' (σ (g b d)) (ρ (g b d)) s₃) E' s₁)
    (fin : ∀ s₂, Mv V s s₂ → R (l.foldl g b₀) [] → St env W (σ (l.foldl g b₀)) (ρ (l.foldl g b₀)) s₂ → Q .next s₂) (hf : ∀ x, foldedSetIterable iter env x = pure x := by intro _; rfl) : wpAny (model prog w) A (exec (.For (.Name x p) iter body [] pos) env) Q E s := by
  have hcW : ∀ {own : List Addr}, (∀ b ∈ own, b ∉ W) → ∀ b ∈ W, b ∉ own := fun h b m q => h b q m
  refine ex_for V (fun own l' s₂ => (∀ b ∈ own, s.heap.get? b = none) ∧ Mv (own ++ V) s s₂ ∧ ∃ b, l'.foldl g b = l.foldl g b₀ ∧ R b l' ∧ St env (own ++ W) (σ b) (ρ b) s₂) hsrc hV S.ex ?_ ?_ ?_ ?_ hf
  · intro own s₂ k hn hx
    refine ⟨hn, .of k, b₀, rfl, R₀, ?_⟩
    refine S.lift (V := []) (.of k) (fun b m => by cases m) (fun b m => ?_) (fun b m => ?_) fun b m => List.mem_append_right _ m
    · rcases List.mem_append.mp m with q | q
      · exact .inr (hn b q)
      · exact .inl q
    · rcases List.mem_append.mp m with q | q
      · exact hx b q
      · exact (S.ex.mono (kGr k)) b q
  · rintro own l' s₁ s₂ hd ⟨hn, mv, b, e, r, S₁⟩ m
    refine ⟨hn, mv.trans (m.wide fun b m => List.mem_append_left _ m), b, e, r, S₁.but m (fun b m => List.mem_append_left _ m) (hcW hd _ ok.loc) (fun y c l => hcW hd _ (ok.cell y c l)) fun y a ds l => hcW hd _ (hρ b y a ds l)⟩
  · rintro own d l' v s₁ E' hd ⟨hn, mv, b, e, r, S₁⟩ dv
    have sub : ∀ a ∈ W, a ∈ own ++ W := fun a m => List.mem_append_right _ m
    have ok' := ok.wide sub
    refine wpAny_assign_Name (store_any ok' S₁ hk dv (hx b) fun s₂ m₂ S₂ => ?_)
    have mv' : ∀ s₀, Keeps s₀ s → (∀ b ∈ V, s₀.heap.get? b = none) → Keeps s₀ s₂ := fun s₀ k hv => by
      have : Mx (own ++ V) s₀ s₂ := (Mx.of (Mv.of k)).trans (Mx.of (mv.trans (m₂.wide fun b m => by rw [List.mem_singleton] at m; rw [m]; exact List.mem_append_right _ hc)))
      refine this.toKeeps fun b m => ?_
      rcases List.mem_append.mp m with q | q
      · exact isNone_of_gr (kGr k) (hn b q)
      · exact hv b q
    refine wpAny_mono (turn (own ++ W) b d l' s₂ E' sub mv' ok' r S₂) (fun f s₃ h => ?_) fun _ _ h => h
    obtain ⟨h1, h2, h3, h4⟩ := h
    have m3 : Mv V s₁ s₃ := (m₂.wide fun b m => by rw [List.mem_singleton] at m; rw [m]; exact hc).trans h2
    exact ⟨h1, m3, hn, mv.trans (m3.wide fun b m => List.mem_append_right _ m), g b d, e, h3, h4⟩
  · rintro own s₁ s₂ hd ⟨hn, mv, b, e, r, S₁⟩ mx
    have e' : b = l.foldl g b₀ := e
    subst e'
    refine fin s₂ ?_ r (S₁.endOwn mx hd ok.loc ok.cell (hρ _))
    refine Mx.toMv (V := own ++ V) (((Mx.of mv)).trans (mx.wide fun b m => List.mem_append_left _ m)) (fun b m => ?_) fun b m _ => ?_
    · rcases List.mem_append.mp m with q | q
      · exact .inr (hn b q)
      · exact .inl q
    · obtain ⟨o, q⟩ := (S₁.ex) b (List.mem_append_right _ (hV b m))
      exact ⟨o, mx.at (hcW hd _ (hV b m)) q⟩
end
end Mine
end
section
open PySem PySem.Spec PySem.Calls PyProof.Rows PySem.W
set_option maxRecDepth 100000
set_option linter.unusedVariables false
namespace Mine
section
variable {prog : Program} {w : World} {A : Around} {E : Value → Shared → Prop} {W : List Addr} {s s₀ : Shared} {env : Env} {mg mb : Str → Option Value}
theorem mulok {a b : Int} {m n : Nat} (ha : Builtin.Int.intBits a ≤ m) (hb : Builtin.Int.intBits b ≤ n) (h : m + n ≤ 134217728) : IntMulOk a b := mulOk_of_bits ha hb h
def toI : PyData → Int
  | .int n => n
  | _ => 0
def chStep (many : Int) (b : Int) (d : PyData) : Int := (b * (many - toI d)).fdiv (toI d + 1)
def chooseF (many : Int) (few : Nat) : Int := (rng 0 few).foldl (chStep many) 1
theorem choose {a : Addr} {v v' : Value} {m n : Int} (lt : Lt 1 A) (T : Tp mg mb s₀.heap) (F : FnAt s₀.heap 13 a) (X : Ex W s₀.heap) (hm : m.natAbs < 1000) (hn : 0 ≤ n) (hn' : n ≤ 100) (dv : Den (fz W s₀.heap) v (.int m)) (dv' : Den (fz W s₀.heap) v' (.int n)) : Ev prog w A W s₀ (call (.ref a) [v, v']) (.int (chooseF m n.toNat)) := by
  refine call_fn (i := 13) (k := 0) (xs := ["many", "few"]) lt F T.lim X (.cons dv (.cons dv' (.nil _))) (fun _ _ _ => rfl) (by decide) rfl (by decide +kernel) (by decide +kernel) fun pm cd doc L s₁ E k₁ hL lt' ok S => ?_
  have T₁ := T.keeps (kGr k₁)
  refine wpAny_execs_cons (ex_assign ok S ev_int (.inl ⟨rfl, rfl⟩) fun s₂ m₂ S₂ => ?_)
  have K₂ := keepL k₁ m₂ hL
  have T₂ := T.keeps (kGr K₂)
  refine wpAny_execs_cons ?_
  refine ex_fold (W := L :: W) (c := L) [L] (chStep m) (fun b => [("ways", .int b), ("many", .int m), ("few", .int n)]) (fun _ => []) (fun b l' => Builtin.Int.intBits b + 64 * l'.length ≤ 10000 ∧ ∃ p k, l' = rng p k ∧ 0 ≤ p ∧ p + k ≤ 100) 1 ok S₂ (src_range1 lt'.hd (is_b T₂ T₂.gl rfl) (ev_name ok.kind S₂ rfl) (by omega) (by omega)) (fun b m => by rw [List.mem_singleton] at m; rw [m]; exact .head _) (.inl ⟨rfl, rfl⟩) (.head _) (fun _ _ _ _ l => by cases l) (fun _ => rfl) ?_ ?_ ?_
  · refine ⟨?_, 0, n.toNat, rfl, by decide, by omega⟩
    rw [rng_length]
    have : Builtin.Int.intBits 1 = 1 := by decide
    rw [this]
    omega
  · rintro W' b d l' s₃ E' sub mv ok' ⟨hb, p, k, e, p0, pk⟩ S₃
    match k, e with
    | k + 1, e =>
      injection e with e1 e2
      subst e1; subst e2
      rw [List.length_cons] at hb
      have bits : Builtin.Int.intBits (m - p) ≤ 64 := PyProof.Rows.intBits_le (by omega)
      refine wpAny_execs_cons (ex_assign ok' S₃ (ev_div (ev_mul (ev_name ok'.kind S₃ rfl) (ev_sub (ev_name ok'.kind S₃ rfl) (ev_name ok'.kind S₃ rfl)) (mulok (m := 10000) (n := 64) (by omega) bits (by decide))) (ev_add (ev_name ok'.kind S₃ rfl) ev_int) (by omega) (nolong (by omega))) (.inl ⟨rfl, rfl⟩) fun s₄ m₄ S₄ => wpAny_execs_nil ⟨rfl, m₄, ?_, ?_⟩)
      · refine ⟨?_, p + 1, k, rfl, by omega, by omega⟩
        have : Builtin.Int.intBits (chStep m b (.int p)) ≤ Builtin.Int.intBits b + 64 := bits_fdiv (bits_mul (Nat.le_refl _) bits)
        omega
      · exact S₄.re (.cons rfl (.cons rfl (.cons rfl .nil)))
  · intro s₃ m₃ _ S₃
    refine wpAny_execs_cons (ex_ret (ev_name ok.kind S₃ rfl) fun v s' k' dv => ?_)
    exact ⟨v, rfl, m₂.trans (m₃.trans (Mv.of k')), dv⟩
end
end Mine
end
section
open PySem PySem.Spec PySem.Calls PyProof.Rows PySem.W
set_option maxRecDepth 100000
set_option linter.unusedVariables false
namespace Mine
section
variable {prog : Program} {w : World} {A : Around} {E : Value → Shared → Prop} {W : List Addr} {s s₀ : Shared} {env : Env} {mg mb : Str → Option Value}
def cellsC (i : Nat) (L : Addr) : List (Str × Addr) := cellsFrom (L + 1) (scopeOf (defAt i)).names []
def ownC (i : Nat) (L : Addr) : List Addr := L :: (cellsC i L).filterMap fun p => (cellsC i L).lookup p.1
theorem ownC_cell {i : Nat} {L : Addr} {x : Str} {c : Addr} (h : (cellsC i L).lookup x = some c) : c ∈ ownC i L := .tail _ (List.mem_filterMap.mpr ⟨(x, c), mem_of_lookup h, h⟩)
theorem ownC_inv {i : Nat} {L c : Addr} (h : c ∈ ownC i L) : c = L ∨ ∃ x, (cellsC i L).lookup x = some c := by
  rcases List.mem_cons.mp h with e | m
  · exact .inl e
  · obtain ⟨p, _, e⟩ := List.mem_filterMap.mp m
    exact .inr ⟨p.1, e⟩
/-- a def of one parameter, with cells -/
theorem call_fnC {i : Nat} {a : Addr} {x : Str} {v : Value} {d₀ d : PyData} {k : Nat} (lt : Lt (k + 1) A) (F : FnAt s₀.heap i a) (hlim : s₀.heap.NoLimit) (X : Ex W s₀.heap) (dn : Den (fz W s₀.heap) v d₀)
    (hbind : ∀ pm cd doc, bindArgs (fdAt i pm cd doc) ⟨[v], []⟩ = pure [(x, v)]) (hloc : (scopeOf (defAt i)).names.lookup x = some .local)
    (hb : ∀ pm cd doc L s₁ E, Keeps s₀ s₁ → (∀ b ∈ ownC i L, s₀.heap.get? b = none) → Lt k (A.deeper (callEnvC (fdAt i pm cd doc) L a)) → EnvOk (callEnvC (fdAt i pm cd doc) L a) (ownC i L ++ W) → St (callEnvC (fdAt i pm cd doc) L a) (ownC i L ++ W) [(x, d₀)] [] s₁ →
      wpAny (model prog w) (A.deeper (callEnvC (fdAt i pm cd doc) L a)) (execs (bodyOf (defAt i)) (callEnvC (fdAt i pm cd doc) L a)) (fun f s' => ∃ v, f = .ret v ∧ Mv (ownC i L) s₁ s' ∧ Den (fz (ownC i L ++ W) s'.heap) v d) E s₁)
    (hco : (scopeOf (defAt i)).isCoroutine = false := by rfl) (hgen : (scopeOf (defAt i)).isGenerator = false := by rfl) (hk : (scopeOf (defAt i)).kind = .function := by rfl) :
    Ev prog w A W s₀ (call (.ref a) [v]) d := .mk fun E s k₀ => by
  obtain ⟨o, pm, cd, doc, ho, hd, hcd⟩ := F.keeps (kGr k₀)
  refine wpAny_call (codeAny_call_cells (fd := fdAt i pm cd doc) (by have := lt.dp; omega) ho hd (hlim.keeps (kGr k₀)) hcd rfl (hbind pm cd doc) rfl (fun y hy => .inl ?_) (fun s₁ I => ?_) hco hgen hk)
  · rw [List.mem_singleton] at hy; rw [hy]; exact hloc
  · obtain ⟨h₁, tk, rfl, hk₀⟩ := I.done
    have X' : Ex W s.heap := X.mono (kGr k₀)
    have k₁ : Keeps s { s with heap := h₁, toks := tk } := ⟨_, _, rfl, hk₀⟩
    have fresh : ∀ b ∈ ownC i s.heap.objs.size, s.heap.get? b = none := fun b m => by
      rcases ownC_inv m with rfl | ⟨n, l⟩
      · exact new_size _
      · exact new_above _ (Nat.le_of_lt (I.above n b (mem_of_lookup l)))
    have ex₁ : Ex (ownC i s.heap.objs.size ++ W) h₁ := fun b m => by
      rcases List.mem_append.mp m with m | m
      · rcases ownC_inv m with rfl | ⟨n, l⟩
        · obtain ⟨o, _, _, e, _⟩ := I.toInCall.ns; exact ⟨o, e⟩
        · obtain ⟨o, e, _⟩ := I.cell n b l; exact ⟨o, e⟩
      · exact X'.mono hk₀ b m
    refine wpAny_mono (hb pm cd doc s.heap.objs.size _ _ (kTrans k₀ k₁) (fun b m => isNone_of_gr (kGr k₀) (fresh b m)) (lt.deeper _)
      ⟨hk, .head _, fun y c l => List.mem_append_left _ (ownC_cell l), fun y z c l l' => name_of_addr I.apart (mem_of_lookup l) (mem_of_lookup l'), fun y c l => Nat.ne_of_gt (I.above y c (mem_of_lookup l))⟩
      ⟨_, I.toInCall.ns, fun y c l => ⟨_, I.cell y c l⟩, ex₁, fun y e l => ?_, fun y a ds l => by cases l⟩) (fun f s' h => ?_) (fun e s' h => h)
    · rw [List.lookup_cons] at l
      cases z : y == x with
      | false => rw [z] at l; cases l
      | true =>
        rw [z] at l; cases l
        obtain rfl := eq_of_beq z
        refine ⟨v, .inl ⟨hloc, ?_⟩, dn.mono (fz_more (fun b m => ?_) fun b o _ e => hk₀ b o (kGr k₀ b o e))⟩
        · have hl : (callEnvC (fdAt i pm cd doc) s.heap.objs.size a).kindOf y = some .local := hloc
          unfold bindL bindL
          rw [if_pos hl]
          simp
        · rcases List.mem_append.mp m with m | m
          · exact .inr (isNone_of_gr (kGr k₀) (fresh b m))
          · exact .inl m
    · obtain ⟨v, rfl, mv, dv⟩ := h
      refine ⟨?_, dv.mono (fz_less _ fun b m => List.mem_append_right _ m)⟩
      have : Mx (ownC i s.heap.objs.size) s s' := (Mx.of (Mv.of k₁)).trans (Mx.of mv)
      exact this.toKeeps fresh
theorem keepC {own : List Addr} {s₁ s' : Shared} (k : Keeps s₀ s₁) (m : Mv own s₁ s') (h : ∀ b ∈ own, s₀.heap.get? b = none) : Keeps s₀ s' :=
  ((Mx.of (Mv.of k)).trans (Mx.of m)).toKeeps h
theorem Tp.glC {h : Heap} (x : Tp mg mb h) {i : Nat} {pm cd doc : Value} {L a : Addr} (hk : (scopeOf (defAt i)).kind = .function := by rfl) : Gl (callEnvC (fdAt i pm cd doc) L a) mg mb h := ⟨hk, x.g, x.b⟩
end
end Mine
end
section
open PySem PySem.Spec PySem.Calls PyProof.Rows PySem.W
set_option maxRecDepth 100000
set_option linter.unusedVariables false
namespace Mine
theorem pick_runD (l : List PyData) : ∀ (n a : Nat), ((List.range n).map fun k => a + k).filterMap (l[·]?) = (l.drop a).take n := by
  intro n
  induction n with
  | zero => intro a; simp
  | succ n ih =>
    intro a
    rw [List.range_succ, List.map_append, List.filterMap_append, ih a, List.take_add_one]
    congr 1
    simp
    cases h : l[a + n]? <;> simp [h]
theorem pick_nat {l : List PyData} {lo hi : Option Int} {a b : Nat} (e : sliceBounds lo hi none l.length = ((a : Int), (b : Int), 1)) : pick l lo hi none = (l.drop a).take (b - a) := by
  unfold pick
  rw [e]
  simp only [sliceRange_one]
  exact pick_runD l _ a
theorem pick_upto {l : List PyData} {y : Int} (h : 0 ≤ y) : pick l none (some y) none = l.take y.toNat := by
  have e : sliceBounds none (some y) none l.length = (((0 : Nat) : Int), ((min y.toNat l.length : Nat) : Int), 1) := by
    simp only [sliceBounds, Option.getD_none, show (1 : Int) > 0 by decide, if_true, if_neg (show ¬ (y < 0) by omega)]
    congr 1
    congr 1
    omega
  rw [pick_nat e, List.drop_zero, Nat.sub_zero]
  by_cases h : y.toNat ≤ l.length
  · rw [Nat.min_eq_left h]
  · rw [Nat.min_eq_right (by omega), List.take_of_length_le (Nat.le_refl _), List.take_of_length_le (by omega)]
theorem pick_from {l : List PyData} {x : Int} (h : 0 ≤ x) : pick l (some x) none none = l.drop x.toNat := by
  have e : sliceBounds (some x) none none l.length = (((min x.toNat l.length : Nat) : Int), ((l.length : Nat) : Int), 1) := by
    simp only [sliceBounds, Option.getD_none, show (1 : Int) > 0 by decide, if_true, if_neg (show ¬ (x < 0) by omega)]
    congr 1
    omega
  rw [pick_nat e, List.take_of_length_le (by simp)]
  by_cases h : x.toNat ≤ l.length
  · rw [Nat.min_eq_left h]
  · rw [Nat.min_eq_right (by omega), List.drop_of_length_le (Nat.le_refl _), List.drop_of_length_le (by omega)]
end Mine
end
section
open PySem PySem.Spec PySem.Calls PyProof.Rows PySem.W
set_option maxRecDepth 100000
set_option linter.unusedVariables false
namespace Mine
section
variable {prog : Program} {w : World} {A : Around} {E : Value → Shared → Prop} {W : List Addr} {s s₀ : Shared} {env : Env} {σ σf : Sig} {ρ : Rho} {scope : Scope} {cl : List (Str × Addr)} {mg mb : Str → Option Value}
inductive Fs (env : Env) (scope : Scope) (cl : List (Str × Addr)) (σ : Sig) : Sig → Prop
  | nil : Fs env scope cl σ []
  | cons {x : Str} {d : PyData} {r : Sig} (h : σ.lookup x = some d) (k : env.kindOf x = some .cell ∨ env.kindOf x = some .free) (k' : (relabel scope env).names.lookup x = some .cell ∨ (relabel scope env).names.lookup x = some .free) (c : cl.lookup x = env.cells.lookup x) (q : Fs env scope cl σ r) : Fs env scope cl σ ((x, d) :: r)
theorem Fs.get : ∀ {σf : Sig}, Fs env scope cl σ σf → ∀ x d, σf.lookup x = some d → σ.lookup x = some d ∧ (env.kindOf x = some .cell ∨ env.kindOf x = some .free) ∧ ((relabel scope env).names.lookup x = some .cell ∨ (relabel scope env).names.lookup x = some .free) ∧ cl.lookup x = env.cells.lookup x
  | _, .nil, y, d, l => by cases l
  | _, .cons (x := x) h k k' c q, y, d, l => by
      rw [List.lookup_cons] at l
      cases z : y == x with
      | true => rw [z] at l; cases l; rw [eq_of_beq z]; exact ⟨h, k, k', c⟩
      | false => rw [z] at l; exact q.get y d l
/-- a list comprehension's value, bound to a name -/
theorem ex_lc {elt tg iter : Expr} {ifs : List Expr} {rest : List Comprehension} {y : Str} {py pos spos : Pos} {Q : Flow → Shared → Prop} 
    (h : ∀ pos', wpAny (model prog w) A (comprehension (.ListComp elt (⟨tg, iter, ifs, 0⟩ :: rest) scope pos) scope env pos' (newList []) false (eval iter env) (some (assign (.Name y py) env))) (fun _ s' => Q .next s') E s)
    (hsw : swapsWith (.ListComp elt (⟨tg, iter, ifs, 0⟩ :: rest) scope pos) (some (.Name y py)) spos.line env = pure true := by rfl) :
    wpAny (model prog w) A (exec (.Assign [.Name y py] (.ListComp elt (⟨tg, iter, ifs, 0⟩ :: rest) scope pos) spos) env) Q E s := by
  rw [exec_Assign_Name_used _ _ _ _ hsw]
  refine wpAny_bind (wpAny_standAt (wpAny_bind ?_))
  show wpAny _ A (do let _ ← comprehension (.ListComp elt (⟨tg, iter, ifs, 0⟩ :: rest) scope pos) scope env _ (newList []) false (eval iter env) (some (assign (.Name y py) env))) _ _ s
  exact wpAny_bind (wpAny_mono (h _) (fun _ s' hq => wpAny_pure (wpAny_pure hq)) fun _ _ e => e)
/-- .. or as a value -/
theorem ev_lc {elt tg iter : Expr} {ifs : List Expr} {rest : List Comprehension} {pos : Pos} {out : List PyData} (X : Ex W s₀.heap)
    (h : ∀ pos' E s (Q : Value → Shared → Prop), Keeps s₀ s → Filled prog w A E W s none Q out → wpAny (model prog w) A (comprehension (.ListComp elt (⟨tg, iter, ifs, 0⟩ :: rest) scope pos) scope env pos' (newList []) false (eval iter env) none) Q E s) :
    Ev prog w A W s₀ (eval (.ListComp elt (⟨tg, iter, ifs, 0⟩ :: rest) scope pos) env) (.list out) := .mk fun E s k => by
  rw [eval_ListComp]
  exact h _ E s _ k (filled_none (X.mono (kGr k)) fun D s' k' _ d => ⟨k', d⟩)
theorem gl_comp {h : Heap} {C : Addr} (g : Gl env mg mb h) (hk : scope.kind = .function) : Gl (compEnvC scope cl C env) mg mb h := ⟨hk, g.2, g.3⟩
end
end Mine
end
section
open PySem PySem.Spec PySem.Calls PyProof.Rows PySem.W
set_option maxRecDepth 100000
set_option linter.unusedVariables false
namespace Mine
def rowOf : PyData → List PyData
  | .list l => l
  | _ => []
def ins (r d p : PyData) : PyData := .list (((rowOf r).take (toI p).toNat ++ [d]) ++ (rowOf r).drop (toI p).toNat)
def ordStep (rows : List PyData) (d : PyData) : List PyData := rows.flatMap fun r => ((rng 0 (toI d + 1).toNat).filter fun _ => true).map (ins r d)
def ordersF (n : Nat) : List PyData := (rng 0 n).foldl ordStep [.list []]
theorem rng_mem : ∀ {a : Int} {n : Nat} {d : PyData}, d ∈ rng a n → ∃ p, d = .int p ∧ a ≤ p ∧ p < a + n
  | a, 0, d, m => by cases m
  | a, n + 1, d, m => by
    rcases List.mem_cons.mp m with rfl | m
    · exact ⟨a, rfl, Int.le_refl _, by omega⟩
    · obtain ⟨p, e, h1, h2⟩ := rng_mem m
      exact ⟨p, e, by omega, by omega⟩
structure OrdR (rows : List PyData) (c : Int) : Prop where
  c0 : 0 ≤ c
  len : rows.length ≤ 6 ^ c.toNat
  row : ∀ r ∈ rows, ∃ l, r = .list l ∧ l.length = c.toNat
theorem OrdR.step {rows : List PyData} {c : Int} (x : OrdR rows c) (h : c ≤ 5) : OrdR (ordStep rows (.int c)) (c + 1) := by
  have c0 := x.c0
  have e1 : (c + 1).toNat = c.toNat + 1 := by omega
  refine ⟨by omega, ?_, fun r m => ?_⟩
  · have : ∀ rs : List PyData, (ordStep rs (.int c)).length = rs.length * (c.toNat + 1) := by
      intro rs
      induction rs with
      | nil => simp [ordStep]
      | cons r rs ih =>
        unfold ordStep at ih ⊢
        rw [List.flatMap_cons, List.length_append, ih, List.length_map, List.filter_eq_self.mpr (by simp), rng_length, List.length_cons, Nat.add_mul]
        show (c + 1).toNat + _ = _
        omega
    rw [this, e1, Nat.pow_succ]
    exact Nat.mul_le_mul x.len (by omega)
  · unfold ordStep at m
    obtain ⟨r', m', q⟩ := List.mem_flatMap.mp m
    obtain ⟨p, mp, rfl⟩ := List.mem_map.mp q
    obtain ⟨l, rfl, hl⟩ := x.row r' m'
    obtain ⟨p, rfl, p0, p1⟩ := rng_mem (List.mem_filter.mp mp).1
    have p1 : p < 0 + ((c + 1).toNat : Int) := p1
    refine ⟨_, rfl, ?_⟩
    simp only [rowOf, toI, List.length_append, List.length_take, List.length_drop, List.length_singleton, hl]
    omega
section
variable {prog : Program} {w : World} {A : Around} {E : Value → Shared → Prop} {W : List Addr} {s s₀ : Shared} {env : Env} {mg mb : Str → Option Value}
theorem orders {a : Addr} {v : Value} {n : Int} (lt : Lt 1 A) (T : Tp mg mb s₀.heap) (F : FnAt s₀.heap 12 a) (X : Ex W s₀.heap) (hn : 0 ≤ n) (hn' : n ≤ 5) (dv : Den (fz W s₀.heap) v (.int n)) : Ev prog w A W s₀ (call (.ref a) [v]) (.list (ordersF n.toNat)) := by
  refine call_fnC (i := 12) (k := 0) (x := "many") lt F T.lim X dv (fun _ _ _ => rfl) (by decide +kernel) fun pm cd doc L s₁ E k₁ hL lt' ok S => ?_
  have T₁ := T.keeps (kGr k₁)
  have LW : L ∈ ownC 12 L := .head _
  have CW : L + 1 ∈ ownC 12 L := ownC_cell (x := "clock") rfl
  refine wpAny_execs_cons (ex_assign (a := L) ok S (ev_list S.ex (els_cons (ev_list S.ex els_nil) els_nil)) (.inl ⟨rfl, rfl⟩) fun s₂ m₂ S₂ => ?_)
  have K₂ := keepC k₁ (m₂.wide fun b m => by rw [mem1 m]; exact LW) hL
  have T₂ := T.keeps (kGr K₂)
  refine wpAny_execs_cons ?_
  refine ex_fold (W := ownC 12 L ++ W) (c := L + 1) (ownC 12 L) ordStep (fun b => [("rows", .list b), ("many", .int n)]) (fun _ => []) (fun b l' => ∃ c k, l' = rng c k ∧ c + k ≤ 5 ∧ OrdR b c) [.list []] ok S₂ (src_range1 lt'.hd (is_b T₂ T₂.glC rfl) (ev_name ok.kind S₂ rfl) (by omega) (by omega)) (fun b m => List.mem_append_left _ m) (.inr ⟨rfl, rfl⟩) CW (fun _ _ _ _ l => by cases l) (fun _ => rfl) ?_ ?_ ?_
  · refine ⟨0, n.toNat, rfl, by omega, by decide, by decide, fun r m => ⟨[], List.mem_singleton.mp m, rfl⟩⟩
  · rintro W' b d l' s₃ E' sub mv ok' ⟨c, k, e, ck, R⟩ S₃
    match k, e with
    | k + 1, e =>
      injection e with e1 e2
      subst e1; subst e2
      have c0 := R.c0
      have K₃ : Keeps s₀ s₃ := mv s₀ K₂ hL
      have T₃ := T.keeps (kGr K₃)
      refine wpAny_execs_cons (ex_lc fun pos' => ?_)
      refine comp2 (cl := [("clock", L + 1)]) (σf := [("clock", .int c)]) ok' S₃ ⟨rfl, rfl, by decide +kernel, ?_, (Fs.cons rfl (.inl rfl) (.inl rfl) rfl .nil).get⟩ (by decide +kernel) (src_list lt'.hd (ev_name ok'.kind S₃ rfl)) (fun _ => rng 0 (c + 1).toNat) ?_ (fun r => [("row", r)]) (fun r p => [("place", p)]) (fun _ _ => true) (fun r p => ins r (.int c) p) ?_ ?_ ?_ ?_ ?_ ?_ ?_ ?_
      · intro x z l
        exact l
      · show (List.map (fun _ => (rng 0 (c + 1).toNat).length) b).sum ≤ sizeLine
        have e : ∀ rs : List PyData, (List.map (fun _ => (rng 0 (c + 1).toNat).length) rs).sum = rs.length * (c + 1).toNat := by
          intro rs
          induction rs with
          | nil => simp
          | cons r rs ih => rw [List.map_cons, List.sum_cons, ih, rng_length, List.length_cons, Nat.add_mul]; omega
        rw [e]
        have h1 : b.length * (c + 1).toNat ≤ 6 ^ c.toNat * 6 := Nat.mul_le_mul R.len (by omega)
        have h2 : 6 ^ c.toNat ≤ 6 ^ 4 := Nat.pow_le_pow_right (by decide) (by omega)
        have h3 : (6 ^ 4 * 6 : Nat) ≤ sizeLine := by decide
        exact Nat.le_trans h1 (Nat.le_trans (Nat.mul_le_mul_right 6 h2) h3)
      · intro C W'' s₄ v r Q E'' hr okc Sc dv h
        exact asg_name okc rfl Sc dv h
      · intro r hr; exact (Sb.cons rfl .nil).get
      · intro C W'' r s₄ hr k₄ okc Sc
        have T₄ := T₃.keeps (kGr k₄)
        exact src_range1 lt'.hd (is_b T₄ (gl_comp T₄.glC rfl) rfl) (ev_add (ev_name okc.kind Sc rfl) ev_int) (by omega) (by omega)
      · intro C W'' s₄ v r p Q E'' hr hp okc Sc dv h
        exact asg_name okc rfl Sc dv h
      · intro r hr p hp; exact (Sb.cons rfl (.cons rfl .nil)).get
      · intro C W'' r p s₄ hr hp k₄ okc Sc
        exact tests_nil
      · intro C W'' r p s₄ hr hp _ k₄ okc Sc
        obtain ⟨l, rfl, hl⟩ := R.row r hr
        obtain ⟨p, rfl, p0, p1⟩ := rng_mem hp
        have big : (100 : Nat) ≤ sizeLine := by decide
        have e : ins (.list l) (.int c) (.int p) = .list ((pick l none (some p) none ++ [.int c]) ++ pick l (some p) none none) := by
          rw [pick_upto p0, pick_from p0]; rfl
        rw [e]
        refine ev_addL Sc.ex (ev_addL Sc.ex (ev_slice Sc.ex (ev_name okc.kind Sc rfl) pt_none (pt_some (ev_name okc.kind Sc rfl)) pt_none (by decide) (by omega)) (ev_list Sc.ex (els_cons (ev_name okc.kind Sc rfl) els_nil) (by show 1 ≤ sizeLine; decide)) ?_) (ev_slice Sc.ex (ev_name okc.kind Sc rfl) (pt_some (ev_name okc.kind Sc rfl)) pt_none pt_none (by decide) (by omega)) ?_
        · rw [pick_upto p0, List.length_take]; simp; omega
        · rw [pick_upto p0, pick_from p0, List.length_append, List.length_take, List.length_drop]; simp; omega
      · refine filled_assign (a := L) ok' S₃ (.inl ⟨rfl, rfl⟩) rfl fun s₅ m₅ S₅ => wpAny_execs_nil ⟨rfl, m₅.wide (fun b m => by rw [mem1 m]; exact LW), ⟨c + 1, k, rfl, by omega, R.step (by omega)⟩, S₅.re (.cons rfl (.cons rfl .nil))⟩
  · intro s₃ m₃ _ S₃
    refine wpAny_execs_cons (ex_ret (ev_name ok.kind S₃ rfl) fun v s' k' dv => ?_)
    exact ⟨v, rfl, (m₂.wide fun b m => by rw [mem1 m]; exact LW).trans (m₃.trans (Mv.of k')), dv⟩
end
end Mine
end
section
open PySem PySem.Spec PySem.Calls PyProof.Rows PySem.W
set_option maxRecDepth 100000
namespace Mine
theorem slot_search : Slot "re.Pattern" "search" "re.Pattern.search" :=
  .of (owner := "re.Pattern") (n := "search") (by rw [typeLookup_type, builtinLookup_eq_fast]; kernel_rfl) (by decide +kernel) (by decide +kernel) (by decide +kernel)
    (by first | exact .inl (by decide +kernel) | exact .inr (by decide +kernel)) (by rw [isSubtype_type]; kernel_rfl)
theorem type_search : typeOf (.builtin "re.Pattern.search") = pure (.type "method_descriptor") := by show builtinType _ = _; rw [builtinType_eq_fast]; kernel_rfl
theorem entry_search : entryFor table "re.Pattern.search" = some Builtin.«re.Pattern.search» := entryFor_of_tree (by kernel_rfl)
theorem slot_group : Slot "re.Match" "group" "re.Match.group" :=
  .of (owner := "re.Match") (n := "group") (by rw [typeLookup_type, builtinLookup_eq_fast]; kernel_rfl) (by decide +kernel) (by decide +kernel) (by decide +kernel)
    (by first | exact .inl (by decide +kernel) | exact .inr (by decide +kernel)) (by rw [isSubtype_type]; kernel_rfl)
theorem type_group : typeOf (.builtin "re.Match.group") = pure (.type "method_descriptor") := by show builtinType _ = _; rw [builtinType_eq_fast]; kernel_rfl
theorem entry_group : entryFor table "re.Match.group" = some Builtin.«re.Match.group» := entryFor_of_tree (by kernel_rfl)

open PySem.Builtin.Re
theorem owner_pat : Manifest.owners.lookup (String.ofList ['n', 'r', 'e', 't', 't', 'a', 'P', '.', 'e', 'r'].reverse) = some ((Manifest.owners.lookup "re.Pattern").getD []) := by kernel_rfl
theorem args_search (a b : Value) : argsOk "re.Pattern.search" ⟨[a, b], []⟩ := by
  unfold argsOk; rw [signature?_of (id := "re.Pattern.search") (n := ['h', 'c', 'r', 'a', 'e', 's']) (o := ['n', 'r', 'e', 't', 't', 'a', 'P', '.', 'e', 'r']) (by kernel_rfl) owner_pat]; kernel_rfl
theorem owner_mat : Manifest.owners.lookup (String.ofList ['h', 'c', 't', 'a', 'M', '.', 'e', 'r'].reverse) = some ((Manifest.owners.lookup "re.Match").getD []) := by kernel_rfl
theorem args_group (a b : Value) : argsOk "re.Match.group" ⟨[a, b], []⟩ := by
  unfold argsOk; rw [signature?_of (id := "re.Match.group") (n := ['p', 'u', 'o', 'r', 'g']) (o := ['h', 'c', 't', 'a', 'M', '.', 'e', 'r']) (by kernel_rfl) owner_mat]; kernel_rfl
def rxEnd : Nat → Sre.M → Option Sre.M
  | 0, _ => none
  | n + 1, m => if (m.runFor reTurnSteps).outcome.isSome then some (m.runFor reTurnSteps) else rxEnd n (m.runFor reTurnSteps)
section
variable {M : Model} {prog : Program} {w : World} {A : Around} {E : Value → Shared → Prop} {W : List Addr} {s s₀ : Shared}
theorem wp_drive : ∀ (n N : Nat) (m r : Sre.M) {Q : Sre.M → Shared → Prop}, rxEnd n m = some r → n ≤ N → Q r s → wpAny M A (reDrive N m) Q E s
  | 0, N, m, r, Q, h, _, _ => by cases h
  | n + 1, 0, m, r, Q, h, l, _ => by omega
  | n + 1, N + 1, m, r, Q, h, l, q => by
    unfold rxEnd at h
    unfold reDrive
    show wpAny M A (if (m.runFor reTurnSteps).outcome.isSome = true then pure (m.runFor reTurnSteps) else (rule "sre.turn" >>= fun _ => reDrive N (m.runFor reTurnSteps))) Q E s
    split at h
    · rename_i e
      cases h
      rw [if_pos e]
      exact wpAny_pure q
    · rename_i e
      rw [if_neg e]
      exact wpAny_bind (wpAny_rule (wp_drive n N _ r h (by omega) q))
theorem wp_seen (r : Sre.M) (f : Nat → PUnit → Sem (ForInStep PUnit)) (hf : ∀ i u, f i u = if r.seen.has i = true then (rule (Sre.names.getD i "") >>= fun _ => pure (ForInStep.yield PUnit.unit)) else pure (ForInStep.yield PUnit.unit)) : ∀ (l : List Nat) {Q : PUnit → Shared → Prop}, Q ⟨⟩ s → wpAny M A (forIn l PUnit.unit f) Q E s
  | [], Q, q => by rw [List.forIn_nil]; exact wpAny_pure q
  | i :: l, Q, q => by
    rw [List.forIn_cons, hf]
    by_cases h : r.seen.has i = true
    · rw [if_pos h]
      exact wpAny_bind (wpAny_bind (wpAny_rule (wpAny_pure (wp_seen r f hf l q))))
    · rw [if_neg h]
      exact wpAny_bind (wpAny_pure (wp_seen r f hf l q))
theorem wp_toEnd {n : Nat} {m r : Sre.M} {Q : Option Sre.M → Shared → Prop} (h : rxEnd n m = some r) (hn : n ≤ 2 ^ 64) (hQ : (r.outcome = some .matched ∧ Q (some r) s) ∨ (r.outcome = some .failed ∧ Q none s)) : wpAny M A (reRunToEnd m) Q E s := by
  unfold reRunToEnd
  refine wpAny_bind (wp_drive n _ m r h hn ?_)
  refine wpAny_bind (wp_seen r _ (fun i u => by cases h : r.seen.has i <;> simp [h]) _ ?_)
  rcases hQ with ⟨e, q⟩ | ⟨e, q⟩ <;> (rw [e]; exact wpAny_pure q)
end
end Mine
end
section
open PySem PySem.Spec PySem.Calls PyProof.Rows PySem.W
set_option maxRecDepth 100000
set_option linter.unusedVariables false
namespace Mine
open PySem.Builtin.Re
section
variable {M : Model} {prog : Program} {w : World} {A : Around} {E : Value → Shared → Prop} {W : List Addr} {s s₀ : Shared}
theorem named_search (v : Value) : reNamed "re.Pattern.search" "search" ["string", "pos", "endpos"] 1 [v] [] = pure [some v, none, none] := by rfl
theorem wp_target {P : Addr} {r : PySem.Flt.PatRec} {t : Str} {u : Tok} {Q : ReTarget → Shared → Prop} (hp : PySem.Flt.IsPattern s.heap P r) (hk : r.kind = 0) (hz : t.cps.size < 2 ^ 60)
    (h : Q { pattern := .ref P, string := .str t u, code := r.code.toArray, text := t.cps, kind := 0, groups := r.groups, pos := 0, lim := t.cps.size } s) :
    wpAny M A (reTarget "re.Pattern.search" "search" ⟨[.ref P, .str t u], []⟩) Q E s := by
  obtain ⟨fs, T, ws, n, h1, h2, h3, h4, h5, h6⟩ := hp
  unfold reTarget
  show wpAny M A (reNamed "re.Pattern.search" "search" ["string", "pos", "endpos"] 1 [.str t u] [] >>= _) Q E s
  rw [named_search]
  refine wpAny_bind (wpAny_pure ?_)
  refine wpAny_bind (wpAny_pure ?_)
  refine wpAny_bind (wpAny_pure ?_)
  refine wpAny_bind (wpAny_fieldsOf h1 rfl ?_)
  refine wpAny_bind (wpAny_of_eq (a := (t.cps, 0)) rfl ?_)
  dsimp only
  rw [h4, hk]
  rw [if_neg (by decide), if_neg (by decide), h2, h3]
  refine wpAny_bind (wpAny_of_eq (a := ()) rfl ?_)
  unfold reRawItems
  refine wpAny_bind (wpAny_bind (wpAny_seqItems h5 rfl (wpAny_pure (wpAny_pure ?_))))
  have e1 : Array.map (fun x => x.toNat) (Array.map reRawOf ((some ws).getD #[])) = r.code.toArray := by
    rw [← h6]; exact (Array.toArray_toList ..).symm
  have e2 : min ((2 : Int) ^ 63 - 1).toNat t.cps.size = t.cps.size := Nat.min_eq_right (by have : ((2 : Int) ^ 63 - 1).toNat = 2 ^ 63 - 1 := by decide
                                                                                           omega)
  rw [e1, e2]
  simpa using h
/-- the spans of a match -/
def spansOf (groups : Nat) (m : Sre.M) : List Int := (m.start : Int) :: (m.handed : Int) :: (List.range groups).flatMap fun g =>
    match if ((2 * g + 1 : Nat) : Int) ≤ m.lastmark then (m.marks.getD (2 * g) none, m.marks.getD (2 * g + 1) none) else (none, none) with
    | (some b, some e) => [(b : Int), (e : Int)]
    | _ => [-1, -1]
def badSpan (groups : Nat) (m : Sre.M) : Bool := (List.range groups).any (fun g => match m.marks.getD (2 * g) none, m.marks.getD (2 * g + 1) none with | some b, some e => ((2 * g + 1 : Nat) : Int) ≤ m.lastmark && e < b | _, _ => false)
def IsMatch (h : Heap) (a : Addr) (t : Str) (spans : List Int) : Prop :=
  ∃ (u : Tok) (p q r i : Value) (T : Addr) (ws : Array Value) (n : Nat), h.get? a = some { cls := .type "re.Match", data := .fields #[.str t u, p, q, r, i, .ref T] } ∧ h.get? T = some { cls := .type "tuple", data := .seq ws n } ∧ (ws.map reRawOf).toList = spans
theorem IsMatch.keeps {h h' : Heap} {a : Addr} {t : Str} {sp : List Int} (x : IsMatch h a t sp) (g : Gr h h') : IsMatch h' a t sp := by
  obtain ⟨u, p, q, r, i, T, ws, n, h1, h2, h3⟩ := x
  exact ⟨u, p, q, r, i, T, ws, n, g _ _ h1, g _ _ h2, h3⟩
def rawSpan (m : Sre.M) (g : Nat) : List Value :=
  match if ((2 * g + 1 : Nat) : Int) ≤ m.lastmark then (m.marks.getD (2 * g) none, m.marks.getD (2 * g + 1) none) else (none, none) with
    | (some b, some e) => [rawInt b, rawInt e]
    | _ => [rawInt (-1), rawInt (-1)]
theorem wp_search {P : Addr} {r : PySem.Flt.PatRec} {t : Str} {u : Tok} {n : Nat} {m : Sre.M} {Q : Value → Shared → Prop} (hp : PySem.Flt.IsPattern s.heap P r) (hk : r.kind = 0) (hg : r.groups = 3) (hz : t.cps.size < 2 ^ 60)
    (hr : rxEnd n (Sre.forSearch r.code.toArray t.cps 3 0 t.cps.size false) = some m) (hn : n ≤ 2 ^ 64)
    (h : (m.outcome = some .matched ∧ badSpan 3 m = false ∧ ∀ a s', Keeps s s' → IsMatch s'.heap a t (spansOf 3 m) → Q (.ref a) s') ∨ (m.outcome = some .failed ∧ Q .none s)) :
    wpAny (model prog w) A (call (.builtin "re.Pattern.search") [.ref P, .str t u]) Q E s := by
  have hT : s.TypeIs (.ref P) "re.Pattern" := by obtain ⟨fs, T, ws, n, h1, _⟩ := hp; exact ⟨_, h1, rfl⟩
  refine wpAny_call_entry slot_search hT entry_search ?_ (args_search _ _)
  unfold Builtin.«re.Pattern.search»
  refine wpAny_bind (wp_target hp hk hz ?_)
  unfold reAnswer
  rw [hg]
  rcases h with ⟨e, b, h⟩ | ⟨e, h⟩
  · refine wpAny_bind (wp_toEnd hr hn (.inl ⟨e, ?_⟩))
    dsimp only
    unfold reNewMatch
    refine wpAny_bind ?_
    dsimp only
    rw [if_neg (by show ¬ badSpan 3 m = true; rw [b]; decide)]
    refine wpAny_bind (wpAny_newTuple ?_ (by
      have len2 : ∀ g : Nat, (rawSpan m g).length = 2 := fun g => by unfold rawSpan; split <;> rfl
      show ((rawInt (m.start : Int) :: rawInt (m.handed : Int) :: List.flatMap (rawSpan m) (List.range 3))).length ≤ sizeLine
      have : (List.flatMap (rawSpan m) (List.range 3)).length = 6 := by
        rw [List.length_flatMap]
        show ((List.range 3).map fun g => (rawSpan m g).length).sum = 6
        rw [show (fun g => (rawSpan m g).length) = fun _ => 2 from funext len2]; rfl
      simp only [List.length_cons, this]
      decide))
    unfold newFields
    refine wpAny_newObj_type (wpAny_pure ⟨_, rfl, h _ _ (kTrans kPush kPush) ?_⟩)
    refine ⟨u, _, _, _, _, s.heap.objs.size, _, _, Heap.get?_push_size _ rfl, Heap.get?_push_of_some _ (Heap.get?_push_size _ rfl), ?_⟩
    show (((rawInt (m.start : Int) :: rawInt (m.handed : Int) :: List.flatMap (rawSpan m) (List.range 3)).toArray).map reRawOf).toList = spansOf 3 m
    unfold spansOf
    simp only [List.map_toArray, List.map_cons, List.map_flatMap]
    congr 1
    congr 1
    congr 1
    funext g
    unfold rawSpan
    split <;> rfl
  · refine wpAny_bind (wp_toEnd hr hn (.inr ⟨e, ?_⟩))
    exact wpAny_pure ⟨_, rfl, h⟩
end
end Mine
end
section
open PySem PySem.Spec PySem.Calls PyProof.Rows PySem.W
set_option maxRecDepth 100000
set_option linter.unusedVariables false
namespace Mine
open PySem.Builtin.Re
section
variable {M : Model} {prog : Program} {w : World} {A : Around} {E : Value → Shared → Prop} {W : List Addr} {s s₀ : Shared}
def groupOf (t : Str) (spans : List Int) (g : Nat) : PyData :=
  if (spans.toArray.getD (2 * g) (-1) < 0 || spans.toArray.getD (2 * g + 1) (-1) < 0) = true then .none else .str ⟨t.cps.extract (spans.toArray.getD (2 * g) (-1)).toNat (spans.toArray.getD (2 * g + 1) (-1)).toNat⟩
theorem wp_group {a : Addr} {t : Str} {spans : List Int} {g : Nat} {u : Tok} {Q : Value → Shared → Prop} (hm : IsMatch s.heap a t spans) (hg : 2 * g < spans.length) (hz : t.cps.size ≤ sizeLine) (h : ∀ v s', Keeps s s' → (∀ h' : Heap, Den h' v (groupOf t spans g)) → Q v s') :
    wpAny (model prog w) A (call (.builtin "re.Match.group") [.ref a, .int g u]) Q E s := by
  obtain ⟨u', p, q, r, i, T, ws, n, h1, h2, h3⟩ := hm
  refine wpAny_call_entry slot_group ⟨_, h1, rfl⟩ entry_group ?_ (args_group _ _)
  unfold Builtin.«re.Match.group»
  refine wpAny_bind (wpAny_of_eq (a := ()) rfl ?_)
  show wpAny _ _ (reFound (.ref a) >>= _) _ _ _
  unfold reFound
  refine wpAny_bind (wpAny_bind (wpAny_fieldsOf h1 rfl ?_))
  unfold reRawItems
  refine wpAny_bind ?_
  refine wpAny_bind (wpAny_seqItems h2 rfl (wpAny_pure (wpAny_pure ?_)))
  dsimp only
  refine wpAny_bind ?_
  have e : Array.map reRawOf ((some ws).getD #[]) = spans.toArray := by rw [← h3]; exact (Array.toArray_toList ..).symm
  rw [e]
  unfold reGroupNumber
  refine wpAny_bind (wpAny_of_eq (a := some (g : Int)) rfl ?_)
  dsimp only
  rw [if_pos (show (some (g : Int)).isSome = true from rfl)]
  refine wpAny_bind (wpAny_of_eq (a := (g : Int)) rfl ?_)
  rw [if_neg (by simp; omega)]
  refine wpAny_pure ?_
  unfold reGroupText
  dsimp only
  rw [Int.toNat_natCast]
  unfold groupOf at h
  refine wpAny_bind ?_
  by_cases c : (decide (spans.toArray.getD (2 * g) (-1) < 0) || decide (spans.toArray.getD (2 * g + 1) (-1) < 0)) = true
  · rw [if_pos c]
    rw [if_pos c] at h
    exact wpAny_pure (wpAny_pure ⟨_, rfl, h _ _ (kRefl _) fun h' => Den.none _⟩)
  · rw [if_neg c]
    rw [if_neg c] at h
    refine wpAny_bind (wpAny_of_eq (a := (t.cps, 0)) rfl ?_)
    unfold reSlice
    dsimp only
    rw [if_pos (show ((0 : Nat) == 0) = true from rfl)]
    refine wpAny_mkStr (wpAny_pure ⟨_, rfl, h _ _ kTok fun h' => Den.str ..⟩) ?_
    show (t.cps.extract _ _).size ≤ sizeLine
    rw [Array.size_extract]
    omega
end
end Mine
end
section
open PySem PySem.Spec PySem.Calls PyProof.Rows PySem.W
set_option maxRecDepth 100000
set_option linter.unusedVariables false
namespace Mine
open PySem.Builtin.Re
theorem plain_pat : PlainAttrs "re.Pattern" :=
  ⟨⟨"object.__getattribute__", by rw [typeLookup_type, builtinLookup_eq_fast]; kernel_rfl, by decide +kernel⟩, by rw [typeLookup_type, builtinLookup_eq_fast]; kernel_rfl⟩
theorem plain_mat : PlainAttrs "re.Match" :=
  ⟨⟨"object.__getattribute__", by rw [typeLookup_type, builtinLookup_eq_fast]; kernel_rfl, by decide +kernel⟩, by rw [typeLookup_type, builtinLookup_eq_fast]; kernel_rfl⟩
section
variable {prog : Program} {w : World} {A : Around} {E : Value → Shared → Prop} {W : List Addr} {s s₀ : Shared} {env : Env}
theorem do_search {o e : Expr} {apos pos : Pos} {r : PySem.Flt.PatRec} {t : Str} {n : Nat} {m : Sre.M} {b : Bool} (ho : Do prog w A s₀ (eval o env) (fun v s' => ∃ P, v = .ref P ∧ PySem.Flt.IsPattern s'.heap P r)) (he : Ev prog w A W s₀ (eval e env) (.str t))
    (hk : r.kind = 0) (hg : r.groups = 3) (hz : t.cps.size < 2 ^ 60) (hr : rxEnd n (Sre.forSearch r.code.toArray t.cps 3 0 t.cps.size false) = some m) (hn : n ≤ 2 ^ 64) (hm : (m.outcome = some .matched ∧ badSpan 3 m = false ∧ b = true) ∨ (m.outcome = some .failed ∧ b = false))
    (hb : attributeBase o "search" env (eval o env) = eval o env := by rfl) (hs : starEach [e] env = [(false, eval e env)] := by rfl) (hl : (apos.endLine == pos.line) = true := by rfl) :
    Do prog w A s₀ (eval (.Call (.Attribute o "search" apos) [e] [] pos) env) (fun v s' => if b = true then ∃ a, v = .ref a ∧ IsMatch s'.heap a t (spansOf 3 m) else v = .none) := .mk fun E s k =>
  Call_method1 hb hs hl (ho.nest k fun v s₁ k₁ ⟨P, pv, ip⟩ => by
    subst pv
    have ip' := ip
    obtain ⟨fs, T, ws, nn, h1, _⟩ := ip'
    refine ⟨"re.Pattern", "re.Pattern.search", plain_pat, slot_search, type_search, ⟨_, h1, rfl⟩, fun a e => by cases e; exact ⟨_, h1, rfl⟩, ?_⟩
    refine callWith_builtin rfl (evalArgs_plain (spliced_cons (he.nest (kTrans k k₁) fun v' s₂ k₂ pv' => spliced_nil ?_)))
    obtain ⟨u, rfl⟩ := pv'.isStr
    refine wp_search (ip.keeps (kGr k₂)) hk hg hz hr hn ?_
    rcases hm with ⟨h1, h2, rfl⟩ | ⟨h1, rfl⟩
    · exact .inl ⟨h1, h2, fun a s' k₃ im => ⟨kTrans k₁ (kTrans k₂ k₃), by rw [if_pos rfl]; exact ⟨a, rfl, im⟩⟩⟩
    · exact .inr ⟨h1, kTrans k₁ k₂, by rw [if_neg (by decide)]⟩)
theorem ev_group {o e : Expr} {apos pos : Pos} {t : Str} {spans : List Int} {g : Nat} (ho : Do prog w A s₀ (eval o env) (fun v s' => ∃ a, v = .ref a ∧ IsMatch s'.heap a t spans)) (he : Ev prog w A W s₀ (eval e env) (.int g)) (hg : 2 * g < spans.length) (hz : t.cps.size ≤ sizeLine)
    (hb : attributeBase o "group" env (eval o env) = eval o env := by rfl) (hs : starEach [e] env = [(false, eval e env)] := by rfl) (hl : (apos.endLine == pos.line) = true := by rfl) :
    Ev prog w A W s₀ (eval (.Call (.Attribute o "group" apos) [e] [] pos) env) (groupOf t spans g) := .mk fun E s k =>
  Call_method1 hb hs hl (ho.nest k fun v s₁ k₁ ⟨a, pv, im⟩ => by
    subst pv
    have im' := im
    obtain ⟨u', p, q, r, i, T, ws, n, h1, _⟩ := im'
    refine ⟨"re.Match", "re.Match.group", plain_mat, slot_group, type_group, ⟨_, h1, rfl⟩, fun a e => by cases e; exact ⟨_, h1, rfl⟩, ?_⟩
    refine callWith_builtin rfl (evalArgs_plain (spliced_cons (he.nest (kTrans k k₁) fun v' s₂ k₂ pv' => spliced_nil ?_)))
    obtain ⟨u, rfl⟩ := pv'.isInt
    exact wp_group (im.keeps (kGr k₂)) hg hz fun v s' k₃ dv => ⟨kTrans k₁ (kTrans k₂ k₃), dv _⟩)
end
end Mine
end
section
open PySem PySem.Spec PySem.Calls PyProof.Rows PySem.W
set_option maxRecDepth 100000
set_option linter.unusedVariables false
namespace Mine
section
variable {prog : Program} {w : World} {A : Around} {E : Value → Shared → Prop} {W : List Addr} {s s₀ s' : Shared} {env : Env} {σ : Sig} {ρ : Rho}
/-- a state where the local x holds the value v, whatever v is -/
def StV (env : Env) (W : List Addr) (x : Str) (v : Value) (σ : Sig) (ρ : Rho) (s : Shared) : Prop := env.kindOf x = some .local ∧ ∃ m, StM env W m σ ρ s ∧ m x = some v
theorem StV.st {x : Str} {v : Value} (S : StV env W x v σ ρ s) : St env W σ ρ s := let ⟨_, m, a, _⟩ := S; ⟨m, a⟩
theorem StV.keeps {x : Str} {v : Value} (S : StV env W x v σ ρ s) (k : Keeps s s') : StV env W x v σ ρ s' := by
  obtain ⟨q, m, a, b⟩ := S
  obtain ⟨m', a'⟩ := St.keeps ⟨m, a⟩ k
  have : m = m' := nsOne a.ns a'.ns fun o e => kGr k _ o e
  exact ⟨q, m', a', this ▸ b⟩
theorem do_var {x : Str} {v : Value} {p : Pos} (hk : env.scope.kind = .function) (S : StV env W x v σ ρ s₀) (hd : (x == ("__debug__" : Str)) = false := by decide) : Do prog w A s₀ (eval (.Name x p) env) (fun r _ => r = v) := .mk fun E s k => by
  obtain ⟨q, m, a, b⟩ := S.keeps k
  exact wpAny_Name (wpAny_loadName_local hk q a.ns b ⟨kRefl _, rfl⟩) hd
theorem StM.storeV {m : Str → Option Value} {x : Str} {v : Value} {h' : Heap} {t : Nat} (ok : EnvOk env W) (S : StM env W m σ ρ s) (hk : env.kindOf x = some .local) (hn : h'.Ns env.locals fun y => if y = x then some v else m y) (hs : Heap.SameBut env.locals s.heap h')
    (hσ : σ.lookup x = none) (hx : ρ.lookup x = none) : Mv [env.locals] s { s with heap := h', toks := t } ∧ StV env W x v σ ρ { s with heap := h', toks := t } := by
  have mv0 : Mv [env.locals] s { s with heap := h', toks := t } := .but (.head _) hs (by obtain ⟨o, _, _, e, _⟩ := hn; exact ⟨o, e⟩)
  have mv : Mv W s { s with heap := h', toks := t } := mv0.wide fun b m => by cases m with | head => exact ok.loc | tail _ m => cases m
  have hvar : ∀ y u, y ≠ x → Var env m s.heap y u → Var env (fun y => if y = x then some v else m y) h' y u := fun y u q a => by
    rcases a with ⟨k, z⟩ | ⟨k, c, l', i⟩
    · exact .inl ⟨k, by show (if y = x then some v else m y) = some u; rw [if_neg q]; exact z⟩
    · exact .inr ⟨k, c, l', i.sameBut hs (ok.ne y c l')⟩
  refine ⟨mv0, hk, _, ⟨hn, fun y c l => ?_, mv.ex S.ex, fun y e l => ?_, fun y a ds l => ?_⟩, by simp⟩
  · obtain ⟨v, i⟩ := S.cells y c l
    exact ⟨v, i.sameBut hs (ok.ne y c l)⟩
  · obtain ⟨u, a, b⟩ := S.vars y e l
    exact ⟨u, hvar y u (fun q => by subst q; rw [hσ] at l; cases l) a, b.mono mv.gr⟩
  · obtain ⟨p, ma, vs, i, d⟩ := S.muts y a ds l
    exact ⟨hvar y _ (fun q => by subst q; rw [hx] at l; cases l) p, ma, vs, i.at fun o e => (hs.2 a (list_not_ns i.isList S.ns)).trans e, d.mono mv.gr⟩
/-- x = e, whatever e gives -/
theorem ex_assignV {x : Str} {p pos : Pos} {e : Expr} {P : Value → Shared → Prop} {Q : Flow → Shared → Prop} (ok : EnvOk env W) (S : St env W σ ρ s) (hv : Do prog w A s (eval e env) P) (hk : env.kindOf x = some .local)
    (h : ∀ v s₁ s', Keeps s s₁ → P v s₁ → Mv [env.locals] s₁ s' → StV env W x v σ ρ s' → Q .next s') (hσ : σ.lookup x = none := by rfl) (hx : ρ.lookup x = none := by rfl) (hs : swapsWith e (some (.Name x p)) pos.line env = pure false := by rfl) : wpAny (model prog w) A (exec (.Assign [.Name x p] e pos) env) Q E s :=
  wpAny_Assign_Name (hv.nest (kRefl s) fun v s₁ k pv => by
    obtain ⟨m, S₁⟩ := S.keeps k
    exact wpAny_storeName_local hk S₁.ns (fun h' hn hs => let ⟨a, b⟩ := S₁.storeV (t := s₁.toks + 1) ok hk hn hs hσ hx; h v s₁ _ k pv a b) (by rw [ok.kind]; rfl)) hs
/-- another name is stored -/
theorem ex_assignO {x y : Str} {u : Value} {p pos : Pos} {e : Expr} {d : PyData} {Q : Flow → Shared → Prop} (ok : EnvOk env W) (S : StV env W y u σ ρ s) (hv : Ev prog w A W s (eval e env) d) (hk : env.kindOf x = some .local) (hne : y ≠ x)
    (h : ∀ s', Mv [env.locals] s s' → StV env W y u ((x, d) :: σ) ρ s' → Q .next s') (hx : ρ.lookup x = none := by rfl) (hs : swapsWith e (some (.Name x p)) pos.line env = pure false := by rfl) : wpAny (model prog w) A (exec (.Assign [.Name x p] e pos) env) Q E s :=
  wpAny_Assign_Name (hv.nest (kRefl s) fun v s₁ k pv => by
    obtain ⟨q, m, S₁, mu⟩ := S.keeps k
    refine wpAny_storeName_local hk S₁.ns (fun h' hn hs => ?_) (by rw [ok.kind]; rfl)
    obtain ⟨a, m', b⟩ := S₁.store (t := s₁.toks + 1) ok hk hn hs pv hx
    have em : (fun z => if z = x then some v else m z) = m' := nsOne (h := h') (h' := h') hn b.ns fun o e => e
    exact h _ ((Mv.of k).trans a) ⟨q, m', b, by rw [← em]; show (if y = x then some v else m y) = some u; rw [if_neg hne]; exact mu⟩) hs
end
end Mine
end
section
open PySem PySem.Spec PySem.Calls PyProof.Rows PySem.W
set_option maxRecDepth 100000
set_option linter.unusedVariables false
namespace Mine
theorem mat_nobool : typeLookup (.type "re.Match") "__bool__" = pure none := by rw [typeLookup_type, builtinLookup_eq_fast]; kernel_rfl
theorem mat_nolen : typeLookup (.type "re.Match") "__len__" = pure none := by rw [typeLookup_type, builtinLookup_eq_fast]; kernel_rfl
section
variable {prog : Program} {w : World} {A : Around} {E : Value → Shared → Prop} {W : List Addr} {s s₀ s' : Shared} {env : Env} {σ : Sig} {ρ : Rho}
theorem truthy_match {a : Addr} {Q : Bool → Shared → Prop} (hT : s.TypeIs (.ref a) "re.Match") (h : Q true s) : wpAny (model prog w) A (truthy (.ref a)) Q E s := by
  unfold truthy
  refine wpAny_bind ?_
  unfold callSpecial?
  refine wpAny_bind (wpAny_specialOf hT mat_nobool ?_)
  refine wpAny_pure ?_
  refine wpAny_bind (wpAny_specialOf hT mat_nolen ?_)
  exact wpAny_pure h
theorem tst_do {e : Expr} {b : Bool} {P : Value → Shared → Prop} (hv : Do prog w A s₀ (eval e env) P) (ht : ∀ v s₁, Keeps s₀ s₁ → P v s₁ → Do prog w A s₁ (truthy v) (fun r _ => r = b))
    (hq : isTrue e env (eval e env) = (do let v ← eval e env; standAt e.pos; holding [v] (truthy v)) := by rfl) : Tst prog w A s₀ env e b := .mk fun _ _ k =>
  wpAny_isTrue_value (hv.nest k fun v s₁ k₁ pv => (ht v s₁ (kTrans k k₁) pv).nest (kRefl _) fun _ _ k₂ e => ⟨kTrans k₁ k₂, e⟩) hq
/-- the truth of a group -/
def textOrNone (d : PyData) : Option Str := match d with | .str x => some x | _ => none
theorem tst_text {e : Expr} {x : Str} (h : Ev prog w A W s₀ (eval e env) (.str x)) (hz : x.length ≤ sizeLine) (hq : isTrue e env (eval e env) = (do let v ← eval e env; standAt e.pos; holding [v] (truthy v)) := by rfl) : Tst prog w A s₀ env e ((x.length : Int) != 0) :=
  tst_val h (fun v s₁ k₁ pv => by
    obtain ⟨t, rfl⟩ := pv.isStr
    have big : sizeLine < 2 ^ 63 := by decide
    exact .mk fun _ s _ => PySem.P.truthy_str (by omega) ⟨kTrans kTok kTok, rfl⟩) hq
theorem tst_none {e : Expr} (h : Ev prog w A W s₀ (eval e env) .none) (hq : isTrue e env (eval e env) = (do let v ← eval e env; standAt e.pos; holding [v] (truthy v)) := by rfl) : Tst prog w A s₀ env e false :=
  tst_val h (fun v s₁ k₁ pv => by rw [pv.isNone]; exact .mk fun _ s _ => PyProof.Rows.truthy_none ⟨kRefl s, rfl⟩) hq
theorem tst_eqN {l r : Expr} {pos : Pos} {b : Str} (hl : Ev prog w A W s₀ (eval l env) .none) (hr : Ev prog w A W s₀ (eval r env) (.str b)) (hm : behindInMarks .Eq r = false := by rfl) : Tst prog w A s₀ env (.Compare l [.Eq] [r] pos) false :=
  tst_cmp hl hr (fun _ _ _ _ pa pb => by rw [pa.isNone]; obtain ⟨_, rfl⟩ := pb.isStr; exact .mk fun _ s _ => PySem.EqNone.eq_none_str ⟨kRefl s, Den.bool ..⟩) hm
end
end Mine
end
section
open PySem PySem.Spec PySem.Calls PyProof.Rows PySem.W
set_option maxRecDepth 100000
set_option linter.unusedVariables false
namespace Mine
open PySem.Builtin.Re
def rec0 : PySem.Flt.PatRec := (PySem.Flt.patsOf PySem.Challenge.pw_rs0014_01).getD 0 ⟨"", [], 0, 0⟩
theorem rec0_kind : rec0.kind = 0 := by decide +kernel
theorem rec0_groups : rec0.groups = 3 := by decide +kernel
def utc (x : Str) : Bool := (["GMT", "UTC", "UT", "Z"] : List Str).contains x
structure Tz (prog : Program) (w : World) (mg : Str → Option Value) (h : Heap) : Prop where
  zones : ∃ d f, mg "UTC_ZONES" = some (.ref d) ∧ (d == sysModules) = false ∧ h.MapOf (strKind prog w) d f ∧ ∀ x, (f x).isSome = utc x
  pat : ∃ P, mg "TIMEZONE_RE" = some (.ref P) ∧ PySem.Flt.IsPattern h P rec0
section
variable {prog : Program} {w : World} {A : Around} {E : Value → Shared → Prop} {W : List Addr} {s s₀ s' : Shared} {env : Env} {σ : Sig} {ρ : Rho} {mg mb : Str → Option Value}
theorem Tz.keeps {h h' : Heap} (x : Tz prog w mg h) (g : Gr h h') : Tz prog w mg h' := by
  obtain ⟨⟨d, f, e, q, ⟨o, es, ep, ho, r⟩, z⟩, P, e', ip⟩ := x
  exact ⟨⟨d, f, e, q, ⟨o, es, ep, g _ _ ho, r⟩, z⟩, P, e', ip.keeps g⟩
theorem tst_in {l : Expr} {p pos : Pos} {x : Str} (Z : Tz prog w mg s₀.heap) (G : Gl env mg mb s₀.heap) (hl : Ev prog w A W s₀ (eval l env) (.str x)) (hk : env.kindOf "UTC_ZONES" = some .globalImplicit := by rfl) (hm : behindInMarks .In (.Name "UTC_ZONES" p) = false := by rfl) : Tst prog w A s₀ env (.Compare l [.In] [.Name "UTC_ZONES" p] pos) (utc x) := .mk fun _ s k => by
  obtain ⟨d, f, e, q, mo, z⟩ := Z.zones
  exact wpAny_isTrue_Compare1 (hl.nest k fun a _ k₁ pa => (is_glob G e hk).nest (kTrans k k₁) fun b s₂ k₂ pb => by
    subst pb
    obtain ⟨t, rfl⟩ := pa.isStr
    obtain ⟨d', f', e', q', mo', z'⟩ := (Z.keeps (kGr (kTrans k (kTrans k₁ k₂)))).zones
    rw [e] at e'; cases e'
    refine wpAny_in_of (strKind_is prog w x t) q' mo' ?_
    rw [z']
    exact wpAny_truthy_bool ⟨kTrans k₁ (kTrans k₂ kTok), rfl⟩) hm
theorem do_re {p : Pos} (Z : Tz prog w mg s₀.heap) (G : Gl env mg mb s₀.heap) (hk : env.kindOf "TIMEZONE_RE" = some .globalImplicit := by rfl) : Do prog w A s₀ (eval (.Name "TIMEZONE_RE" p) env) (fun v s' => ∃ P, v = .ref P ∧ PySem.Flt.IsPattern s'.heap P rec0) := by
  obtain ⟨P, e, ip⟩ := Z.pat
  exact .mk fun E s k => (is_glob (w := w) (A := A) (prog := prog) G e hk).nest k fun v s₁ k₁ h => ⟨k₁, P, h, ip.keeps (kGr (kTrans k k₁))⟩
end
end Mine
end
section
open PySem PySem.Spec PySem.Calls PyProof.Rows PySem.W
set_option maxRecDepth 100000
set_option linter.unusedVariables false
namespace Mine
open PySem.Builtin.Re
/-- the three groups, as texts -/
structure Grp where
  sg : Option Str
  hh : Str
  mm : Option Str
def optD : Option Str → PyData
  | none => .none
  | some x => .str x
def longO : Option Str → Bool
  | some y => ((y.length : Int) != 0)
  | none => false
def eqO (b : Str) : Option Str → Bool
  | some y => y == b
  | none => false
structure GrpOk (t : Str) (sp : List Int) (G : Grp) : Prop where
  len : 6 < sp.length
  g1 : groupOf t sp 1 = optD G.sg
  g2 : groupOf t sp 2 = .str G.hh
  g3 : groupOf t sp 3 = optD G.mm
def mins (G : Grp) (r : Int) : Int := if longO G.mm = true then 60 * r else 0
def isMinus (G : Grp) : Bool := eqO "-" G.sg
def offI (G : Grp) (h r : Int) : Int :=
  let o := 3600 * h + mins G r
  if isMinus G = true then -o else o
section
variable {prog : Program} {w : World} {A : Around} {E : Value → Shared → Prop} {W : List Addr} {s s₀ s' : Shared} {env : Env} {σ : Sig} {ρ : Rho} {mg mb : Str → Option Value}
theorem tst_opt {e : Expr} {x : Option Str} (h : Ev prog w A W s₀ (eval e env) (optD x)) (hz : ∀ y, x = some y → y.length ≤ sizeLine) (hq : isTrue e env (eval e env) = (do let v ← eval e env; standAt e.pos; holding [v] (truthy v)) := by rfl) : Tst prog w A s₀ env e (longO x) := by
  cases x with
  | none => exact tst_none h hq
  | some y => exact tst_text h (hz y rfl) hq
theorem tst_optS {l r : Expr} {pos : Pos} {x : Option Str} {b : Str} (hl : Ev prog w A W s₀ (eval l env) (optD x)) (hr : Ev prog w A W s₀ (eval r env) (.str b)) (hm : behindInMarks .Eq r = false := by rfl) : Tst prog w A s₀ env (.Compare l [.Eq] [r] pos) (eqO b x) := by
  cases x with
  | none => exact tst_eqN hl hr hm
  | some y => exact tst_eqS hl hr hm
theorem match_mv {a L : Addr} {t : Str} {sp : List Int} (im : IsMatch s.heap a t sp) {m : Str → Option Value} (hn : s.heap.Ns L m) (mv : Mv [L] s s') : IsMatch s'.heap a t sp := by
  obtain ⟨u, p, q, r, i, T, ws, n, h1, h2, h3⟩ := im
  obtain ⟨o, es, ep, e, hd, _⟩ := hn
  refine ⟨u, p, q, r, i, T, ws, n, mv.at (fun z => ?_) h1, mv.at (fun z => ?_) h2, h3⟩
  · rw [mem1 z, e] at h1; cases h1; cases hd
  · rw [mem1 z, e] at h2; cases h2; cases hd
end
end Mine
end
section
open PySem PySem.Spec PySem.Calls PyProof.Rows PySem.W
set_option maxRecDepth 100000
set_option linter.unusedVariables false
namespace Mine
open PySem.Builtin.Re
/-- what offset_from_tz_string answers -/
inductive OffOk (t : Str) : PyData → Prop
  | utc (h : utc t = true) : OffOk t (.int 0)
  | dead (m : Sre.M) (h : utc t = false) (e : rxEnd 400 (Sre.forSearch rec0.code.toArray t.cps 3 0 t.cps.size false) = some m) (o : m.outcome = some .failed) : OffOk t .none
  | live (m : Sre.M) (G : Grp) (hh r : Int) (h : utc t = false) (e : rxEnd 400 (Sre.forSearch rec0.code.toArray t.cps 3 0 t.cps.size false) = some m) (o : m.outcome = some .matched) (b : badSpan 3 m = false) (g : GrpOk t (spansOf 3 m) G)
      (ih : PySem.intText? G.hh = some hh) (lh : G.hh.length ≤ 640) (im : ∀ z, G.mm = some z → PySem.intText? z = some r ∧ z.length ≤ 640) (sh : hh.natAbs < 1000) (sr : r.natAbs < 1000) : OffOk t (.int (offI G hh r))
section
variable {prog : Program} {w : World} {A : Around} {E : Value → Shared → Prop} {W : List Addr} {s s₀ s' : Shared} {env : Env} {σ : Sig} {ρ : Rho} {mg mb : Str → Option Value}
theorem StV.re {x : Str} {v : Value} {σ' : Sig} (S : StV env W x v σ ρ s) (h : Sb σ σ') : StV env W x v σ' ρ s := let ⟨q, m, a, b⟩ := S; ⟨q, m, ⟨a.ns, a.cells, a.ex, fun y d l => a.vars y d (h.get y d l), a.muts⟩, b⟩
theorem StV.ns {x : Str} {v : Value} (S : StV env W x v σ ρ s) : ∃ m, s.heap.Ns env.locals m := let ⟨_, m, a, _⟩ := S; ⟨m, a.ns⟩
theorem do_m {x : Str} {a : Addr} {p : Pos} {t : Str} {sp : List Int} (hk : env.scope.kind = .function) (S : StV env W x (.ref a) σ ρ s₀) (im : IsMatch s₀.heap a t sp) (hd : (x == ("__debug__" : Str)) = false := by decide) : Do prog w A s₀ (eval (.Name x p) env) (fun v s' => ∃ a, v = .ref a ∧ IsMatch s'.heap a t sp) :=
  (do_var hk S hd).mono fun v s k h => ⟨a, h, im.keeps (kGr k)⟩
theorem offset {a : Addr} {v : Value} {t : Str} {d : PyData} (lt : Lt 1 A) (T : Tp mg mb s₀.heap) (Z : Tz prog w mg s₀.heap) (F : FnAt s₀.heap 4 a) (X : Ex W s₀.heap) (hz : t.cps.size < 2 ^ 20) (H : OffOk t d) (dv : Den (fz W s₀.heap) v (.str t)) : Ev prog w A W s₀ (call (.ref a) [v]) d := by
  refine call_fn (i := 4) (k := 0) (xs := ["tz"]) lt F T.lim X (.cons dv (.nil _)) (fun _ _ _ => rfl) (by decide) rfl (by decide +kernel) (by decide +kernel) fun pm cd doc L s₁ E k₁ hL lt' ok S => ?_
  have big : (2 : Nat) ^ 20 ≤ sizeLine := by decide
  refine wpAny_execs_cons (ex_assign ok S ev_none (.inl ⟨rfl, rfl⟩) fun s₂ m₂ S₂ => ?_)
  have K₂ := keepL k₁ m₂ hL
  have T₂ := T.keeps (kGr K₂)
  have Z₂ := Z.keeps (kGr K₂)
  have fin : ∀ s₅ σ', Mv [L] s₁ s₅ → St (callEnv (fdAt 4 pm cd doc) L a) (L :: W) (("offset", d) :: σ') [] s₅ → wpAny (model prog w) (A.deeper (callEnv (fdAt 4 pm cd doc) L a)) (execs ((bodyOf (defAt 4)).drop 2) (callEnv (fdAt 4 pm cd doc) L a)) (fun f s' => ∃ v, f = .ret v ∧ Mv [L] s₁ s' ∧ Den (fz (L :: W) s'.heap) v d) E s₅ := by
    intro s₅ σ' m₅ S₅
    refine wpAny_execs_cons (ex_ret (ev_name ok.kind S₅ rfl) fun v s' k' dv => ?_)
    exact ⟨v, rfl, m₅.trans (Mv.of k'), dv⟩
  refine wpAny_execs_cons (ex_if (tst_in Z₂ T₂.gl (ev_name ok.kind S₂ rfl)) (fun hc s₃ k₃ => ?_) (fun hc s₃ k₃ => ?_))
  · have S₃ := S₂.keeps k₃
    refine wpAny_execs_cons (ex_assign ok S₃ ev_int (.inl ⟨rfl, rfl⟩) fun s₄ m₄ S₄ => wpAny_execs_nil ?_)
    cases H with
    | utc h => exact fin s₄ _ (m₂.trans ((Mv.of k₃).trans m₄)) S₄
    | dead m h => rw [hc] at h; cases h
    | live m G hh r h => rw [hc] at h; cases h
  · have S₃ := S₂.keeps k₃
    have K₃ := kTrans K₂ k₃
    have T₃ := T.keeps (kGr K₃)
    have Z₃ := Z.keeps (kGr K₃)
    cases H with
    | utc h => rw [hc] at h; cases h
    | dead m h e o =>
      refine wpAny_execs_cons (ex_assignV ok S₃ (do_search (b := false) (do_re Z₃ T₃.gl) (ev_name ok.kind S₃ rfl) rec0_kind rec0_groups (by omega) e (by decide) (.inr ⟨o, rfl⟩)) rfl fun v s₄ s₅ k₄ pv m₅ S₅ => ?_)
      rw [if_neg (by decide)] at pv
      subst pv
      refine wpAny_execs_cons (ex_if (c := false) (tst_do (do_var ok.kind S₅) fun v s₆ k₆ pv => by subst pv; exact .mk fun _ s _ => PyProof.Rows.truthy_none ⟨kRefl s, rfl⟩) (fun hc => by cases hc) (fun _ s₆ k₆ => wpAny_execs_nil (wpAny_execs_nil ?_)))
      exact fin s₆ _ (m₂.trans ((Mv.of k₃).trans ((Mv.of k₄).trans (m₅.trans (Mv.of k₆))))) (S₅.st.keeps k₆)
    | live m G hh r h e o b g ih lh im sh sr =>
      refine wpAny_execs_cons (ex_assignV ok S₃ (do_search (b := true) (do_re Z₃ T₃.gl) (ev_name ok.kind S₃ rfl) rec0_kind rec0_groups (by omega) e (by decide) (.inl ⟨o, b, rfl⟩)) rfl fun v s₄ s₅ k₄ pv m₅ S₅ => ?_)
      rw [if_pos rfl] at pv
      obtain ⟨a', rfl, im₄⟩ := pv
      obtain ⟨m₀, S₄⟩ := S₃.keeps k₄
      have im₅ := match_mv im₄ S₄.ns m₅
      have M₅ : Mv [L] s₁ s₅ := m₂.trans ((Mv.of k₃).trans ((Mv.of k₄).trans m₅))
      have tT : ∀ {s : Shared}, IsMatch s.heap a' t (spansOf 3 m) → s.TypeIs (.ref a') "re.Match" := fun im => by obtain ⟨u, p, q, r, i, T, ws, n, h1, _⟩ := im; exact ⟨_, h1, rfl⟩
      have len := g.len
      have zz : t.cps.size ≤ sizeLine := by omega
      refine wpAny_execs_cons (ex_if (c := true) (tst_do (do_m ok.kind S₅ im₅) fun v s₆ k₆ pv => by obtain ⟨a'', rfl, im⟩ := pv; obtain ⟨u, p, q, r, i, T, ws, n, h1, _⟩ := im; exact .mk fun _ s k => truthy_match ⟨_, kGr k _ _ h1, rfl⟩ ⟨kRefl s, rfl⟩) (fun _ s₆ k₆ => ?_) (fun hc => by cases hc))
      have S₆ := S₅.keeps k₆
      have im₆ := im₅.keeps (kGr k₆)
      have M₆ : Mv [L] s₁ s₆ := M₅.trans (Mv.of k₆)
      have T₆ := T.keeps (kGr (keepL k₁ M₆ hL))
      refine wpAny_execs_cons (ex_assignO ok S₆ (d := .int (3600 * hh)) (ev_mul ev_int (ev_intStr (is_b T₆ T₆.gl rfl) (g.g2 ▸ ev_group (W := L :: W) (g := 2) (do_m ok.kind S₆ im₆) ev_int (by omega) zz) ih lh) (mulok (m := 12) (n := 10) (by decide) (PyProof.Rows.intBits_le (by omega)) (by decide))) rfl (by decide) fun s₇ m₇ S₇ => ?_)
      obtain ⟨_, n₆⟩ := S₆.ns
      have im₇ := match_mv im₆ n₆ m₇
      have M₇ : Mv [L] s₁ s₇ := M₆.trans m₇
      refine wpAny_execs_cons (wpAny_mono (Q := fun f s₈ => f = .next ∧ Mv [L] s₇ s₈ ∧ StV (callEnv (fdAt 4 pm cd doc) L a) (L :: W) "m" (.ref a') [("offset", .int (3600 * hh + mins G r)), ("tz", .str t)] [] s₈) (ex_if (tst_opt (W := L :: W) (x := G.mm) (g.g3 ▸ ev_group (W := L :: W) (g := 3) (do_m ok.kind S₇ im₇) ev_int (by omega) zz) (fun y q => Nat.le_trans (im y q).2 (by decide))) (fun hc s₈ k₈ => ?_) (fun hc s₈ k₈ => ?_)) (fun f s₉ hq => ?_) fun _ _ h => h)
      · cases q : G.mm with
        | none => rw [q] at hc; cases hc
        | some z =>
          rw [q] at hc
          have S₈ := S₇.keeps k₈
          have im₈ := im₇.keeps (kGr k₈)
          have T₈ := T.keeps (kGr (keepL k₁ (M₇.trans (Mv.of k₈)) hL))
          have e3 : groupOf t (spansOf 3 m) 3 = .str z := by rw [g.g3, q]; rfl
          refine wpAny_execs_cons (ex_assignO ok S₈ (ev_add (ev_name ok.kind S₈.st rfl) (ev_mul ev_int (ev_intStr (is_b T₈ T₈.gl rfl) (e3 ▸ ev_group (W := L :: W) (g := 3) (do_m ok.kind S₈ im₈) ev_int (by omega) zz) (im z q).1 (im z q).2) (mulok (m := 12) (n := 10) (by decide) (PyProof.Rows.intBits_le (by omega)) (by decide)))) rfl (by decide) fun s₉ m₉ S₉ => wpAny_execs_nil ⟨rfl, (Mv.of k₈).trans m₉, ?_⟩)
          have em : mins G r = 60 * r := by unfold mins; rw [q]; exact if_pos hc
          rw [em]
          exact S₉.re (.cons rfl (.cons rfl .nil))
      · refine wpAny_execs_nil ⟨rfl, Mv.of k₈, ?_⟩
        have em : mins G r = 0 := by unfold mins; rw [hc]; rfl
        rw [em, Int.add_zero]
        exact (S₇.keeps k₈).re (.cons rfl (.cons rfl .nil))
      · obtain ⟨rfl, m₉, S₉⟩ := hq
        obtain ⟨_, n₇⟩ := S₇.ns
        have im₉ := match_mv im₇ n₇ m₉
        refine wpAny_execs_cons (ex_if (tst_optS (W := L :: W) (x := G.sg) (g.g1 ▸ ev_group (W := L :: W) (g := 1) (do_m ok.kind S₉ im₉) ev_int (by omega) zz) ev_str) (fun hc s₈ k₈ => ?_) (fun hc s₈ k₈ => ?_))
        · have S₈ := S₉.keeps k₈
          have em : offI G hh r = -(3600 * hh + mins G r) := by
            unfold offI
            exact if_pos hc
          rw [em] at fin
          refine wpAny_execs_cons (ex_assign ok S₈.st (ev_neg (ev_name ok.kind S₈.st rfl)) (.inl ⟨rfl, rfl⟩) fun s₁₀ m₁₀ S₁₀ => wpAny_execs_nil (wpAny_execs_nil (wpAny_execs_nil ?_)))
          rw [em]
          exact fin s₁₀ _ (M₇.trans (m₉.trans ((Mv.of k₈).trans m₁₀))) S₁₀
        · have em : offI G hh r = 3600 * hh + mins G r := by
            unfold offI
            exact if_neg (by show ¬ eqO "-" G.sg = true; rw [hc]; decide)
          rw [em] at fin ⊢
          exact wpAny_execs_nil (wpAny_execs_nil (wpAny_execs_nil (fin s₈ _ (M₇.trans (m₉.trans (Mv.of k₈))) (S₉.keeps k₈).st)))
end
end Mine
end
section
open PySem PySem.Spec PySem.Calls PyProof.Rows PySem.W
set_option maxRecDepth 100000
set_option linter.unusedVariables false
namespace Mine
open PySem.Builtin.Re
def unopt : PyData → Option (Option Str)
  | .none => some none
  | .str x => some (some x)
  | _ => none
theorem unopt_eq {d : PyData} {x : Option Str} (h : unopt d = some x) : d = optD x := by
  unfold unopt at h
  split at h <;> first | (cases h; rfl) | cases h
def minB : Option Str → Option Int
  | none => some 0
  | some z => if z.length ≤ 640 then PySem.intText? z else none
def liveB (t : Str) (m : Sre.M) : Option PyData :=
  match unopt (groupOf t (spansOf 3 m) 1), unopt (groupOf t (spansOf 3 m) 2), unopt (groupOf t (spansOf 3 m) 3) with
  | some a, some (some h), some c =>
    match PySem.intText? h, minB c with
    | some hh, some r => if (!badSpan 3 m && decide (6 < (spansOf 3 m).length) && decide (h.length ≤ 640) && decide (hh.natAbs < 1000) && decide (r.natAbs < 1000)) = true then some (.int (offI ⟨a, h, c⟩ hh r)) else none
    | _, _ => none
  | _, _, _ => none
def offB (t : Str) : Option PyData :=
  if utc t = true then some (.int 0) else
  match rxEnd 400 (Sre.forSearch rec0.code.toArray t.cps 3 0 t.cps.size false) with
  | none => none
  | some m => match m.outcome with
    | some .failed => some .none
    | some .matched => liveB t m
    | _ => none
theorem offB_ok {t : Str} {d : PyData} (h : offB t = some d) : OffOk t d := by
  unfold offB at h
  split at h
  · rename_i u; cases h; exact .utc u
  · rename_i u
    have u : utc t = false := by cases q : utc t <;> simp_all
    split at h
    · cases h
    · rename_i m e
      split at h
      · rename_i o; cases h; exact .dead m u e o
      · rename_i o
        unfold liveB at h
        split at h
        · rename_i a hx c g1 g2 g3
          split at h
          · rename_i hh r i1 i2
            split at h
            · rename_i q
              cases h
              simp only [Bool.and_eq_true, Bool.not_eq_true', decide_eq_true_eq] at q
              obtain ⟨⟨⟨⟨q1, q2⟩, q3⟩, q4⟩, q5⟩ := q
              refine .live m ⟨a, hx, c⟩ hh r u e o q1 ⟨q2, unopt_eq g1, unopt_eq g2, unopt_eq g3⟩ i1 q3 (fun z hz => ?_) q4 q5
              have hz : c = some z := hz
              subst hz
              have i2 : (if z.length ≤ 640 then PySem.intText? z else none) = some r := i2
              split at i2
              · rename_i l; exact ⟨i2, l⟩
              · cases i2
            · cases h
          · cases h
        · cases h
      · cases h
end Mine
end
section
open PySem PySem.Spec PySem.Calls PyProof.Rows PySem.W
set_option maxRecDepth 100000
set_option linter.unusedVariables false
namespace Mine
section
variable {prog : Program} {w : World} {A : Around} {E : Value → Shared → Prop} {W : List Addr} {s s₀ s' : Shared} {env : Env} {σ : Sig} {ρ : Rho}
/-- a list that nobody else holds -/
def NewL (s₀ : Shared) (ds : List PyData) (v : Value) (s' : Shared) : Prop := ∃ a vs, v = .ref a ∧ s₀.heap.get? a = none ∧ PlainL s'.heap a vs.toArray ∧ ∀ h : Heap, Dens h vs ds
theorem mul_new {l : Addr} {items : Array Value} {k : Nat} {x : Int} {u : Tok} {Q : Value → Shared → Prop}
    (hl : s.heap.get? l = some { cls := .type "list", dict := none, data := .seq items k, slots := #[] })
    (hlo : -(2 ^ 63 : Int) ≤ x) (hhi : x < 2 ^ 63) (hsz : items.size * x.toNat ≤ 2 ^ 24)
    (h : Q (.ref s.heap.objs.size) { s with heap := s.heap.push { cls := .type "list", data := .seq (List.foldl (fun x1 x2 => x1 ++ x2) #[] (List.replicate (if items.isEmpty = true then 0 else x.toNat) items)) } }) :
    wpAny (model prog w) A (binaryOp .Mult (.ref l) (.int x u)) Q E s :=
  wpAny_binaryOp_repeat_ref (T := "list") (U := "int") (by decide) ⟨_, hl, rfl⟩ (fun s' => typeIs_int s' x u) noFill_list_mul PySem.F.fills_int_mul PySem.F.slot_int_rmul repeat_list PySem.F.slot_int_index.lookup
    (call_meets PySem.F.slot_int_rmul (typeIs_int s x u) PySem.F.entry_int_rmul (PySem.F.args_int_rmul_2 _ _) (int___rmul___int_list x u l items k)
      ⟨hl, rfl, ⟨_, hl, rfl⟩, call_meets PySem.F.slot_list_mul ⟨_, hl, rfl⟩ PySem.F.entry_list_mul (PySem.F.args_list_mul_2 _ _)
        (AutoListH.list___mul___list_int_3 l items k x u (by simp [Builtin.List.listFitsIndex]; omega) (by omega) (by simp [Builtin.List.listTooLong, sizeLine]; omega))
        ⟨hl, h⟩⟩)
theorem do_zeros {n k : Nat} {p q p' pos : Pos} : Do prog w A s₀ (eval (.BinOp (.List [.Constant (.int 0) n p] q) .Mult (.Constant (.int 6) k p') pos) env) (NewL s₀ (List.replicate 6 (.int 0))) := .mk fun E s k₀ => by
  refine wpAny_BinOp (wpAny_List (wpAny_items_cons ((ev_int (W := []) (s₀ := s)).nest (kRefl s) fun v s₁ k₁ pv => wpAny_items_nil ?_) rfl))
  obtain ⟨t, rfl⟩ := pv.isInt
  refine ⟨by show 1 ≤ sizeLine; decide, ?_⟩
  refine (ev_int (W := [])).nest (kRefl _) fun v s₂ k₂ pv => ?_
  obtain ⟨u, rfl⟩ := pv.isInt
  refine mul_new (kGr k₂ _ _ (Heap.get?_push_size _ rfl)) (by decide) (by decide) (by show 1 * Int.toNat 6 ≤ 2 ^ 24; decide) ⟨kTrans k₁ (kTrans kPush (kTrans k₂ kPush)), s₂.heap.objs.size, [.int 0 t, .int 0 t, .int 0 t, .int 0 t, .int 0 t, .int 0 t], rfl, ?_, ⟨_, _, Heap.get?_push_size _ rfl, rfl, rfl, rfl⟩, ?_⟩
  · exact isNone_of_gr (kGr (kTrans k₀ (kTrans k₁ (kTrans kPush k₂)))) (new_size _)
  · intro h
    exact .cons (Den.int ..) (.cons (Den.int ..) (.cons (Den.int ..) (.cons (Den.int ..) (.cons (Den.int ..) (.cons (Den.int ..) (.nil _))))))
end
end Mine
end
section
open PySem PySem.Spec PySem.Calls PyProof.Rows PySem.W
set_option maxRecDepth 100000
set_option linter.unusedVariables false
namespace Mine
section
variable {prog : Program} {w : World} {A : Around} {E : Value → Shared → Prop} {W : List Addr} {s s₀ s' : Shared} {env : Env} {σ : Sig} {ρ : Rho}
theorem do_nil {p : Pos} : Do prog w A s₀ (eval (.List [] p) env) (NewL s₀ []) := .mk fun E s k₀ => by
  refine wpAny_List (wpAny_items_nil ⟨by show 0 ≤ sizeLine; decide, kPush, s.heap.objs.size, [], rfl, isNone_of_gr (kGr k₀) (new_size _), ⟨_, _, Heap.get?_push_size _ rfl, rfl, rfl, rfl⟩, fun h => .nil _⟩)
theorem StV.asMut {x : Str} {a : Addr} {ds : List PyData} {vs : List Value} (S : StV env W x (.ref a) σ ρ s) (ha : a ∈ W) (hl : PlainL s.heap a vs.toArray) (hd : ∀ h : Heap, Dens h vs ds) : St env W σ ((x, a, ds) :: ρ) s := by
  obtain ⟨q, m, S, mx⟩ := S
  refine ⟨m, S.ns, S.cells, S.ex, S.vars, fun y b es l => ?_⟩
  rw [List.lookup_cons] at l
  cases z : y == x with
  | true =>
    rw [z] at l
    cases l
    obtain rfl := eq_of_beq z
    exact ⟨.inl ⟨q, mx⟩, ha, vs, hl, hd _⟩
  | false => rw [z] at l; exact S.muts y b es l
theorem St.addr {a : Addr} (S : St env W σ ρ s) (k : Keeps s s') (hn : s.heap.get? a = none) (he : ∃ o, s'.heap.get? a = some o) : St env (a :: W) σ ρ s' :=
  S.lift (V := []) (Mv.of k) (fun b m => by cases m) (fun b m => by
    rcases List.mem_cons.mp m with rfl | m
    · exact .inr hn
    · exact .inl m) (fun b m => by
    rcases List.mem_cons.mp m with rfl | m
    · exact he
    · exact S.ex.mono (kGr k) b m) fun b m => .tail _ m
/-- x = a new list, that will be turned -/
theorem ex_assignL {x : Str} {p pos : Pos} {e : Expr} {ds : List PyData} {Q : Flow → Shared → Prop} (ok : EnvOk env W) (S : St env W σ ρ s) (hv : Do prog w A s (eval e env) (NewL s ds)) (hk : env.kindOf x = some .local)
    (h : ∀ a s', s.heap.get? a = none → Mv [env.locals] s s' → EnvOk env (a :: W) → St env (a :: W) σ ((x, a, ds) :: ρ) s' → Q .next s') (hσ : σ.lookup x = none := by rfl) (hx : ρ.lookup x = none := by rfl) (hs : swapsWith e (some (.Name x p)) pos.line env = pure false := by rfl) : wpAny (model prog w) A (exec (.Assign [.Name x p] e pos) env) Q E s :=
  wpAny_Assign_Name (hv.nest (kRefl s) fun v s₁ k pv => by
    obtain ⟨a, vs, rfl, hn, il, hd⟩ := pv
    have ok' := ok.wide (W' := a :: W) fun b m => .tail _ m
    obtain ⟨m, S₁⟩ := S.addr k hn (by obtain ⟨o, _, e, _⟩ := il; exact ⟨o, e⟩)
    refine wpAny_storeName_local hk S₁.ns (fun h' hn' hs => ?_) (by rw [ok.kind]; rfl)
    obtain ⟨mv, Sv⟩ := S₁.storeV (t := s₁.toks + 1) ok' hk hn' hs hσ hx
    have ne := list_not_ns il.isList S₁.ns
    exact h a _ hn ((Mv.of k).trans mv) ok' (Sv.asMut (.head _) (il.at fun o e => mv.at (by simpa using ne) e) hd)) hs
end
end Mine
end
section
open PySem PySem.Spec PySem.Calls PyProof.Rows PySem.W
set_option maxRecDepth 100000
set_option linter.unusedVariables false
namespace Mine
inductive Rb (ρ : Rho) (x : Str) (a : Addr) (new : List PyData) : Rho → Prop
  | nil : Rb ρ x a new []
  | hit {r : Rho} (q : Rb ρ x a new r) : Rb ρ x a new ((x, a, new) :: r)
  | keep {y : Str} {b : Addr} {es : List PyData} {r : Rho} (h : ρ.lookup y = some (b, es)) (n : b ≠ a) (q : Rb ρ x a new r) : Rb ρ x a new ((y, b, es) :: r)
theorem Rb.get {ρ : Rho} {x : Str} {a : Addr} {new : List PyData} : ∀ {ρ' : Rho}, Rb ρ x a new ρ' → ∀ y b es, ρ'.lookup y = some (b, es) → (y = x ∧ b = a ∧ es = new) ∨ (ρ.lookup y = some (b, es) ∧ b ≠ a)
  | _, .nil, y, b, es, l => by cases l
  | _, .hit q, y, b, es, l => by
      rw [List.lookup_cons] at l
      cases z : y == x with
      | true => rw [z] at l; cases l; exact .inl ⟨eq_of_beq z, rfl, rfl⟩
      | false => rw [z] at l; exact q.get y b es l
  | _, .keep (y := y') h n q, y, b, es, l => by
      rw [List.lookup_cons] at l
      cases z : y == y' with
      | true => rw [z] at l; cases l; rw [eq_of_beq z]; exact .inr ⟨h, n⟩
      | false => rw [z] at l; exact q.get y b es l
section
variable {prog : Program} {w : World} {A : Around} {E : Value → Shared → Prop} {W : List Addr} {s s₀ s' : Shared} {env : Env} {σ : Sig} {ρ ρ' : Rho}
/-- a name's list is turned -/
theorem St.turn {x : Str} {a : Addr} {ds new : List PyData} {vs : List Value} {h' : Heap} (S : St env W σ ρ s) (hl : ρ.lookup x = some (a, ds)) (hr : Rb ρ x a new ρ') (hs : Heap.SameBut a s.heap h') (hp : PlainL h' a vs.toArray) (hd : Dens (fz W s.heap) vs new) :
    Mv [a] s { s with heap := h' } ∧ St env W σ ρ' { s with heap := h' } := by
  obtain ⟨m, S⟩ := S
  obtain ⟨px, ma, us, il, dn⟩ := S.muts x a ds hl
  have mv0 : Mv [a] s { s with heap := h' } := .but (t := s.toks) (.head _) hs (let ⟨o, _, e, _⟩ := hp; ⟨o, e⟩)
  have mv : Mv W s { s with heap := h' } := mv0.wide fun b m => by rw [mem1 m]; exact ma
  have nL : env.locals ≠ a := (list_not_ns il.isList S.ns).symm
  have nc : ∀ y c, env.cells.lookup y = some c → c ≠ a := fun y c l => by obtain ⟨v, i⟩ := S.cells y c l; exact (list_not_cell il.isList i).symm
  have vr : ∀ y u, Var env m s.heap y u → Var env m h' y u := fun y u q => by
    rcases q with q | ⟨q, c, l, i⟩
    · exact .inl q
    · exact .inr ⟨q, c, l, i.sameBut hs (nc y c l)⟩
  refine ⟨mv0, m, S.ns.sameBut hs nL, fun y c l => let ⟨v, i⟩ := S.cells y c l; ⟨v, i.sameBut hs (nc y c l)⟩, mv.ex S.ex, fun y d l => let ⟨v, p, q⟩ := S.vars y d l; ⟨v, vr y v p, q.mono mv.gr⟩, fun y b es l => ?_⟩
  rcases hr.get y b es l with ⟨rfl, rfl, rfl⟩ | ⟨l', n⟩
  · exact ⟨vr _ _ px, ma, vs, hp, hd.mono mv.gr⟩
  · obtain ⟨p, mb, us', i, d⟩ := S.muts y b es l'
    exact ⟨vr _ _ p, mb, us', i.at fun o e => (hs.2 b n).trans e, d.mono mv.gr⟩
theorem do_mut {x : Str} {a : Addr} {ds : List PyData} {p : Pos} (hk : env.scope.kind = .function) (S : St env W σ ρ s₀) (hx : ρ.lookup x = some (a, ds)) (hd : (x == ("__debug__" : Str)) = false := by decide) (hc : (x == ("__classdict__" : Str)) = false := by decide) : Do prog w A s₀ (eval (.Name x p) env) (fun v _ => v = .ref a) := .mk fun E s k => by
  obtain ⟨m, S⟩ := S.keeps k
  obtain ⟨v, _⟩ := S.muts x a ds hx
  rcases v with ⟨q, z⟩ | ⟨q | q, c, l, i⟩
  · exact wpAny_Name (wpAny_loadName_local hk q S.ns z ⟨kRefl _, rfl⟩) hd
  · exact wpAny_Name (wpAny_loadName_cell hk q l i ⟨kRefl _, rfl⟩) hd
  · exact wpAny_Name (wpAny_loadName_free hk q l i ⟨kRefl _, rfl⟩ hc) hd
/-- x.append(e) -/
theorem ex_append {x : Str} {a : Addr} {ds : List PyData} {d : PyData} {e : Expr} {px apos pos spos : Pos} {Q : Flow → Shared → Prop} (ok : EnvOk env W) (S : St env W σ ρ s) (hl : ρ.lookup x = some (a, ds)) (hr : Rb ρ x a (ds ++ [d]) ρ') (he : Ev prog w A W s (eval e env) d) (hz : ds.length ≤ sizeLine)
    (h : ∀ s', Mv [a] s s' → St env W σ ρ' s' → Q .next s')
    (hd : (x == ("__debug__" : Str)) = false := by decide) (hc : (x == ("__classdict__" : Str)) = false := by decide)
    (hbase : attributeBase (.Name x px) "append" env (eval (.Name x px) env) = eval (.Name x px) env := by rfl)
    (hfew : ((backTo pos (starEach [e] env)).all (fun x => !x.1) && (backToKw pos (keywordEach [] env)).all (fun x => x.1.isSome)
      && decide (([e] : List Expr).length + ([] : List Keyword).length + (if ([] : List Keyword).isEmpty then 0 else 1) < 30)) = true := by rfl)
    (hline : (apos.endLine == pos.line) = true := by rfl) (htrees : backTo pos (starEach [e] env) = [(false, eval e env)] := by rfl)
    (hi : interactive env = false := by rfl) (hs : swapsWith (.Call (.Attribute (.Name x px) "append" apos) [e] [] pos) none spos.line env = pure false := by rfl) :
    wpAny (model prog w) A (exec (.Expr (.Call (.Attribute (.Name x px) "append" apos) [e] [] pos) spos) env) Q E s := by
  refine wpAny_Expr_any (wpAny_Call_append hbase hfew hline htrees ((do_mut ok.kind S hl hd hc).nest (kRefl s) fun v s₁ k₁ ev => ?_)) hi hs
  subst ev
  have S₁ := S.keeps k₁
  obtain ⟨m, S₁'⟩ := id S₁
  obtain ⟨_, _, vs, il, dn⟩ := S₁'.muts x a ds hl
  refine ⟨a, vs.toArray, rfl, il, he.nest k₁ fun v s₂ k₂ dv => ?_⟩
  have S₂ := S₁.keeps k₂
  obtain ⟨m, S₂'⟩ := id S₂
  obtain ⟨_, ma, us, jl, en⟩ := S₂'.muts x a ds hl
  refine list_append_plainL jl (fun h' hp hsb => ?_) (by rw [show us.toArray.size = ds.length by simpa using en.length]; exact hz)
  obtain ⟨mv, S₃⟩ := S₂.turn hl hr hsb (vs := us ++ [v]) (by simpa using hp) (en.append (.cons dv (.nil _)))
  exact h _ ((Mv.of (kTrans k₁ k₂)).trans mv) S₃
/-- an item of a name's own list -/
theorem ev_itemM {x : Str} {px : Pos} {i : Expr} {pos : Pos} {a : Addr} {ds : List PyData} {k : Int} {d : PyData} (hk : env.scope.kind = .function) (S : St env W σ ρ s₀) (hx : ρ.lookup x = some (a, ds)) (hi : Ev prog w A W s₀ (eval i env) (.int k)) (h0 : 0 ≤ k) (h1 : k < 2 ^ 63) (hd : ds[k.toNat]? = some d)
    (hs : ∀ l u, subscripted i false (.ref l) (.int k u) = operate [.ref l, .int k u] (getItem (.ref l) (.int k u)) := by intro _ _; with_unfolding_all rfl) (hdb : (x == ("__debug__" : Str)) = false := by decide) (hc : (x == ("__classdict__" : Str)) = false := by decide) : Ev prog w A W s₀ (eval (.Subscript (.Name x px) i pos) env) d := .mk fun _ s q =>
  Subscript_ ((do_mut hk S hx hdb hc).nest q fun y s₁ k₁ py => hi.nest (kTrans q k₁) fun z s₂ k₂ pz => by
    subst py
    obtain ⟨u, rfl⟩ := pz.isInt
    obtain ⟨m, S₂⟩ := S.keeps (kTrans q (kTrans k₁ k₂))
    obtain ⟨_, ma, us, jl, dn⟩ := S₂.muts x a ds hx
    obtain ⟨z, hz, dz⟩ := dn.get hd
    exact tail_any jl.isList.typeIs slot_list_getitem.lookup (wpAny_getItem_list jl.isList h0 h1 (by simpa using hz) ⟨kTrans k₁ k₂, dz⟩) (hs a u))
theorem setItem_plain {l : Addr} {items : Array Value} {k : Int} {t : Tok} {v : Value} {Q : Unit → Shared → Prop} (hl : PlainL s.heap l items) (h0 : 0 ≤ k) (hfit : k < 2 ^ 63) (hn : k < items.size)
    (hQ : ∀ h', PlainL h' l (items.setIfInBounds k.toNat v) → Heap.SameBut l s.heap h' → Q () { s with heap := h' }) :
    wpAny (model prog w) A (setItem (.ref l) (.int k t) v) Q E s := by
  have il := hl.isList
  obtain ⟨⟨c, dd, dt, sl⟩, n, ho, hc, hdn, hd⟩ := hl
  simp only at hc hdn hd
  subst hc hdn hd
  unfold setItem
  try with_reducible refine wpAny_holding ?_
  first | refine wpAny_bind (wpAny_pure ?_) | skip
  refine wpAny_bind (wpAny_sequenceKey il.typeIs (by decide) ?_)
  refine wpAny_bind (wpAny_callSpecial?_slot (name := Str.ofString "__setitem__") il.typeIs slot_list_setitem
    (wpAny_call_entry slot_list_setitem il.typeIs entry_list_setitem ?_ (args_list_setitem _ _ _)))
  show wpAny _ _ (Builtin.List.listSubscript? (.int k t) >>= _) _ _ s
  refine wpAny_bind (wpAny_listSubscript_int (fitsIndex_of h0 hfit) ?_)
  clear hfit
  obtain ⟨j, rfl⟩ := Int.eq_ofNat_of_zero_le h0
  have hn : j < items.size := by omega
  have hx' : items[j]? = some items[j] := Array.getElem?_eq_getElem hn
  show wpAny _ _ ((seqItemAt l j >>= fun r => pure (r.map (j, ·))) >>= _) _ _ s
  refine wpAny_bind (wpAny_bind (wpAny_seqItemAt ho rfl (wpAny_pure ?_)))
  rw [hx']
  show wpAny _ _ (setSeqItemAt l j v >>= _) _ _ s
  obtain ⟨n', hd'⟩ := Obj.data_mapSeq (o := ⟨.type "list", none, .seq items n, sl⟩) rfl (·.setIfInBounds j v)
  have hfin : PlainL (s.heap.update l (Obj.mapSeq (·.setIfInBounds j v))) l (items.setIfInBounds j v) :=
    ⟨_, n', Heap.get?_update_self _ ho (Obj.isFreed_of_seq hd'), Obj.cls_mapSeq .., rfl, hd'⟩
  refine wpAny_bind (wpAny_setSeqItemAt ho rfl ?_)
  first
    | exact wpAny_bind (wpAny_pure (wpAny_pure ⟨.none, rfl, wpAny_pure (hQ _ hfin (Heap.SameBut.update ..))⟩))
    | exact wpAny_pure ⟨.none, rfl, wpAny_pure (hQ _ hfin (Heap.SameBut.update ..))⟩
theorem Dens.set {h : Heap} : ∀ {vs : List Value} {ds : List PyData}, Dens h vs ds → ∀ (j : Nat) {v : Value} {d : PyData}, Den h v d → Dens h (vs.set j v) (ds.set j d)
  | vs, [], x, j, v, d, q => by rw [x.inv0]; exact .nil h
  | vs, d₀ :: ds, x, 0, v, d, q => by obtain ⟨v', vs', rfl, a, b⟩ := x.inv; exact .cons q b
  | vs, d₀ :: ds, x, j + 1, v, d, q => by obtain ⟨v', vs', rfl, a, b⟩ := x.inv; exact .cons a (Dens.set b j q)
/-- x[i] = e -/
theorem ex_setI {x : Str} {a : Addr} {ds : List PyData} {d : PyData} {k : Int} {e i : Expr} {px ipos pos : Pos} {Q : Flow → Shared → Prop} (ok : EnvOk env W) (S : St env W σ ρ s) (hl : ρ.lookup x = some (a, ds)) (hr : Rb ρ x a (ds.set k.toNat d) ρ') (he : Ev prog w A W s (eval e env) d) (hi : Ev prog w A W s (eval i env) (.int k))
    (h0 : 0 ≤ k) (h1 : k < ds.length) (hz : ds.length ≤ 1000)
    (h : ∀ s', Mv [a] s s' → St env W σ ρ' s' → Q .next s')
    (hd : (x == ("__debug__" : Str)) = false := by decide) (hc : (x == ("__classdict__" : Str)) = false := by decide)
    (hs : swapsWith e (some (.Subscript (.Name x px) i ipos)) pos.line env = pure false := by rfl) :
    wpAny (model prog w) A (exec (.Assign [.Subscript (.Name x px) i ipos] e pos) env) Q E s := by
  refine wpAny_Assign_Subscript (he.nest (kRefl s) fun v s₁ k₁ dv => (do_mut ok.kind S hl hd hc).nest k₁ fun ov s₂ k₂ eo => hi.nest (kTrans k₁ k₂) fun iv s₃ k₃ di => ?_) hs
  subst eo
  obtain ⟨u, rfl⟩ := di.isInt
  have K : Keeps s s₃ := kTrans k₁ (kTrans k₂ k₃)
  have S₃ := S.keeps K
  obtain ⟨m, S₃'⟩ := id S₃
  obtain ⟨_, ma, us, jl, en⟩ := S₃'.muts x a ds hl
  obtain ⟨j, rfl⟩ := Int.eq_ofNat_of_zero_le h0
  have hn : ((j : Nat) : Int) < us.toArray.size := by rw [show us.toArray.size = ds.length by simpa using en.length]; exact h1
  refine setItem_plain jl h0 (by omega) hn fun h' hp hsb => ?_
  obtain ⟨mv, S₄⟩ := S₃.turn hl hr hsb (vs := us.set j v) (by simpa using hp) (en.set j (dv.mono (fz_gr (kGr (kTrans k₂ k₃)))))
  exact h _ ((Mv.of K).trans mv) S₄
/-- a cell takes a new list -/
theorem ex_assignLC {x : Str} {c₀ : Addr} {p pos : Pos} {e : Expr} {ds : List PyData} {Q : Flow → Shared → Prop} (ok : EnvOk env W) (S : St env W σ ρ s) (hv : Do prog w A s (eval e env) (NewL s ds)) (hk : env.kindOf x = some .cell) (hc : env.cells.lookup x = some c₀)
    (h : ∀ a s', s.heap.get? a = none → Mv [c₀] s s' → EnvOk env (a :: W) → St env (a :: W) σ ((x, a, ds) :: ρ) s' → Q .next s') (hσ : σ.lookup x = none := by rfl) (hx : ρ.lookup x = none := by rfl) (hs : swapsWith e (some (.Name x p)) pos.line env = pure false := by rfl) : wpAny (model prog w) A (exec (.Assign [.Name x p] e pos) env) Q E s :=
  wpAny_Assign_Name (hv.nest (kRefl s) fun v s₁ k pv => by
    obtain ⟨a, vs, rfl, hn, il, hd⟩ := pv
    have ok' := ok.wide (W' := a :: W) fun b m => .tail _ m
    obtain ⟨m, S₁⟩ := S.addr k hn (by obtain ⟨o, _, e, _⟩ := il; exact ⟨o, e⟩)
    obtain ⟨v₀, ic⟩ := S₁.cells x c₀ hc
    refine wpAny_storeName_cell ok.kind hk hc ic fun h' hn' hsb => ?_
    have mv0 : Mv [c₀] s₁ { s₁ with heap := h' } := .but (t := s₁.toks) (.head _) hsb (let ⟨o, e, _⟩ := hn'; ⟨o, e⟩)
    have mv : Mv (a :: W) s₁ { s₁ with heap := h' } := mv0.wide fun b m => by rw [mem1 m]; exact .tail _ (ok.cell x c₀ hc)
    have ne := list_not_cell il.isList ic
    have hcell : ∀ y c u, env.cells.lookup y = some c → y ≠ x → s₁.heap.IsCell c u → h'.IsCell c u := fun y c u l q i => i.sameBut hsb fun e => by
      subst e
      exact q (ok.apart y x _ l hc)
    have hvar : ∀ y u, y ≠ x → Var env m s₁.heap y u → Var env m h' y u := fun y u q a => by
      rcases a with ⟨k, z⟩ | ⟨k, c, l', i⟩
      · exact .inl ⟨k, z⟩
      · exact .inr ⟨k, c, l', hcell y c _ l' q i⟩
    refine h a _ hn ((Mv.of k).trans mv0) ok' ⟨m, S₁.ns.sameBut hsb (Ne.symm (ok.ne x c₀ hc)), fun y c l => ?_, mv.ex S₁.ex, fun y e l => ?_, fun y b es l => ?_⟩
    · by_cases q : y = x
      · subst q; rw [hc] at l; cases l; exact ⟨_, hn'⟩
      · obtain ⟨v, i⟩ := S₁.cells y c l; exact ⟨v, hcell y c v l q i⟩
    · obtain ⟨u, p, q⟩ := S₁.vars y e l
      exact ⟨u, hvar y u (fun z => by subst z; rw [hσ] at l; cases l) p, q.mono mv.gr⟩
    · rw [List.lookup_cons] at l
      cases z : y == x with
      | true =>
        rw [z] at l
        cases l
        obtain rfl := eq_of_beq z
        exact ⟨.inr ⟨.inl hk, c₀, hc, hn'⟩, .head _, vs, il.at fun o e => (hsb.2 _ ne).trans e, hd _⟩
      | false =>
        rw [z] at l
        obtain ⟨p, mb, us, i, d⟩ := S₁.muts y b es l
        exact ⟨hvar y _ (by simpa using z) p, mb, us, i.at fun o e => (hsb.2 b (list_not_cell i.isList ic)).trans e, d.mono mv.gr⟩) hs
end
end Mine
end
section
open PySem PySem.Spec PySem.Calls PyProof.Rows PySem.W
set_option maxRecDepth 100000
set_option linter.unusedVariables false
namespace Mine
/-- a zip whose tuple is held by somebody -/
abbrev IsZipK (h : Heap) (z TI TO T : Addr) (b : Bool) : Prop :=
  h.get? z = some { cls := .type "zip", dict := none, data := .fields #[rawInt T, .bool b, .bool false, .ref TI, .ref TO], slots := #[] }
section
variable {prog : Program} {w : World} {A : Around} {E : Value → Shared → Prop} {s : Shared}
theorem wp_alive {M : Model} {a : Addr} {Q : Option Obj → Shared → Prop} (h : Q (s.heap.get? a) s) : wpAny M A (loadIfAlive a) Q E s := fun Γ p hΓ => by
  show Sem.wp M Γ (Sem.loadIfAlive a .pure) _ _ p s
  rw [Sem.wp_loadIfAlive, Sem.wp_pure]
  exact h
theorem zipK_busy {z TI TO T : Addr} {b : Bool} {Q : Bool → Shared → Prop} (hz : IsZipK s.heap z TI TO T b) (hT : ∃ o, s.heap.get? T = some o)
    (hQ : ∀ h', IsZipK h' z TI TO T true → Heap.SameBut z s.heap h' → Q false { s with heap := h' }) : wpAny (model prog w) A (Builtin.SmallTypes.ownedTupleIsFree (.ref z)) Q E s := by
  unfold Builtin.SmallTypes.ownedTupleIsFree
  refine wpAny_bind (wpAny_field hz rfl (x := rawInt T) rfl ?_)
  show wpAny _ _ (loadIfAlive (T : Int).toNat >>= _) _ _ s
  refine wpAny_bind (wp_alive ?_)
  obtain ⟨o, ho⟩ := hT
  rw [show ((T : Int).toNat) = T from rfl, ho]
  show wpAny _ _ (field (.ref z) 1 >>= _) _ _ s
  refine wpAny_bind (wpAny_field hz rfl (x := .bool b) rfl ?_)
  cases b with
  | true => exact wpAny_pure (hQ _ hz ⟨rfl, fun _ _ => rfl⟩)
  | false =>
    show wpAny _ _ (setField (.ref z) 1 (.bool true) >>= _) _ _ s
    exact wpAny_bind (wpAny_setField_rec hz (by simp) fun h' hz' hs' => wpAny_pure (hQ h' hz' hs'))
theorem zipK_item {z TI TO i1 i2 l1 l2 T : Addr} {bb : Bool} {k1 k2 : Nat} {xs ys : Array Value} {x y : Value} {Q : Value → Shared → Prop} (D : ZipApart z TI TO i1 i2 l1 l2)
    (hz : IsZipK s.heap z TI TO T bb) (hT : ∃ o, s.heap.get? T = some o) (hTI : IsPair s.heap TI (.ref i1) (.ref i2))
    (h1 : s.heap.IsListIter i1 l1 k1) (h2 : s.heap.IsListIter i2 l2 k2) (hl1 : s.heap.IsList l1 xs) (hl2 : s.heap.IsList l2 ys) (hx : xs[k1]? = some x) (hy : ys[k2]? = some y)
    (hQ : ∀ h', IsZipK h' z TI TO T true → h'.IsListIter i1 l1 (k1 + 1) → h'.IsListIter i2 l2 (k2 + 1) → IsPair h' s.heap.objs.size x y →
      (∀ c o, c ≠ z → c ≠ i1 → c ≠ i2 → s.heap.get? c = some o → h'.get? c = some o) → Q (.ref s.heap.objs.size) { s with heap := h' }) :
    wpAny (model prog w) A (Builtin.«zip.__next__» ⟨[.ref z], []⟩) (fun fin s' => ∃ v, fin = .done (.ret v) ∧ Q v s') E s := by
  show wpAny _ _ (field (.ref z) 2 >>= _) _ _ _
  refine wpAny_bind (wpAny_field hz rfl (x := .bool false) rfl ?_)
  show wpAny _ _ (field (.ref z) 3 >>= _) _ _ _
  refine wpAny_bind (wpAny_field hz rfl (x := .ref TI) rfl ?_)
  refine wpAny_bind (wpAny_seqItems hTI rfl ?_)
  show wpAny _ _ (Builtin.SmallTypes.ownedTupleIsFree (.ref z) >>= _) _ _ _
  refine wpAny_bind (zipK_busy hz hT fun h₁ hz₁ hs₁ => ?_)
  simp only [Bool.false_eq_true, if_false]
  rw [show ForIn.forIn (m := Sem) (#[Value.ref i1, Value.ref i2] : Array Value) = ForIn.forIn (m := Sem) [Value.ref i1, Value.ref i2] from by funext b f; simp]
  simp only [List.forIn_cons, List.forIn_nil]
  refine wpAny_bind (wpAny_bind (wpAny_bind (wpAny_holding ?_)))
  show wpAny _ _ (Builtin.SmallTypes.nextOf (.ref i1) >>= _) _ _ _
  refine wpAny_bind (wpAny_nextOf_list_item (h1.extBut hs₁.extBut D.i1z) (hl1.extBut hs₁.extBut D.l1z) hx fun h₂ h1₂ hs₂ => wpAny_pure (wpAny_pure ?_))
  refine wpAny_bind (wpAny_bind (wpAny_holding ?_))
  show wpAny _ _ (Builtin.SmallTypes.nextOf (.ref i2) >>= _) _ _ _
  refine wpAny_bind (wpAny_nextOf_list_item ((h2.extBut hs₁.extBut D.i2z).extBut hs₂.extBut D.i12.symm) ((hl2.extBut hs₁.extBut D.l2z).extBut hs₂.extBut D.l2i1) hy fun h₃ h2₃ hs₃ => wpAny_pure (wpAny_pure (wpAny_pure ?_)))
  refine wpAny_bind (wpAny_newTuple ?_ (by show 2 ≤ sizeLine; decide))
  have hsz : h₃.objs.size = s.heap.objs.size := by rw [hs₃.1, hs₂.1, hs₁.1]
  have up : ∀ c o, c ≠ z → c ≠ i1 → c ≠ i2 → s.heap.get? c = some o → h₃.get? c = some o := fun c o a b d e => hs₃.extBut _ _ d (hs₂.extBut _ _ b (hs₁.extBut _ _ a e))
  have pu : ∀ c o, h₃.get? c = some o → (h₃.push { cls := .type "tuple", data := .seq #[x, y] }).get? c = some o := fun c o e => Heap.get?_push_of_some _ e
  refine wpAny_pure ⟨_, rfl, ?_⟩
  show Q (.ref h₃.objs.size) _
  have hq := hQ (h₃.push { cls := .type "tuple", data := .seq #[x, y] }) (pu _ _ (hs₃.extBut _ _ D.i2z.symm (hs₂.extBut _ _ D.i1z.symm hz₁))) ((h1₂.extBut hs₃.extBut D.i12).at fun o e => pu _ _ e) (h2₃.at fun o e => pu _ _ e)
    (by rw [← hsz]; exact Heap.get?_push_size _ rfl) (fun c o a b d e => pu _ _ (up c o a b d e))
  rw [← hsz] at hq
  exact hq
theorem zipK_end {z TI TO i1 i2 l1 l2 T : Addr} {bb : Bool} {k1 k2 : Nat} {xs ys : Array Value} {Q : Fin → Shared → Prop} (hh : A.handled = none) (D : ZipApart z TI TO i1 i2 l1 l2)
    (hz : IsZipK s.heap z TI TO T bb) (hT : ∃ o, s.heap.get? T = some o) (hTI : IsPair s.heap TI (.ref i1) (.ref i2))
    (h1 : s.heap.IsListIter i1 l1 k1) (h2 : s.heap.IsListIter i2 l2 k2) (hl1 : s.heap.IsList l1 xs) (hl2 : s.heap.IsList l2 ys) (hend : xs[k1]? = none ∨ ys[k2]? = none)
    (hE : ∀ h' e, (∀ c o, c ≠ z → c ≠ i1 → c ≠ i2 → s.heap.get? c = some o → h'.get? c = some o) → (∃ o, h'.get? e = some o ∧ o.cls = .type "StopIteration") → E (.ref e) { s with heap := h' }) :
    wpAny (model prog w) A (Builtin.«zip.__next__» ⟨[.ref z], []⟩) Q E s := by
  show wpAny _ _ (field (.ref z) 2 >>= _) _ _ _
  refine wpAny_bind (wpAny_field hz rfl (x := .bool false) rfl ?_)
  show wpAny _ _ (field (.ref z) 3 >>= _) _ _ _
  refine wpAny_bind (wpAny_field hz rfl (x := .ref TI) rfl ?_)
  refine wpAny_bind (wpAny_seqItems hTI rfl ?_)
  show wpAny _ _ (Builtin.SmallTypes.ownedTupleIsFree (.ref z) >>= _) _ _ _
  refine wpAny_bind (zipK_busy hz hT fun h₁ hz₁ hs₁ => ?_)
  simp only [Bool.false_eq_true, if_false]
  rw [show ForIn.forIn (m := Sem) (#[Value.ref i1, Value.ref i2] : Array Value) = ForIn.forIn (m := Sem) [Value.ref i1, Value.ref i2] from by funext b f; simp]
  simp only [List.forIn_cons, List.forIn_nil]
  refine wpAny_bind (wpAny_bind (wpAny_bind (wpAny_holding ?_)))
  show wpAny _ _ (Builtin.SmallTypes.nextOf (.ref i1) >>= _) _ _ _
  cases hx : xs[k1]? with
  | none =>
    exact wpAny_bind (wpAny_nextOf_list_end hh (h1.extBut hs₁.extBut D.i1z) (hl1.extBut hs₁.extBut D.l1z) hx fun h₂ e hs₂ he => hE h₂ e (fun c o a b _ q => hs₂ _ _ b (hs₁.extBut _ _ a q)) he)
  | some x =>
    have hy : ys[k2]? = none := by rcases hend with h | h; rw [hx] at h; cases h; exact h
    refine wpAny_bind (wpAny_nextOf_list_item (h1.extBut hs₁.extBut D.i1z) (hl1.extBut hs₁.extBut D.l1z) hx fun h₂ h1₂ hs₂ => wpAny_pure (wpAny_pure ?_))
    refine wpAny_bind (wpAny_bind (wpAny_holding ?_))
    show wpAny _ _ (Builtin.SmallTypes.nextOf (.ref i2) >>= _) _ _ _
    exact wpAny_bind (wpAny_nextOf_list_end hh ((h2.extBut hs₁.extBut D.i2z).extBut hs₂.extBut D.i12.symm) ((hl2.extBut hs₁.extBut D.l2z).extBut hs₂.extBut D.l2i1) hy fun h₃ e hs₃ he => hE h₃ e (fun c o a b d q => hs₃ _ _ d (hs₂.extBut _ _ b (hs₁.extBut _ _ a q))) he)
/-- .. as next() asks it -/
theorem next_zipK_item {z TI TO i1 i2 l1 l2 T : Addr} {bb : Bool} {k1 k2 : Nat} {xs ys : Array Value} {x y : Value} {Q : Option Value → Shared → Prop} (D : ZipApart z TI TO i1 i2 l1 l2)
    (hz : IsZipK s.heap z TI TO T bb) (hT : ∃ o, s.heap.get? T = some o) (hTI : IsPair s.heap TI (.ref i1) (.ref i2))
    (h1 : s.heap.IsListIter i1 l1 k1) (h2 : s.heap.IsListIter i2 l2 k2) (hl1 : s.heap.IsList l1 xs) (hl2 : s.heap.IsList l2 ys) (hx : xs[k1]? = some x) (hy : ys[k2]? = some y)
    (hQ : ∀ h', IsZipK h' z TI TO T true → h'.IsListIter i1 l1 (k1 + 1) → h'.IsListIter i2 l2 (k2 + 1) → IsPair h' s.heap.objs.size x y →
      (∀ c o, c ≠ z → c ≠ i1 → c ≠ i2 → s.heap.get? c = some o → h'.get? c = some o) → Q (some (.ref s.heap.objs.size)) { s with heap := h' }) :
    wpAny (model prog w) A (pyNext (.ref z)) Q E s := by
  have hTy : s.TypeIs (.ref z) "zip" := ⟨_, hz, rfl⟩
  unfold pyNext
  exact wpAny_bind (wpAny_attempt (wpAny_callSpecial?_slot (name := Str.ofString "__next__") hTy F.slot_zip_next
    (wpAny_call_entry F.slot_zip_next hTy F.entry_zip_next
      (zipK_item D hz hT hTI h1 h2 hl1 hl2 hx hy fun h' a1 a3 a4 a5 a7 => wpAny_pure (hQ h' a1 a3 a4 a5 a7)) (F.args_zip_next_1 _))))
theorem next_zipK_end {z TI TO i1 i2 l1 l2 T : Addr} {bb : Bool} {k1 k2 : Nat} {xs ys : Array Value} {Q : Option Value → Shared → Prop} (hh : A.handled = none) (D : ZipApart z TI TO i1 i2 l1 l2)
    (hz : IsZipK s.heap z TI TO T bb) (hT : ∃ o, s.heap.get? T = some o) (hTI : IsPair s.heap TI (.ref i1) (.ref i2))
    (h1 : s.heap.IsListIter i1 l1 k1) (h2 : s.heap.IsListIter i2 l2 k2) (hl1 : s.heap.IsList l1 xs) (hl2 : s.heap.IsList l2 ys) (hend : xs[k1]? = none ∨ ys[k2]? = none)
    (hQ : ∀ h', (∀ c o, c ≠ z → c ≠ i1 → c ≠ i2 → s.heap.get? c = some o → h'.get? c = some o) → Q none { s with heap := h' }) : wpAny (model prog w) A (pyNext (.ref z)) Q E s := by
  have hTy : s.TypeIs (.ref z) "zip" := ⟨_, hz, rfl⟩
  unfold pyNext
  refine wpAny_bind (wpAny_attempt (wpAny_callSpecial?_slot (name := Str.ofString "__next__") hTy F.slot_zip_next
    (wpAny_call_entry F.slot_zip_next hTy F.entry_zip_next (zipK_end hh D hz hT hTI h1 h2 hl1 hl2 hend fun h' e hk he => ?_) (F.args_zip_next_1 _))))
  obtain ⟨o, ho, hc⟩ := he
  refine wpAny_bind (wpAny_isInstance (T := "StopIteration") (b := true) ⟨o, ho, hc⟩ isSubtype_stop ?_)
  exact wpAny_pure (hQ _ hk)
end
end Mine
end
section
open PySem PySem.Spec PySem.Calls PyProof.Rows PySem.W
set_option maxRecDepth 100000
set_option linter.unusedVariables false
namespace Mine
theorem zip_nolen : typeLookup (.type "zip") "__len__" = pure none := by rw [typeLookup_type, builtinLookup_eq_fast]; kernel_rfl
theorem zip_nohint : typeLookup (.type "zip") "__length_hint__" = pure none := by rw [typeLookup_type, builtinLookup_eq_fast]; kernel_rfl
theorem zipD_len : ∀ l l' : List PyData, (zipD l l').length = min l.length l'.length
  | [], _ => by simp [zipD]
  | _ :: _, [] => by simp [zipD]
  | a :: l, b :: l' => by simp [zipD, zipD_len l l']
theorem zipD_snoc : ∀ {l l' : List PyData} {i : Nat} {a b : PyData}, l[i]? = some a → l'[i]? = some b → zipD (l.take (i + 1)) (l'.take (i + 1)) = zipD (l.take i) (l'.take i) ++ [.tuple [a, b]]
  | x :: l, y :: l', 0, a, b, h, h' => by simp at h h'; subst h h'; simp [zipD]
  | x :: l, y :: l', i + 1, a, b, h, h' => by
    have := zipD_snoc (l := l) (l' := l') (i := i) (by simpa using h) (by simpa using h')
    simp only [List.take_succ_cons, zipD, List.cons_append] at this ⊢
    rw [this]
  | [], _, i, a, b, h, _ => by simp at h
  | x :: l, [], i, a, b, _, h' => by simp at h'
theorem zipD_all : ∀ {l l' : List PyData} {i : Nat}, min l.length l'.length ≤ i → zipD (l.take i) (l'.take i) = zipD l l'
  | [], _, i, _ => by simp [zipD]
  | x :: l, [], i, _ => by cases i <;> simp [zipD]
  | x :: l, y :: l', 0, h => by simp at h
  | x :: l, y :: l', i + 1, h => by
    simp only [List.take_succ_cons, zipD]
    rw [zipD_all (l := l) (l' := l') (i := i) (by simp at h; omega)]
/-- the zip's state at its i-th turn -/
def ZS (N ax ay : Addr) (i : Nat) (h : Heap) : Prop := ZipAt (N + 4) .none ax ay N i h ∨ ∃ T b, IsZipK h (N + 4) (N + 2) (N + 3) T b ∧ (∃ o, h.get? T = some o) ∧ IsPair h (N + 2) (.ref N) (.ref (N + 1)) ∧ h.IsListIter N ax i ∧ h.IsListIter (N + 1) ay i
section
variable {prog : Program} {w : World} {A : Around} {E : Value → Shared → Prop} {W : List Addr} {s s₀ : Shared} {env : Env}
theorem ZS.typeIs {N ax ay : Addr} {i : Nat} (x : ZS N ax ay i s.heap) : s.TypeIs (.ref (N + 4)) "zip" := by
  rcases x with Z | ⟨T, b, Z, _⟩
  · exact ⟨_, Z.z, rfl⟩
  · exact ⟨_, Z, rfl⟩
theorem ZS.up {N ax ay : Addr} {i : Nat} {h h' : Heap} (x : ZS N ax ay i h) (k : ∀ b o, h.get? b = some o → b = N ∨ b = N + 1 ∨ b = N + 2 ∨ b = N + 3 ∨ b = N + 4 → h'.get? b = some o) (e : ∀ b, (∃ o, h.get? b = some o) → ∃ o, h'.get? b = some o) : ZS N ax ay i h' := by
  rcases x with ⟨z, ti, ⟨a, b, t⟩, i1, i2⟩ | ⟨T, b, z, al, ti, i1, i2⟩
  · exact .inl ⟨k _ _ z (by simp), k _ _ ti (by simp), ⟨a, b, k _ _ t (by simp)⟩, i1.at fun o e => k _ o e (by simp), i2.at fun o e => k _ o e (by simp)⟩
  · exact .inr ⟨T, b, k _ _ z (by simp), e T al, k _ _ ti (by simp), i1.at fun o e => k _ o e (by simp), i2.at fun o e => k _ o e (by simp)⟩
theorem ZS.item {N ax ay : Addr} {i : Nat} {xs ys : Array Value} {x y : Value} {Q : Option Value → Shared → Prop} (D : ZipApart (N + 4) (N + 2) (N + 3) N (N + 1) ax ay) (Z : ZS N ax ay i s.heap) (il : s.heap.IsList ax xs) (jl : s.heap.IsList ay ys) (hx : xs[i]? = some x) (hy : ys[i]? = some y)
    (hQ : ∀ h', ZS N ax ay (i + 1) h' → IsPair h' s.heap.objs.size x y → (∀ c o, c ≠ N + 4 → c ≠ N + 3 → c ≠ N → c ≠ N + 1 → s.heap.get? c = some o → h'.get? c = some o) → (∀ c, (∃ o, s.heap.get? c = some o) → ∃ o, h'.get? c = some o) → Q (some (.ref s.heap.objs.size)) { s with heap := h' }) :
    wpAny (model prog w) A (pyNext (.ref (N + 4))) Q E s := by
  rcases Z with ⟨z, ti, ⟨a, b, t⟩, i1, i2⟩ | ⟨T, b, z, al, ti, i1, i2⟩
  · refine wpAny_pyNext_zip_item D z ti t i1 i2 il jl hx hy fun h' b1 b2 b3 b4 b5 b6 b7 => ?_
    exact hQ h' (.inr ⟨_, false, b1, ⟨_, b5⟩, b7 _ _ (by simp) (by simp) (by simp) (by simp) ti, b3, b4⟩) b5 (fun c o c1 c2 c3 c4 e => b7 c o c1 c2 c3 c4 e) fun c ⟨o, e⟩ => by
      obtain ⟨o1, e1, _⟩ := b3
      obtain ⟨o2, e2, _⟩ := b4
      by_cases q1 : c = N + 4
      · rw [q1]; exact ⟨_, b1⟩
      by_cases q2 : c = N + 3
      · rw [q2]; exact ⟨_, b2⟩
      by_cases q3 : c = N
      · rw [q3]; exact ⟨_, e1⟩
      by_cases q4 : c = N + 1
      · rw [q4]; exact ⟨_, e2⟩
      exact ⟨o, b7 c o q1 q2 q3 q4 e⟩
  · obtain ⟨oT, hoT⟩ := al
    refine next_zipK_item D z ⟨oT, hoT⟩ ti i1 i2 il jl hx hy fun h' b1 b3 b4 b5 b7 => ?_
    have al' : ∀ c, (∃ o, s.heap.get? c = some o) → ∃ o, h'.get? c = some o := fun c ⟨o, e⟩ => by
      obtain ⟨o1, e1, _⟩ := b3
      obtain ⟨o2, e2, _⟩ := b4
      by_cases q1 : c = N + 4
      · rw [q1]; exact ⟨_, b1⟩
      by_cases q3 : c = N
      · rw [q3]; exact ⟨_, e1⟩
      by_cases q4 : c = N + 1
      · rw [q4]; exact ⟨_, e2⟩
      exact ⟨o, b7 c o q1 q3 q4 e⟩
    exact hQ h' (.inr ⟨T, true, b1, al' T ⟨oT, hoT⟩, b7 _ _ (by simp) (by simp) (by simp) ti, b3, b4⟩) b5 (fun c o c1 c2 c3 c4 e => b7 c o c1 c3 c4 e) al'
theorem ZS.fin {N ax ay : Addr} {i : Nat} {xs ys : Array Value} {Q : Option Value → Shared → Prop} (hh : A.handled = none) (D : ZipApart (N + 4) (N + 2) (N + 3) N (N + 1) ax ay) (Z : ZS N ax ay i s.heap) (il : s.heap.IsList ax xs) (jl : s.heap.IsList ay ys) (he : xs[i]? = none ∨ ys[i]? = none)
    (hQ : ∀ h', (∀ c o, c ≠ N + 4 → c ≠ N + 3 → c ≠ N → c ≠ N + 1 → s.heap.get? c = some o → h'.get? c = some o) → Q none { s with heap := h' }) :
    wpAny (model prog w) A (pyNext (.ref (N + 4))) Q E s := by
  rcases Z with ⟨z, ti, ⟨a, b, t⟩, i1, i2⟩ | ⟨T, b, z, al, ti, i1, i2⟩
  · exact wpAny_pyNext_zip_end hh D z ti t i1 i2 il jl he fun h' b7 => hQ h' fun c o c1 c2 c3 c4 e => b7 c o c1 c2 c3 c4 e
  · exact next_zipK_end hh D z al ti i1 i2 il jl he fun h' b7 => hQ h' fun c o c1 c2 c3 c4 e => b7 c o c1 c3 c4 e
theorem ZS.self {N ax ay : Addr} {i : Nat} {Q : Value → Shared → Prop} (Z : ZS N ax ay i s.heap) (h : Q (.ref (N + 4)) s) : wpAny (model prog w) A (pyIter (.ref (N + 4))) Q E s := by
  have hT : s.TypeIs (.ref (N + 4)) "zip" := Z.typeIs
  refine wpAny_pyIter_slot hT F.slot_zip_iter (wpAny_call_entry F.slot_zip_iter hT F.entry_zip_iter ?_ (F.args_zip_iter_1 _))
  show wpAny _ _ (ret (.ref (N + 4))) _ _ s
  exact wpAny_pure ⟨_, rfl, "zip", _, hT, F.slot_zip_next.lookup, h⟩
structure Lz (N S ax ay : Addr) (U : List Addr) (vs us : List Value) (l l' : List PyData) (i : Nat) (acc : Array Value) (h : Heap) : Prop where
  z : ZS N ax ay i h
  il : (fz U h).IsList ax vs.toArray
  jl : (fz U h).IsList ay us.toArray
  dn : Dens (fz U h) vs l
  en : Dens (fz U h) us l'
  out : Dens (fz U h) acc.toList (zipD (l.take i) (l'.take i))
  at_ : ∃ c, h.get? S = some { cls := .type "list", dict := none, data := .seq acc c, slots := #[] }
  ex : Ex U h
theorem lz_loop {R : Result → Shared → Prop} {N S ax ay : Addr} {U : List Addr} {vs us : List Value} {l l' : List PyData} {res : Value} (hh : A.handled = none) (D : ZipApart (N + 4) (N + 2) (N + 3) N (N + 1) ax ay) (hU : ∀ b, b = S ∨ b = N ∨ b = N + 1 ∨ b = N + 2 ∨ b = N + 3 ∨ b = N + 4 → b ∈ U)
    (hS : S ≠ N ∧ S ≠ N + 1 ∧ S ≠ N + 2 ∧ S ≠ N + 3 ∧ S ≠ N + 4) (hz : min l.length l'.length ≤ sizeLine) : ∀ (k i : Nat) (s : Shared) (acc : Array Value), min l.length l'.length - i = k → i ≤ min l.length l'.length → Lz N S ax ay U vs us l l' i acc s.heap →
    (∀ s' acc', Mx [S, N, N + 1, N + 2, N + 3, N + 4] s s' → Dens (fz U s'.heap) acc'.toList (zipD l l') → (∃ c, s'.heap.get? S = some { cls := .type "list", dict := none, data := .seq acc' c, slots := #[] }) → R (.ok (.ret res)) s') →
    codeAny (model prog w) A (.builtin "list.extend.loop" ⟨[.ref S, .ref (N + 4), res], []⟩) R s := by
  have un : ∀ {b : Addr}, b ∉ U → b ≠ S ∧ b ≠ N ∧ b ≠ N + 1 ∧ b ≠ N + 2 ∧ b ≠ N + 3 ∧ b ≠ N + 4 := fun {b} n => ⟨fun e => n (hU b (.inl e)), fun e => n (hU b (.inr (.inl e))), fun e => n (hU b (.inr (.inr (.inl e)))), fun e => n (hU b (.inr (.inr (.inr (.inl e))))), fun e => n (hU b (.inr (.inr (.inr (.inr (.inl e)))))), fun e => n (hU b (.inr (.inr (.inr (.inr (.inr e))))))⟩
  intro k
  induction k with
  | zero =>
    intro i s acc hk hi I hR
    refine codeAny_builtin F.entry_extend_loop ?_
    rw [Around.under_plainId F.plain_extend_loop _]
    show wpAny _ A.in1 (pyNext (.ref (N + 4)) >>= _) _ _ s
    have he : vs.toArray[i]? = none ∨ us.toArray[i]? = none := by
      have h1 := I.dn.length
      have h2 := I.en.length
      rcases Nat.le_total l.length l'.length with q | q
      · exact .inl (by simp; omega)
      · exact .inr (by simp; omega)
    refine wpAny_bind (I.z.fin hh D (isList_sub I.il) (isList_sub I.jl) he fun h' hk' => ?_)
    obtain ⟨c, hc⟩ := I.at_
    have g : Gr (fz U s.heap) (fz U h') := fun b o e => by
      obtain ⟨e1, e2⟩ := fz_get e
      obtain ⟨n0, n1, n2, n3, n4, n5⟩ := un e2
      exact fz_at (hk' b o n5 n4 n1 n2 e1) e2
    refine wpAny_pure (hR _ acc ⟨h', s.toks, rfl, fun b o n e => ?_⟩ ?_ ⟨c, hk' S _ hS.2.2.2.2 hS.2.2.2.1 hS.1 hS.2.1 hc⟩)
    · simp at n
      exact hk' b o n.2.2.2.2.2 n.2.2.2.2.1 n.2.1 n.2.2.1 e
    · have := I.out.mono g
      rwa [zipD_all (by omega)] at this
  | succ k ih =>
    intro i s acc hk hi I hR
    refine codeAny_builtin F.entry_extend_loop ?_
    rw [Around.under_plainId F.plain_extend_loop _]
    show wpAny _ A.in1 (pyNext (.ref (N + 4)) >>= _) _ _ s
    have hl : i < l.length := by omega
    have hl' : i < l'.length := by omega
    obtain ⟨x, hx, dx⟩ := I.dn.get (List.getElem?_eq_getElem hl)
    obtain ⟨y, hy, dy⟩ := I.en.get (List.getElem?_eq_getElem hl')
    refine wpAny_bind (I.z.item D (isList_sub I.il) (isList_sub I.jl) (by simpa using hx) (by simpa using hy) fun h' Z' hp hk' hex => ?_)
    obtain ⟨c, hc⟩ := I.at_
    have hS' := hk' S _ hS.2.2.2.2 hS.2.2.2.1 hS.1 hS.2.1 hc
    have hsz : acc.size = i := by
      have := I.out.length
      rw [zipD_len] at this
      simp at this
      omega
    have TU : s.heap.objs.size ∉ U := I.ex.fresh
    have g : Gr (fz U s.heap) (fz U h') := fun b o e => by
      obtain ⟨e1, e2⟩ := fz_get e
      obtain ⟨n0, n1, n2, n3, n4, n5⟩ := un e2
      exact fz_at (hk' b o n5 n4 n1 n2 e1) e2
    have ex' : Ex U h' := fun b m => hex b (I.ex b m)
    show wpAny _ A.in1 (updateSeq S (·.push (.ref s.heap.objs.size)) >>= _) _ _ _
    refine wpAny_bind ?_
    have hsb : Heap.SameBut S h' (h'.update S (Obj.mapSeq (·.push (.ref s.heap.objs.size)))) := Heap.SameBut.update ..
    have hat := Heap.get?_update_self (Obj.mapSeq (·.push (Value.ref s.heap.objs.size))) hS' rfl
    have g2 : Gr (fz U h') (fz U (h'.update S (Obj.mapSeq (·.push (.ref s.heap.objs.size))))) := fun b o e => by
      obtain ⟨e1, e2⟩ := fz_get e
      exact fz_at ((hsb.2 b (un e2).1).trans e1) e2
    have ex2 : ∀ b, (∃ o, h'.get? b = some o) → ∃ o, (h'.update S (Obj.mapSeq (·.push (.ref s.heap.objs.size)))).get? b = some o := fun b ⟨o, e⟩ => by
      by_cases q : b = S
      · rw [q]; exact ⟨_, hat⟩
      · exact ⟨o, (hsb.2 b q).trans e⟩
    refine wpAny_updateSeq hS' rfl (wpAny_pure ⟨plainId_quiet F.plain_extend_loop _, ih (i + 1) _ (acc.push (.ref s.heap.objs.size)) (by omega) (by omega) ?_ fun s'' acc' mx d a => hR s'' acc' ?_ d a⟩)
      (by rw [hsz]; omega) (by show (acc.push _).size ≤ sizeLine + 1; rw [Array.size_push, hsz]; omega)
    · refine ⟨Z'.up (fun b o e q => (hsb.2 b ?_).trans e) ex2, (I.il.at fun o e => g2 _ o (g _ o e)), (I.jl.at fun o e => g2 _ o (g _ o e)), (I.dn.mono g).mono g2, (I.en.mono g).mono g2, ?_, ⟨_, hat⟩, fun b m => ex2 b (ex' b m)⟩
      · rcases q with q | q | q | q | q
        · rw [q]; exact hS.1.symm
        · rw [q]; exact hS.2.1.symm
        · rw [q]; exact hS.2.2.1.symm
        · rw [q]; exact hS.2.2.2.1.symm
        · rw [q]; exact hS.2.2.2.2.symm
      · rw [zipD_snoc (List.getElem?_eq_getElem hl) (List.getElem?_eq_getElem hl'), Array.toList_push]
        exact ((I.out.mono g).mono g2).append (.cons (.tuple (vs := [x, y]) ⟨_, g2 _ _ (fz_at hp TU), rfl, _, rfl⟩ (.cons ((dx.mono g).mono g2) (.cons ((dy.mono g).mono g2) (.nil _)))) (.nil _))
    · refine Mx.trans ⟨_, s.toks, rfl, fun b o n e => ?_⟩ mx
      simp at n
      exact (hsb.2 b n.1).trans (hk' b o n.2.2.2.2.2 n.2.2.2.2.1 n.2.1 n.2.2.1 e)
end
end Mine
end
section
open PySem PySem.Spec PySem.Calls PyProof.Rows PySem.W
set_option maxRecDepth 100000
set_option linter.unusedVariables false
namespace Mine
section
variable {prog : Program} {w : World} {A : Around} {E : Value → Shared → Prop} {W : List Addr} {s s₀ : Shared} {env : Env}
theorem nat5 {n s : Nat} (h : n + 4 < s) : (s ≠ n ∧ s ≠ n + 1 ∧ s ≠ n + 2 ∧ s ≠ n + 3 ∧ s ≠ n + 4) ∧ n ≤ s ∧ ¬ s < n := by omega
theorem nat5' (n : Nat) : n ≤ n + 1 ∧ n ≤ n + 2 ∧ n ≤ n + 3 ∧ n ≤ n + 4 := by omega
/-- what stands when a zip over two lists has been made at N .. N + 4 -/
structure Zd (W : List Addr) (N ax ay : Addr) (vs us : List Value) (l l' : List PyData) (h : Heap) : Prop where
  z : ZipAt (N + 4) .none ax ay N 0 h
  x : ax < N
  y : ay < N
  il : (fz W h).IsList ax vs.toArray
  jl : (fz W h).IsList ay us.toArray
  dn : Dens (fz W h) vs l
  en : Dens (fz W h) us l'
  ex : Ex W h
  lo : ∀ b ∈ W, b < N
def zU (S N : Addr) (W : List Addr) : List Addr := S :: N :: (N + 1) :: (N + 2) :: (N + 3) :: (N + 4) :: W
/-- new things are hidden, but what the lists hold is old -/
theorem call_listzip {N ax ay : Addr} {vs us : List Value} {l l' : List PyData} {Q : Value → Shared → Prop} (hh : A.handled = none) (s₁ : Shared) (k₁ : Keeps s₁ s) (hN : s₁.heap.objs.size = N) (z : Zd W N ax ay vs us l l' s.heap) (d1 : Dens (fz W s₁.heap) vs l) (d2 : Dens (fz W s₁.heap) us l') (i1 : (fz W s₁.heap).IsList ax vs.toArray) (i2 : (fz W s₁.heap).IsList ay us.toArray) (hz : min l.length l'.length ≤ sizeLine)
    (hQ : ∀ S s', Keeps s₁ s' → Den (fz W s'.heap) (.ref S) (.list (zipD l l')) → Q (.ref S) s') : wpAny (model prog w) A (call (.type "list") [.ref (N + 4)]) Q E s := by
  have bel : ∀ {b : Addr} {o : Obj}, s.heap.get? b = some o → b < s.heap.objs.size := fun e => Heap.lt_size e
  have hS4 := bel z.z.z
  refine callType_codes (Q₁ := fun obj s₁ => obj = .ref s.heap.objs.size ∧ s₁ = { s with heap := s.heap.push { cls := .type "list", data := .seq #[] } }) F.called_list (F.typeCall_list_1 _) F.entry_list_init
    (code_list_new _ ⟨rfl, rfl⟩) fun obj s₂ h₂ => ?_
  obtain ⟨rfl, rfl⟩ := h₂
  generalize hSe : s.heap.objs.size = S at *
  have hS : (s.heap.push { cls := .type "list", data := .seq #[] }).get? S = some { cls := .type "list", data := .seq #[] } := by rw [← hSe]; exact Heap.get?_push_size _ rfl
  have hW : S ∉ W := fun m => (nat5 hS4).2.2 (z.lo S m)
  have hSN := (nat5 hS4).1
  have hNS : N ≤ S := (nat5 hS4).2.1
  have n5 := nat5' N
  refine ⟨⟨_, hS, rfl⟩, F.args_list_init_2 _ _, ?_⟩
  -- the loop from any heap that has kept all but S
  have key : ∀ (h : Heap) (c tk : Nat), (∀ b o, b ≠ S → s.heap.get? b = some o → h.get? b = some o) → h.get? S = some { cls := .type "list", data := .seq #[] c } →
      codeAny (model prog w) A.in1 (.builtin "list.extend.loop" ⟨[.ref S, .ref (N + 4), .none], []⟩) (wants (fun r s₂ => r = .none ∧ Q (.ref S) s₂) E) { s with heap := h, toks := tk } := by
    intro h c tk hk hc
    have g : Gr (fz W s₁.heap) (fz (zU S N W) h) := fz_more (fun b m => by
      unfold zU at m
      simp only [List.mem_cons] at m
      have nw : ∀ {a : Addr}, N ≤ a → s₁.heap.get? a = none := fun q => new_above _ (by rw [hN]; exact q)
      rcases m with rfl | rfl | rfl | rfl | rfl | rfl | m
      · exact .inr (nw hNS)
      · exact .inr (nw (Nat.le_refl _))
      · exact .inr (nw n5.1)
      · exact .inr (nw n5.2.1)
      · exact .inr (nw n5.2.2.1)
      · exact .inr (nw n5.2.2.2)
      · exact .inl m) fun b o _ e => hk b o (fun q => by
        subst q
        have := Heap.lt_size e
        rw [hN] at this
        exact absurd this (Nat.not_lt.mpr hNS)) (kGr k₁ b o e)
    have I : Lz N S ax ay (zU S N W) vs us l l' 0 #[] h := by
      refine ⟨(ZS.up (h := s.heap) (.inl z.z) (fun b o e q => hk b o ?_ e) fun b ⟨o, e⟩ => ?_), i1.at fun o e => g _ o e, i2.at fun o e => g _ o e, d1.mono g, d2.mono g, by simpa [zipD] using Dens.nil _, ⟨c, hc⟩, fun b m => ?_⟩
      · rcases q with rfl | rfl | rfl | rfl | rfl
        · exact hSN.1.symm
        · exact hSN.2.1.symm
        · exact hSN.2.2.1.symm
        · exact hSN.2.2.2.1.symm
        · exact hSN.2.2.2.2.symm
      · by_cases q : b = S
        · rw [q]; exact ⟨_, hc⟩
        · exact ⟨o, hk b o q e⟩
      · have old : ∀ b, b ≠ S → (∃ o, s.heap.get? b = some o) → ∃ o, h.get? b = some o := fun b q ⟨o, e⟩ => ⟨o, hk b o q e⟩
        obtain ⟨o1, e1, _⟩ := z.z.i1
        obtain ⟨o2, e2, _⟩ := z.z.i2
        obtain ⟨_, _, e3⟩ := z.z.to
        unfold zU at m
        simp only [List.mem_cons] at m
        rcases m with rfl | rfl | rfl | rfl | rfl | rfl | m
        · exact ⟨_, hc⟩
        · exact old _ hSN.1.symm ⟨_, e1⟩
        · exact old _ hSN.2.1.symm ⟨_, e2⟩
        · exact old _ hSN.2.2.1.symm ⟨_, z.z.ti⟩
        · exact old _ hSN.2.2.2.1.symm ⟨_, e3⟩
        · exact old _ hSN.2.2.2.2.symm ⟨_, z.z.z⟩
        · exact old _ (fun q => hW (q ▸ m)) (z.ex b m)
    refine lz_loop (A := A.in1) hh (zipApart z.x z.y) (fun b q => ?_) hSN hz _ 0 _ #[] rfl (Nat.zero_le _) I fun s' acc' mx d a => ?_
    · unfold zU
      simp only [List.mem_cons]
      rcases q with q | q | q | q | q | q <;> simp [q]
    · refine ⟨rfl, hQ S s' ?_ ?_⟩
      · have m1 : Mx (S :: [N, N + 1, N + 2, N + 3, N + 4]) s₁ { s with heap := h, toks := tk } := (Mx.of (Mv.of k₁)).trans ⟨h, tk, rfl, fun b o n e => hk b o (by simp at n; exact n.1) e⟩
        refine (m1.trans mx).toKeeps fun b m => new_above _ ?_
        rw [hN]
        simp only [List.mem_cons, List.not_mem_nil, or_false] at m
        rcases m with rfl | rfl | rfl | rfl | rfl | rfl
        · exact hNS
        · exact Nat.le_refl _
        · exact n5.1
        · exact n5.2.1
        · exact n5.2.2.1
        · exact n5.2.2.2
      · obtain ⟨c', hc'⟩ := a
        exact .list (vs := acc'.toList) ⟨_, fz_at hc' hW, rfl, c', by simp⟩ (d.mono (fz_less _ fun b m => by unfold zU; simp [m]))
  show wpAny _ _ (do let old ← Builtin.List.listItems (.ref S); Builtin.List.listUpdate (.ref S) (fun _ => #[]); letGo old.toList.reverse; Builtin.List.listExtendWith (.ref S) (.ref (N + 4)) .none) _ _ _
  refine wpAny_bind ?_
  unfold Builtin.List.listItems
  refine wpAny_bind (wpAny_seqItems hS rfl (wpAny_pure ?_))
  show wpAny _ _ (updateSeq S (fun _ => #[]) >>= fun _ => letGo (#[] : Array Value).toList.reverse >>= fun _ => Builtin.List.listExtendWith (.ref S) (.ref (N + 4)) .none) _ _ _
  refine wpAny_bind (wpAny_updateSeq hS rfl ?_)
  have hS₂ := Heap.get?_update_self (Obj.mapSeq (fun _ => (#[] : Array Value))) hS rfl
  have oth : ∀ b o, b ≠ S → s.heap.get? b = some o → ((s.heap.push { cls := .type "list", data := .seq #[] }).update S (Obj.mapSeq (fun _ => (#[] : Array Value)))).get? b = some o :=
    fun b o hb e => (Heap.get?_update_other _ _ (Ne.symm hb)).trans (Heap.get?_push_of_some _ e)
  refine wpAny_bind (wpAny_letGo ?_)
  have hzz := oth (N + 4) _ hSN.2.2.2.2.symm z.z.z
  unfold Builtin.List.listExtendWith
  refine wpAny_bind (wpAny_typeOf (T := "zip") ⟨_, hzz, rfl⟩ ?_)
  have h1 : Builtin.List.listSameRef (.ref S) (.ref (N + 4)) = false := by simp [Builtin.List.listSameRef, hSN.2.2.2.2]
  have h2 : (Value.type "zip" == Value.type "list") = false := by decide
  have h3 : (Value.type "zip" == Value.type "tuple") = false := by decide
  simp only [h1, h2, h3, Bool.or_false, Bool.false_eq_true, if_false]
  refine wpAny_bind (wpAny_pyIter_zip hzz ?_)
  refine wpAny_bind (wpAny_holding ?_)
  unfold Builtin.List.listLengthHint
  refine wpAny_bind (wpAny_specialOf ⟨_, hzz, rfl⟩ zip_nolen ?_)
  show wpAny _ _ (specialOf (Value.ref (N + 4)) (Str.ofString "__length_hint__") >>= _) _ _ _
  refine wpAny_bind (wpAny_specialOf ⟨_, hzz, rfl⟩ zip_nohint ?_)
  refine wpAny_pure ?_
  show wpAny _ _ (rule "list.extend.makes-room" >>= fun _ => Builtin.List.listTouch (.ref S) >>= fun _ =>
    again (.builtin "list.extend.loop" ⟨[.ref S, .ref (N + 4), .none], []⟩)) _ _ _
  refine wpAny_bind (wpAny_rule ?_)
  refine wpAny_bind ?_
  show wpAny _ _ (updateSeq S (·.push .none) >>= fun _ => updateSeq S (·.pop)) _ _ _
  refine wpAny_bind (wpAny_updateSeq hS₂ rfl ?_)
  have hS₃ := Heap.get?_update_self (Obj.mapSeq (·.push Value.none)) hS₂ rfl
  refine wpAny_updateSeq (hz := by seq_fits) hS₃ rfl ?_
  have hS₄ := Heap.get?_update_self (Obj.mapSeq (·.pop)) hS₃ rfl
  refine wpAny_pure ⟨plainId_quiet F.plain_extend_loop _, key _ _ _ (fun b o hb e => ?_) hS₄⟩
  exact (Heap.get?_update_other _ _ (Ne.symm hb)).trans ((Heap.get?_update_other _ _ (Ne.symm hb)).trans (oth b o hb e))
/-- list(zip(v, v')) -/
theorem ev_listzip {v v' : Expr} {x y : Str} {p q pos pos' : Pos} {l l' : List PyData} (hh : A.handled = none) (X : Ex W s₀.heap) (hx : Is prog w A s₀ (eval (.Name x p) env) (.type "list")) (hy : Is prog w A s₀ (eval (.Name y q) env) (.type "zip")) (hv : Ev prog w A W s₀ (eval v env) (.list l)) (hv' : Ev prog w A W s₀ (eval v' env) (.list l')) (hz : min l.length l'.length ≤ sizeLine)
    (hs : starEach [.Call (.Name y q) [v, v'] [] pos] env = [(false, eval (.Call (.Name y q) [v, v'] [] pos) env)] := by rfl) (hs' : starEach [v, v'] env = [(false, eval v env), (false, eval v' env)] := by rfl) :
    Ev prog w A W s₀ (eval (.Call (.Name x p) [.Call (.Name y q) [v, v'] [] pos] [] pos') env) (.list (zipD l l')) := .mk fun E s k =>
  Call_Name1 (hx.nest k fun f s₁ k₁ ev => by
    subst ev
    refine callWith_any (first := []) (s := s₁) (f := .type "list") trivial rfl (spliced_cons (wp_call2 hy trivial hv hv' (kTrans k k₁) (fun a b s₂ k₂ pa pb => ?_) hs'))
    obtain ⟨ax, vs, rfl, il, dn⟩ := pa.isList
    obtain ⟨ay, us, rfl, jl, en⟩ := pb.isList
    have lx : ax < s₂.heap.objs.size := by obtain ⟨o, e, _⟩ := isList_sub il; exact Heap.lt_size e
    have ly : ay < s₂.heap.objs.size := by obtain ⟨o, e, _⟩ := isList_sub jl; exact Heap.lt_size e
    refine call_zip_2 (isList_sub il) (isList_sub jl) fun h' a1 a2 a3 a4 a5 a6 a7 => spliced_nil ⟨fun b o e => a7 b o (kGr k₂ b o e), ?_⟩
    have X₂ : Ex W s₂.heap := X.mono (kGr (kTrans k (kTrans k₁ k₂)))
    have gg : Gr (fz W s₂.heap) (fz W h') := fz_gr a7
    refine call_listzip hh s₂ ⟨h', s₂.toks, rfl, a7⟩ rfl ⟨⟨a1, a2, ⟨_, _, a3⟩, a4, a5⟩, lx, ly, il.at fun o e => gg _ o e, jl.at fun o e => gg _ o e, dn.mono gg, en.mono gg, X₂.mono a7, fun b m => by obtain ⟨o, e⟩ := X₂ b m; exact Heap.lt_size e⟩ dn en il jl hz fun S s' K d => ⟨kTrans k₁ (kTrans k₂ K), d⟩) hs
end
end Mine
end
section
open PySem PySem.Spec PySem.Calls PyProof.Rows PySem.W
set_option maxRecDepth 100000
set_option linter.unusedVariables false
namespace Mine
section
variable {prog : Program} {w : World} {A : Around} {E : Value → Shared → Prop} {W W' V own : List Addr} {s s₀ : Shared} {env : Env} {σ σf : Sig} {ρ : Rho} {scope : Scope} {cl : List (Str × Addr)}
/-- a comprehension's frame with cells of its own -/
theorem wp_newEnvC {M : Model} {qual : Str} {Q : Env → Shared → Prop}
    (hQ : Q { scope, locals := s.heap.objs.size, globals := env.globals, cells := cellsFrom (s.heap.objs.size + 1) scope.names cl, qual := qual, func := none, code := env.code, frame := env.frame, builtins := env.builtins }
      { s with heap := pushCells (s.heap.push { cls := .type "dict", data := .dict #[] }) scope.names }) :
    wpAny M A (newFunctionEnv scope env.globals cl [] qual none .none (some env)) Q E s := by
  simp only [newFunctionEnv, Option.isSome_some, if_true]
  refine wpAny_bind (wpAny_alloc ?_)
  refine wpAny_bind (wpAny_layCells _ (fun name kind cells => by cases hkc : kind == NameKind.cell <;> simp) _ _ _ _ ?_)
  rw [show ({ s with heap := s.heap.push { cls := .type "dict", data := .dict #[] } } : Shared).heap.objs.size = s.heap.objs.size + 1 from Heap.size_push ..]
  simp only [List.forIn_nil]
  exact wpAny_bind (wpAny_pure (wpAny_pure hQ))
theorem comp1C {x₀ : Str} {p₀ : Pos} {elt iter : Expr} {pos pos' : Pos} {use : Option (Value → Sem Unit)} {l : List PyData} {Q : Value → Shared → Prop} (ok : EnvOk env W) (S : St env W σ ρ s) (c : CompOk env scope cl σ σf)
    (hcf : ∀ n, cellsFrom n scope.names cl = (x₀, n) :: cl) (hpc : ∀ h, pushCells h scope.names = h.push { cls := .type "cell", data := .cell none }) (hk₀ : (relabel scope env).names.lookup x₀ = some .cell) (hσ₀ : σf.lookup x₀ = none)
    (hsrc : Src prog w A W s (eval iter env) (.Name x₀ p₀) l) (hz : l.length ≤ sizeLine) (f : PyData → PyData)
    (helt : ∀ C W' d s', d ∈ l → Keeps s s' → EnvOk (compEnvC scope ((x₀, C + 1) :: cl) C env) W' → St (compEnvC scope ((x₀, C + 1) :: cl) C env) W' ((x₀, d) :: σf) [] s' → Ev prog w A W' s' (eval elt (compEnvC scope ((x₀, C + 1) :: cl) C env)) (f d))
    (h : Filled prog w A E W s use Q (l.map f)) (hs : ∀ x, foldedSetIterable iter env x = pure x := by intro _; rfl) :
    wpAny (model prog w) A (comprehension (.ListComp elt [⟨.Name x₀ p₀, iter, [], 0⟩] scope pos) scope env pos' (newList []) false (eval iter env) use) Q E s := by
  refine wpAny_comprehension_free (use := use) rfl hs c.clos c.kind c.names (hsrc.run E s _ (kRefl s) fun it own s₂ k₂ hn ho hit => ?_)
  refine wpAny_newObj_type (wp_newEnvC ?_)
  rw [hpc, hcf]
  have exW : Ex W s.heap := S.ex
  show codeAny (model prog w) A (.compStart _ 0 it (.ref s₂.heap.objs.size) (compEnvC scope ((x₀, (s₂.heap.push { cls := .type "list", dict := none, data := .seq ([] : List Value).toArray }).objs.size + 1) :: cl) (s₂.heap.push { cls := .type "list", dict := none, data := .seq ([] : List Value).toArray }).objs.size env)) _ _
  have sz : (s₂.heap.push { cls := .type "list", dict := none, data := .seq ([] : List Value).toArray }).objs.size = s₂.heap.objs.size + 1 := Heap.size_push ..
  have sz2 : ((s₂.heap.push { cls := .type "list", dict := none, data := .seq ([] : List Value).toArray }).push { cls := .type "dict", data := .dict #[] }).objs.size = s₂.heap.objs.size + 1 + 1 := by rw [Heap.size_push, sz]
  have hns : (((s₂.heap.push { cls := .type "list", dict := none, data := .seq ([] : List Value).toArray }).push { cls := .type "dict", data := .dict #[] }).push { cls := .type "cell", data := .cell none }).Ns (s₂.heap.objs.size + 1) (fun _ => none) := by
    have := Heap.Ns.new (s₂.heap.push { cls := .type "list", dict := none, data := .seq ([] : List Value).toArray }) (.type "dict")
    rw [sz] at this
    exact this.keeps fun b o e => Heap.get?_push_of_some _ e
  have hcc : (((s₂.heap.push { cls := .type "list", dict := none, data := .seq ([] : List Value).toArray }).push { cls := .type "dict", data := .dict #[] }).push { cls := .type "cell", data := .cell none }).IsCell (s₂.heap.objs.size + 1 + 1) none := ⟨_, by rw [← sz2]; exact Heap.get?_push_size _ rfl, rfl⟩
  have hacc : (((s₂.heap.push { cls := .type "list", dict := none, data := .seq ([] : List Value).toArray }).push { cls := .type "dict", data := .dict #[] }).push { cls := .type "cell", data := .cell none }).IsList s₂.heap.objs.size (#[] : Array Value) := ⟨_, Heap.get?_push_of_some _ (Heap.get?_push_of_some _ (Heap.get?_push_size _ rfl)), rfl, _, rfl⟩
  have old : Gr s₂.heap (((s₂.heap.push { cls := .type "list", dict := none, data := .seq ([] : List Value).toArray }).push { cls := .type "dict", data := .dict #[] }).push { cls := .type "cell", data := .cell none }) := fun b o e => Heap.get?_push_of_some _ (Heap.get?_push_of_some _ (Heap.get?_push_of_some _ e))
  rw [sz]
  generalize ((s₂.heap.push { cls := .type "list", dict := none, data := .seq ([] : List Value).toArray }).push { cls := .type "dict", data := .dict #[] }).push { cls := .type "cell", data := .cell none } = h₁ at *
  have nD : s₂.heap.get? s₂.heap.objs.size = none := new_above _ (Nat.le_refl _)
  have nC : s₂.heap.get? (s₂.heap.objs.size + 1) = none := new_above _ (Nat.le_succ _)
  have nF : s₂.heap.get? (s₂.heap.objs.size + 1 + 1) = none := new_above _ (Nat.le_succ_of_le (Nat.le_succ _))
  have hDC : s₂.heap.objs.size ≠ s₂.heap.objs.size + 1 := Nat.ne_of_lt (Nat.lt_succ_self _)
  have hDF : s₂.heap.objs.size ≠ s₂.heap.objs.size + 1 + 1 := Nat.ne_of_lt (Nat.lt_succ_of_lt (Nat.lt_succ_self _))
  have hCF : s₂.heap.objs.size + 1 ≠ s₂.heap.objs.size + 1 + 1 := Nat.ne_of_lt (Nat.lt_succ_self _)
  generalize hFe : s₂.heap.objs.size + 1 + 1 = F at *
  generalize hCe : s₂.heap.objs.size + 1 = C at *
  generalize hDe : s₂.heap.objs.size = D at *
  have up : ∀ b, s₂.heap.get? b = none → s.heap.get? b = none := fun b e => isNone_of_gr (kGr k₂) e
  have offO : ∀ b, s₂.heap.get? b = none → b ∉ own := fun b e m => by obtain ⟨o, q⟩ := ho b m; rw [e] at q; cases q
  have offW : ∀ b, s₂.heap.get? b = none → b ∉ W := fun b e m => by obtain ⟨o, q⟩ := exW b m; rw [up b e] at q; cases q
  have oW : ∀ b ∈ own, b ∉ W := fun b m q => by obtain ⟨o, e⟩ := exW b q; rw [hn b m] at e; cases e
  have k₄ : Keeps s₂ { s₂ with heap := h₁ } := ⟨_, _, rfl, old⟩
  have hx : Ex (C :: F :: D :: (own ++ W)) h₁ := fun b m => by
    simp only [List.mem_cons, List.mem_append] at m
    rcases m with rfl | rfl | rfl | m | m
    · obtain ⟨o, _, _, e, _⟩ := hns; exact ⟨o, e⟩
    · obtain ⟨o, e, _⟩ := hcc; exact ⟨o, e⟩
    · obtain ⟨o, e, _⟩ := hacc; exact ⟨o, e⟩
    · obtain ⟨o, e⟩ := ho b m; exact ⟨o, old b o e⟩
    · obtain ⟨o, e⟩ := exW b m; exact ⟨o, old b o (kGr k₂ b o e)⟩
  have hCV : ∀ b ∈ [C, F, D], s₂.heap.get? b = none := fun b m => by
    simp only [List.mem_cons, List.not_mem_nil, or_false] at m
    rcases m with rfl | rfl | rfl <;> assumption
  obtain ⟨Sx, I, hS⟩ := hit (C :: F :: D :: (own ++ W)) [C, F, D] { s₂ with heap := h₁ } (fun b m => by simp [m]) (fun b m => by simp at m; rcases m with rfl | rfl | rfl <;> simp) (fun b m q => offO b (hCV b q) m) (fun b m => by
      simp only [List.mem_cons, List.mem_append] at m
      rcases m with rfl | rfl | rfl | m | m
      · exact .inr (.inr nC)
      · exact .inr (.inr nF)
      · exact .inr (.inr nD)
      · exact .inl m
      · exact .inr (.inl m)) k₄
  have newAll : ∀ b ∈ C :: F :: D :: own, s.heap.get? b = none := fun b m => by
    simp only [List.mem_cons] at m
    rcases m with rfl | rfl | rfl | m
    · exact up _ nC
    · exact up _ nF
    · exact up _ nD
    · exact hn b m
  -- the frame
  have cellAt : ∀ y a, (compEnvC scope ((x₀, F) :: cl) C env).cells.lookup y = some a → (y = x₀ ∧ a = F) ∨ (y ≠ x₀ ∧ cl.lookup y = some a) := fun y a l => by
    have l : List.lookup y ((x₀, F) :: cl) = some a := l
    rw [List.lookup_cons] at l
    cases z : y == x₀ with
    | true => rw [z] at l; cases l; exact .inl ⟨eq_of_beq z, rfl⟩
    | false => rw [z] at l; exact .inr ⟨by simpa using z, l⟩
  have cellW : ∀ y a, y ≠ x₀ → (compEnvC scope ((x₀, F) :: cl) C env).cells.lookup y = some a → a ∈ W := fun y a n l => by
    rcases cellAt y a l with ⟨q, _⟩ | ⟨_, l⟩
    · exact absurd q n
    · exact ok.cell y a (c.sub y a l)
  have FW := offW _ nF
  have CW := offW _ nC
  have DW := offW _ nD
  have okc : EnvOk (compEnvC scope ((x₀, F) :: cl) C env) (C :: F :: D :: (own ++ W)) := by
    refine ⟨c.kind, .head _, fun y a l => ?_, fun y z a l l' => ?_, fun y a l => ?_⟩
    · rcases cellAt y a l with ⟨_, rfl⟩ | ⟨_, l⟩
      · simp
      · have := ok.cell y a (c.sub y a l); simp [this]
    · rcases cellAt y a l with ⟨e1, e2⟩ | ⟨_, q⟩ <;> rcases cellAt z a l' with ⟨e3, e4⟩ | ⟨_, q'⟩
      · rw [e1, e3]
      · exact absurd (ok.cell z _ (c.sub z _ q')) (e2 ▸ FW)
      · exact absurd (ok.cell y _ (c.sub y _ q)) (e4 ▸ FW)
      · exact ok.apart y z a (c.sub y a q) (c.sub z a q')
    · rcases cellAt y a l with ⟨_, rfl⟩ | ⟨_, l⟩
      · exact hCF.symm
      · intro e
        have e : a = C := e
        exact CW (e ▸ ok.cell y a (c.sub y a l))
  have St0 : St (compEnvC scope ((x₀, F) :: cl) C env) (C :: F :: D :: (own ++ W)) σf [] { s₂ with heap := h₁ } := by
    obtain ⟨m, S⟩ := S
    refine ⟨_, hns, fun y a l => ?_, hx, fun y d l => ?_, fun y a ds l => by cases l⟩
    · rcases cellAt y a l with ⟨_, rfl⟩ | ⟨_, l⟩
      · exact ⟨_, hcc⟩
      · obtain ⟨v, i⟩ := S.cells y a (c.sub y a l); exact ⟨v, i.keeps (kGr (kTrans k₂ k₄))⟩
    · obtain ⟨l', q, z, e⟩ := c.free y d l
      obtain ⟨v, a, b⟩ := S.vars y d l'
      refine ⟨v, ?_, b.mono (fz_more (fun b m => ?_) fun b o _ e => kGr (kTrans k₂ k₄) b o e)⟩
      · rcases a with ⟨q', _⟩ | ⟨_, a, la, i⟩
        · rcases q with q | q <;> (rw [q] at q'; cases q')
        · refine .inr ⟨z, a, ?_, i.keeps (kGr (kTrans k₂ k₄))⟩
          show List.lookup y ((x₀, F) :: cl) = some a
          rw [List.lookup_cons]
          cases zz : y == x₀ with
          | true => rw [eq_of_beq zz, hσ₀] at l; cases l
          | false => exact e.trans la
      · simp only [List.mem_cons, List.mem_append] at m
        rcases m with rfl | rfl | rfl | m | m
        · exact .inr (up _ nC)
        · exact .inr (up _ nF)
        · exact .inr (up _ nD)
        · exact .inr (hn b m)
        · exact .inl m
  have okS : Sto (compEnvC scope ((x₀, F) :: cl) C env) x₀ F := .inr ⟨hk₀, by show List.lookup x₀ ((x₀, F) :: cl) = some F; simp⟩
  have notCell : ∀ {V : List Addr}, (∀ b ∈ V, b ∉ W) → F ∉ V → ∀ y a, (compEnvC scope ((x₀, F) :: cl) C env).cells.lookup y = some a → a ∉ V := fun hv hf y a l q => by
    rcases cellAt y a l with ⟨_, rfl⟩ | ⟨_, l⟩
    · exact hf q
    · exact hv a q (ok.cell y a (c.sub y a l))
  have loop : codeAny (model prog w) A (.compLoop (.ListComp elt [⟨.Name x₀ p₀, iter, [], 0⟩] scope pos) 0 it (.ref D) (compEnvC scope ((x₀, F) :: cl) C env)) (compPost (model prog w) A E use Q (.ref D) C) { s₂ with heap := h₁ } := by
    refine comp_loop (turn_list ..) I (fun r s' => Mv (C :: F :: D :: own) { s₂ with heap := h₁ } s' ∧ St (compEnvC scope ((x₀, F) :: cl) C env) (C :: F :: D :: (own ++ W)) σf [] s' ∧ (∀ d ∈ r, d ∈ l) ∧ ∃ out, Acc (C :: F :: D :: (own ++ W)) s'.heap D out ∧ out ++ r.map f = l.map f) ?_ ?_ ?_ hx hS ⟨Mv.refl _ _, St0, fun _ m => m, [], ⟨[], hacc, .nil _⟩, rfl⟩
    · rintro r a b ⟨m, T, hr, out, ac, e⟩ mv
      refine ⟨m.trans (mv.wide fun b q => by simp [q]), T.but mv (fun b q => by simp [q]) (offO _ nC) (notCell oW (offO _ nF)) (fun y a ds l => by cases l), hr, out, ac.but mv (fun b q => by simp [q]) (offO _ nD), e⟩
    · rintro d r v a E' hxa ⟨m, T, hr, out, ac, e⟩ dv
      have hd : d ∈ l := hr d (.head _)
      refine wpAny_assign_Name (store_any okc T okS dv rfl fun b mb Tb => ?_)
      have kb : Keeps s b := by
        have : Mx (C :: F :: D :: own) s b := (Mx.of (Mv.of (kTrans k₂ k₄))).trans (Mx.of (m.trans (mb.wide fun b q => by rw [mem1 q]; simp)))
        exact this.toKeeps newAll
      have acb : Acc (C :: F :: D :: (own ++ W)) b.heap D out := ac.but mb (fun b q => by rw [mem1 q]; simp) (by simpa using hDF)
      have len : out.length ≤ sizeLine := by
        have := congrArg List.length e
        simp at this
        omega
      have hFC : C + 1 = F := hFe
      have he := helt C (C :: F :: D :: (own ++ W)) d b hd kb (by rw [hFC]; exact okc) (by rw [hFC]; exact Tb)
      rw [hFC] at he
      refine turn_emit (b := true) (d := f d) (by simp) acb tests_nil (fun _ => he) len fun s₅ s₆ k5 m6 ac6 => ?_
      have m56 : Mv [C, F, D] a s₆ := (mb.wide fun b q => by rw [mem1 q]; simp).trans ((Mv.of k5).trans (m6.wide fun b q => by rw [mem1 q]; simp))
      refine ⟨m56, m.trans (m56.wide fun b q => by simp at q; rcases q with rfl | rfl | rfl <;> simp), ?_, fun y q => hr y (.tail _ q), _, ac6, ?_⟩
      · refine ((Tb.keeps k5).but m6 (fun b q => by rw [mem1 q]; simp) (fun q => hDC (mem1 q).symm) (notCell (fun b q => by rw [mem1 q]; exact DW) (fun q => hDF (mem1 q).symm)) (fun y a ds l => by cases l)).less (fun y e l => ?_) fun y e l => by cases l
        rw [List.lookup_cons]
        cases zz : y == x₀ with
        | true => rw [eq_of_beq zz, hσ₀] at l; cases l
        | false => exact l
      · rw [← e, List.append_assoc]
        simp
    · rintro a b ⟨m, ⟨m', T⟩, hr, out, ⟨vs, il, dn⟩, e⟩ mx
      have ks : Keeps s b := by
        have : Mx (C :: F :: D :: own) s b := ((Mx.of (Mv.of (kTrans k₂ k₄))).trans (Mx.of m)).trans (mx.wide fun b q => by simp [q])
        exact this.toKeeps newAll
      refine h D C b ks ⟨m', T.ns.at' fun o e => mx.at (offO _ nC) e⟩ (up _ nC) (up _ nD) (Ne.symm hDC) ?_
      simp at e
      rw [← e]
      refine .list (vs := vs) ?_ (dn.mono fun b o e => ?_)
      · obtain ⟨o, e, r⟩ := il
        exact ⟨o, fz_at (mx.at (offO _ nD) e) (by simpa using ⟨hDC, DW⟩), r⟩
      · obtain ⟨e1, e2⟩ := fz_get e
        simp at e2
        exact fz_at (mx.at e2.2.2.2.1 e1) (by simpa using ⟨e2.1, e2.2.2.2.2⟩)
  exact codeAny_compStart_list loop (I.self l _ _ _ hS loop)
end
end Mine
end
section
open PySem PySem.Spec PySem.Calls PyProof.Rows PySem.W
set_option maxRecDepth 100000
set_option linter.unusedVariables false
namespace Mine
abbrev lenv (pm cd doc : Value) (L a : Addr) : Env := callEnvC (fdAt 14 pm cd doc) L a
abbrev lbody : List Stmt := bodyOf (defAt 14)
def t1 : PyData → PyData | .tuple [a, _] => a | _ => .none
def t2 : PyData → PyData | .tuple [_, b] => b | _ => .none
theorem enu_mem : ∀ {l : List PyData} {i : Int} {d : PyData}, d ∈ enu i l → ∃ (k : Nat) (y : PyData), d = .tuple [.int (i + k), y] ∧ l[k]? = some y
  | [], i, d, m => by cases m
  | y :: l, i, d, m => by
    rcases List.mem_cons.mp m with rfl | m
    · exact ⟨0, y, by simp, rfl⟩
    · obtain ⟨k, y', e, q⟩ := enu_mem m
      exact ⟨k + 1, y', by rw [e]; congr 3; omega, by simpa using q⟩
def pickI (ns : List Int) (lo hi st : Option Int) : List Int :=
  (sliceRange (sliceBounds lo hi st ns.length).1 (sliceBounds lo hi st ns.length).2.1 (sliceBounds lo hi st ns.length).2.2).filterMap (ns[·]?)
theorem pick_ints (ns : List Int) (lo hi st : Option Int) : pick (ns.map .int) lo hi st = (pickI ns lo hi st).map .int := by
  unfold pick pickI
  rw [List.length_map]
  generalize sliceRange _ _ _ = is
  induction is with
  | nil => rfl
  | cons i is ih =>
    rw [List.filterMap_cons, List.filterMap_cons, List.getElem?_map]
    cases ns[i]? with
    | none => exact ih
    | some n => exact congrArg (PyData.int n :: ·) ih
inductive Sc (env : Env) : List (Str × Addr) → Prop
  | nil : Sc env []
  | cons {x : Str} {c : Addr} {r : List (Str × Addr)} (h : env.cells.lookup x = some c) (q : Sc env r) : Sc env ((x, c) :: r)
theorem Sc.get {env : Env} : ∀ {cl : List (Str × Addr)}, Sc env cl → ∀ x c, cl.lookup x = some c → env.cells.lookup x = some c
  | _, .nil, y, d, l => by cases l
  | _, .cons (x := x) h q, y, d, l => by
      rw [List.lookup_cons] at l
      cases z : y == x with
      | true => rw [z] at l; cases l; rw [eq_of_beq z]; exact h
      | false => rw [z] at l; exact q.get y d l
theorem mkComp {env : Env} {scope : Scope} {cl : List (Str × Addr)} {σ σf : Sig} (clos : closureFor scope env = pure cl) (kind : scope.kind = .function) (names : ∀ x ∈ scope.names, x.2 = .local → scope.names.lookup x.1 = some .local) (sub : Sc env cl) (free : Fs env scope cl σ σf) : CompOk env scope cl σ σf :=
  ⟨clos, kind, names, sub.get, free.get⟩
def bases : List Int := [51242, 20, 99718, 145319, 41664, 1]
def menuH : List Int := [0, 1, 24, 99]
section
variable {prog : Program} {w : World} {A : Around} {E : Value → Shared → Prop} {W : List Addr} {s s₀ s₁ : Shared} {mg mb : Str → Option Value} {pm cd doc : Value} {L a : Addr}
theorem ev_itemT {env : Env} {v i : Expr} {pos : Pos} {ds : List PyData} {k : Int} {d : PyData} (hv : Ev prog w A W s₀ (eval v env) (.tuple ds)) (hi : Ev prog w A W s₀ (eval i env) (.int k)) (h0 : 0 ≤ k) (h1 : k < ds.length) (h2 : k < 2 ^ 62) (hd : ds[k.toNat]? = some d)
    (hs : ∀ l u, subscripted i false (.ref l) (.int k u) = operate [.ref l, .int k u] (getItem (.ref l) (.int k u)) := by intro _ _; with_unfolding_all rfl) : Ev prog w A W s₀ (eval (.Subscript v i pos) env) d := .mk fun _ s q =>
  Subscript_ (hv.nest q fun x s₁ k₁ px => hi.nest (kTrans q k₁) fun y s₂ k₂ py => by
    obtain ⟨l, vs, rfl, il, dn⟩ := (px.mono (fz_gr (kGr k₂))).isTuple
    obtain ⟨u, rfl⟩ := py.isInt
    obtain ⟨z, hz, dz⟩ := dn.get hd
    have it : IsTup s₂.heap l vs.toArray := isTuple_sub il
    refine item_tupleT (j := k.toNat) it (by omega) (by omega) (seqIndex_of h0 (by rw [dn.length]; exact h1)) hz ⟨kTrans k₁ k₂, dz⟩ (hs l u))
structure LC (prog : Program) (w : World) (A : Around) (W : List Addr) (s₀ : Shared) (mg mb : Str → Option Value) (pm cd doc : Value) (L a : Addr) : Prop where
  lt : Lt 1 A
  T : Tp mg mb s₀.heap
  Z : Tz prog w mg s₀.heap
  ok : EnvOk (lenv pm cd doc L a) (ownC 14 L ++ W)
  fresh : ∀ b ∈ ownC 14 L, s₀.heap.get? b = none
theorem own14 {x : Str} {c : Addr} (h : (cellsC 14 L).lookup x = some c) : c ∈ ownC 14 L := ownC_cell h
theorem law_A {ns : List Int} {Q : Flow → Shared → Prop} (c : LC prog w A W s₀ mg mb pm cd doc L a) (hn : ns.length ≤ 63) (K : Keeps s₀ s) (S : St (lenv pm cd doc L a) (ownC 14 L ++ W) [("script", .list (ns.map .int))] [] s)
    (next : ∀ d0 d1 d2 d3 d4 d5 s', Mv (ownC 14 L) s s' → St (lenv pm cd doc L a) (ownC 14 L ++ W) [("hour", .int (menuH.getD (d5.fmod 4).toNat 0)), ("draws", .list ([d0, d1, d2, d3, d4, d5].map .int))] [] s' → wpAny (model prog w) A (execs (lbody.drop 3) (lenv pm cd doc L a)) Q E s') :
    wpAny (model prog w) A (execs lbody (lenv pm cd doc L a)) Q E s := by
  have ok := c.ok
  have LW : L ∈ ownC 14 L := .head _
  have big : (100 : Nat) ≤ sizeLine := by decide
  refine wpAny_execs_cons (ex_assign (a := L + 1) ok S (ev_slice S.ex (ev_name ok.kind S rfl) pt_none (pt_some (W := ownC 14 L ++ W) ev_int) pt_none (by decide) (by rw [List.length_map]; omega)) (.inr ⟨rfl, rfl⟩) fun s₂ m₂ S₂ => ?_)
  have M₂ : Mv (ownC 14 L) s s₂ := m₂.wide fun b m => by rw [mem1 m]; exact own14 (x := "drawn") rfl
  have K₂ := keepC K M₂ c.fresh
  have T₂ := c.T.keeps (kGr K₂)
  rw [pick_upto (by decide), ← List.map_take] at S₂
  have hn' : (ns.take (60 : Int).toNat).length ≤ 63 := by rw [List.length_take]; omega
  generalize ns.take (60 : Int).toNat = ms at *
  refine wpAny_execs_cons (ex_lc fun pos' => ?_)
  refine comp1 (cl := [("drawn", L + 1)]) (σf := [("drawn", .list (ms.map .int))]) (l := enu 0 (bases.map .int)) ok S₂ (mkComp rfl rfl (by decide +kernel) (.cons rfl .nil) (.cons rfl (.inl rfl) (.inl rfl) rfl .nil)) (by decide +kernel) (src_enum c.lt.hd (is_b T₂ T₂.glC rfl) (ev_list S₂.ex (els_cons ev_int (els_cons ev_int (els_cons ev_int (els_cons ev_int (els_cons ev_int (els_cons ev_int els_nil)))))) (by decide))) (by decide)
    (fun d => [("base", t2 d), ("turn", t1 d)]) (fun _ => true) (fun d => .int (toI (t2 d) + (pickI ms (some (toI (t1 d))) none (some 6)).sum)) ?_ ?_ ?_ ?_ ?_
  · intro C W' s₁ v d Q E hd okc Sc dv h
    obtain ⟨k, y, rfl, hy⟩ := enu_mem hd
    exact asg_pair c.lt.hd okc rfl rfl Sc rfl rfl dv fun s' mv St' => h s' mv St'
  · intro d hd
    exact (Sb.cons rfl .nil).get
  · intro C W' d s' hd k okc Sc
    exact tests_nil
  · intro C W' d s' hd _ k okc Sc
    obtain ⟨i, y, rfl, hy⟩ := enu_mem hd
    have hb : ∃ b, y = .int b := by
      rw [List.getElem?_map] at hy
      cases q : bases[i]? with
      | none => rw [q] at hy; cases hy
      | some b => rw [q] at hy; cases hy; exact ⟨b, rfl⟩
    obtain ⟨b, rfl⟩ := hb
    have T' := T₂.keeps (kGr k)
    have es := ev_slice (pos := ⟨60, 24, 60, 38⟩) (p := ⟨60, 30, 60, 37⟩) (w := w) (A := A) (prog := prog) Sc.ex (ev_name (p := ⟨60, 24, 60, 29⟩) okc.kind Sc (x := "drawn") rfl) (pt_some (ev_name (p := ⟨60, 30, 60, 34⟩) okc.kind Sc (x := "turn") rfl)) pt_none (pt_some (W := W') (ev_int (k := 0) (i := 6) (pos := ⟨60, 36, 60, 37⟩))) (by decide) (by rw [List.length_map]; omega)
    rw [pick_ints] at es
    exact ev_add (ev_name okc.kind Sc rfl) (ev_sum c.lt.hd (is_b T' (gl_comp T'.glC rfl) rfl) es)
  · refine filled_assign (a := L) ok S₂ (.inl ⟨rfl, rfl⟩) rfl fun s₃ m₃ S₃ => ?_
    have M₃ : Mv (ownC 14 L) s s₃ := M₂.trans (m₃.wide fun b m => by rw [mem1 m]; exact LW)
    have e : (((enu 0 (bases.map .int)).filter fun _ => true).map fun d => PyData.int (toI (t2 d) + (pickI ms (some (toI (t1 d))) none (some 6)).sum)) = ([51242 + (pickI ms (some 0) none (some 6)).sum, 20 + (pickI ms (some 1) none (some 6)).sum, 99718 + (pickI ms (some 2) none (some 6)).sum, 145319 + (pickI ms (some 3) none (some 6)).sum, 41664 + (pickI ms (some 4) none (some 6)).sum, 1 + (pickI ms (some 5) none (some 6)).sum].map .int) := rfl
    rw [e] at S₃
    generalize 51242 + (pickI ms (some 0) none (some 6)).sum = d0 at S₃
    generalize 20 + (pickI ms (some 1) none (some 6)).sum = d1 at S₃
    generalize 99718 + (pickI ms (some 2) none (some 6)).sum = d2 at S₃
    generalize 145319 + (pickI ms (some 3) none (some 6)).sum = d3 at S₃
    generalize 41664 + (pickI ms (some 4) none (some 6)).sum = d4 at S₃
    generalize 1 + (pickI ms (some 5) none (some 6)).sum = d5 at S₃
    have r4 := fmod_range (a := d5) (b := 4) (by decide)
    refine wpAny_execs_cons (ex_assign (a := L) (d := .int (menuH.getD (d5.fmod 4).toNat 0)) ok S₃ ?_ (.inl ⟨rfl, rfl⟩) fun s₄ m₄ S₄ => ?_)
    · exact ev_itemI menuH (ev_list S₃.ex (els_cons ev_int (els_cons ev_int (els_cons ev_int (els_cons ev_int els_nil)))) (by decide)) (ev_mod (ev_item (ev_name ok.kind S₃ rfl) ev_int (by decide) (by decide) rfl) ev_int (by decide)) r4.1 (by simpa [menuH] using r4.2) (by decide)
    · exact next d0 d1 d2 d3 d4 d5 s₄ (M₃.trans (m₄.wide fun b m => by rw [mem1 m]; exact LW)) (S₄.re (.cons rfl (.cons rfl .nil)))
end
end Mine
end
section
open PySem PySem.Spec PySem.Calls PyProof.Rows PySem.W
set_option maxRecDepth 100000
set_option linter.unusedVariables false
namespace Mine
def dressOf (d : Int) : Int := (d.fmod 193536).fdiv 56
def hourOf (d5 : Int) : Int := menuH.getD (d5.fmod 4).toNat 0
def signs : List Int := [1, -1]
def signOf (d5 : Int) : Int := signs.getD ((d5.fdiv 4).fmod 2).toNat 0
def minOf (d5 d : Int) : Int := (60 * hourOf d5 + d.fmod 14 - 7) * signOf d5
def marks0 : List Str := ["", "\"", "\"", ""]
def marks1 : List Str := ["", "\"", "", "\""]
def zText (d5 d : Int) : Str := marks0.getD ((dressOf d).fdiv 864).toNat "" ++ zoneT (minOf d5 d) (dressOf d) ++ marks1.getD ((dressOf d).fdiv 864).toNat ""
def deadD (d : Int) : Bool := ((dressOf d).fdiv 144).fmod 6 == 5
def dueD (d5 d : Int) : PyData := if deadD d = true then .none else .int (60 * minOf d5 d)
structure ZOk (d5 d : Int) : Prop where
  off : OffOk (stripQ (zText d5 d)) (dueD d5 d)
  len : (zoneT (minOf d5 d) (dressOf d)).length ≤ 20
theorem menuH_le : ∀ i : Nat, 0 ≤ menuH.getD i 0 ∧ menuH.getD i 0 ≤ 99
  | 0 => by decide
  | 1 => by decide
  | 2 => by decide
  | 3 => by decide
  | n + 4 => by show (0 : Int) ≤ 0 ∧ (0 : Int) ≤ 99; decide
theorem signs_le : ∀ i : Nat, -1 ≤ signs.getD i 0 ∧ signs.getD i 0 ≤ 1
  | 0 => by decide
  | 1 => by decide
  | n + 2 => by show (-1 : Int) ≤ 0 ∧ (0 : Int) ≤ 1; decide
theorem marks_le : ∀ i : Nat, (marks0.getD i "").length ≤ 1 ∧ (marks1.getD i "").length ≤ 1
  | 0 => by decide
  | 1 => by decide
  | 2 => by decide
  | 3 => by decide
  | n + 4 => by show (Str.ofString "").length ≤ 1 ∧ (Str.ofString "").length ≤ 1; decide
theorem dress_range (d : Int) : 0 ≤ dressOf d ∧ dressOf d < 3456 := by
  have h := fmod_range (a := d) (b := 193536) (by decide)
  unfold dressOf
  rw [Int.fdiv_eq_ediv_of_nonneg _ (by decide)]
  omega
theorem min_small (d5 d : Int) : (minOf d5 d).natAbs < 6000 := by
  have h := fmod_range (a := d) (b := 14) (by decide)
  have h1 := menuH_le (d5.fmod 4).toNat
  have h2 := signs_le ((d5.fdiv 4).fmod 2).toNat
  unfold minOf hourOf signOf
  generalize menuH.getD (d5.fmod 4).toNat 0 = x at *
  generalize signs.getD ((d5.fdiv 4).fmod 2).toNat 0 = y at *
  have : y = -1 ∨ y = 0 ∨ y = 1 := by omega
  rcases this with rfl | rfl | rfl <;> omega
theorem stripQ_len (x : Str) : (stripQ x).length ≤ x.length := by
  have h : ∀ y : Str, (if Txt.endswith y qt = true then Txt.slice y none (some (-1)) else y).length ≤ y.length := fun y => by
    split
    · exact len_slice ..
    · exact Nat.le_refl _
  unfold stripQ
  split
  · exact Nat.le_trans (h _) (len_slice ..)
  · exact h _
theorem str_len_append (x y : Str) : (x ++ y).length = x.length + y.length := by
  show (x.cps ++ y.cps).size = _
  rw [Array.size_append]; rfl
theorem zText_len {d5 d : Int} (z : ZOk d5 d) : (zText d5 d).length ≤ 22 := by
  have h := marks_le ((dressOf d).fdiv 864).toNat
  have := z.len
  unfold zText
  rw [str_len_append, str_len_append]
  omega
section
variable {prog : Program} {w : World} {A : Around} {E : Value → Shared → Prop} {W : List Addr} {s s₀ s₁ : Shared} {mg mb : Str → Option Value} {pm cd doc : Value} {L a : Addr}
/-- the loop's body -/
theorem law_turn {W' : List Addr} {V : List Addr} {d5 d : Int} {a1 a2 : Addr} {b : List PyData} (c : LC prog w A W s₀ mg mb pm cd doc L a) (z : ZOk d5 d) (K : Keeps s₀ s) (hV : ∀ b ∈ V, s₀.heap.get? b = none) (oV : ∀ b ∈ ownC 14 L, b ∈ V) (m1 : a1 ∈ V) (m2 : a2 ∈ V) (ne : a1 ≠ a2) (ok : EnvOk (lenv pm cd doc L a) W') (hb : b.length ≤ 5) (ds : List PyData) (hds : ds[5]? = some (.int d5))
    (S : St (lenv pm cd doc L a) W' [("draw", .int d), ("hour", .int (hourOf d5)), ("draws", .list ds)] [("due", a2, b), ("told", a1, b)] s) :
    wpAny (model prog w) A (execs (match lbody.getD 5 (.Pass default) with | .For _ _ body _ _ => body | _ => []) (lenv pm cd doc L a)) (fun f s₃ => f = .next ∧ Mv V s s₃ ∧ St (lenv pm cd doc L a) W' [("hour", .int (hourOf d5)), ("draws", .list ds)] [("due", a2, b ++ [dueD d5 d]), ("told", a1, b ++ [dueD d5 d])] s₃) E s := by
  have LV : ∀ b ∈ [L], b ∈ V := fun b m => by rw [mem1 m]; exact oV _ (.head _)
  have f14 := fmod_range (a := d) (b := 14) (by decide)
  have f2 := fmod_range (a := d5.fdiv 4) (b := 2) (by decide)
  have hh := menuH_le (d5.fmod 4).toNat
  have hs := signs_le ((d5.fdiv 4).fmod 2).toNat
  have dr := dress_range d
  have d4 : 0 ≤ (dressOf d).fdiv 864 ∧ (dressOf d).fdiv 864 < 4 := by
    rw [Int.fdiv_eq_ediv_of_nonneg _ (by decide)]; omega
  have big : (100 : Nat) ≤ sizeLine := by decide
  refine wpAny_execs_cons (ex_assign (a := L) (d := .int (minOf d5 d)) ok S ?_ (.inl ⟨rfl, rfl⟩) fun s₂ k₂ S₂ => ?_)
  · refine ev_mul (ev_sub (ev_add (ev_mul ev_int (ev_name ok.kind S rfl) (mulok (m := 10) (n := 10) (PyProof.Rows.intBits_le (by decide)) (PyProof.Rows.intBits_le (by unfold hourOf; omega)) (by decide))) (ev_mod (ev_name ok.kind S rfl) ev_int (by decide))) ev_int) (ev_itemI signs (ev_list S.ex (els_cons ev_int (els_cons (ev_neg ev_int) els_nil)) (by decide)) (ev_mod (ev_div (ev_item (ev_name ok.kind S rfl) ev_int (by decide) (by decide) hds) ev_int (by decide) (nolong (by decide))) ev_int (by decide)) f2.1 (by simpa [signs] using f2.2) (by decide)) (mulok (m := 20) (n := 10) (PyProof.Rows.intBits_le (by unfold hourOf; omega)) (PyProof.Rows.intBits_le (by unfold signOf; omega)) (by decide))
  have M₂ : Mv V s s₂ := k₂.wide LV
  refine wpAny_execs_cons (ex_assign (a := L) (d := .int (dressOf d)) ok S₂ (ev_div (ev_mod (ev_name ok.kind S₂ rfl) ev_int (by decide)) ev_int (by decide) (nolong (by decide))) (.inl ⟨rfl, rfl⟩) fun s₃ k₃ S₃ => ?_)
  have M₃ : Mv V s s₃ := M₂.trans (k₃.wide LV)
  refine wpAny_execs_cons (ex_assign (a := L) (d := .tuple [.str (marks0.getD ((dressOf d).fdiv 864).toNat ""), .str (marks1.getD ((dressOf d).fdiv 864).toNat "")]) ok S₃ ?_ (.inl ⟨rfl, rfl⟩) fun s₄ k₄ S₄ => ?_)
  · refine ev_tuple S₃.ex (els_cons (ev_itemS marks0 (ev_list S₃.ex (els_strs _ marks0 rfl) (by decide)) (ev_div (ev_name ok.kind S₃ rfl) ev_int (by decide) (nolong (by decide))) d4.1 (by simpa [marks0] using d4.2) (by decide)) (els_cons (ev_itemS marks1 (ev_list S₃.ex (els_strs _ marks1 rfl) (by decide)) (ev_div (ev_name ok.kind S₃ rfl) ev_int (by decide) (nolong (by decide))) d4.1 (by simpa [marks1] using d4.2) (by decide)) els_nil)) (by show 2 ≤ sizeLine; decide)
  have M₄ : Mv V s s₄ := M₃.trans (k₄.wide LV)
  have K₄ := keepC K M₄ hV
  have T₄ := c.T.keeps (kGr K₄)
  have Z₄ := c.Z.keeps (kGr K₄)
  have G₄ : Gl (lenv pm cd doc L a) mg mb s₄.heap := T₄.glC rfl
  obtain ⟨f4, e4, F4⟩ := T₄.fn 4 (by decide)
  obtain ⟨f5, e5, F5⟩ := T₄.fn 5 (by decide)
  obtain ⟨f11, e11, F11⟩ := T₄.fn 11 (by decide)
  have ml := marks_le ((dressOf d).fdiv 864).toNat
  have ms := min_small d5 d
  have zl := z.len
  have zt := zText_len z
  have am : absI (minOf d5 d) < 30000 := by unfold absI; split <;> omega
  refine wpAny_execs_cons (ex_append (ds := b) (d := dueD d5 d) (ρ' := [("due", a2, b), ("told", a1, b ++ [dueD d5 d])]) ok S₄ rfl (.keep rfl ne.symm (.hit .nil)) ?_ (by omega) fun s₅ k₅ S₅ => ?_)
  · refine ev_call1 (W := W') (is_glob G₄ e4) F4.can (d := .str (stripQ (zText d5 d))) (ev_call1 (W := W') (is_glob G₄ e5) F5.can (d := .str (zText d5 d)) (ev_cat (ev_cat (ev_itemT (ev_name ok.kind S₄ rfl) ev_int (by decide) (by show (0 : Int) < 2; decide) (by decide) rfl) (ev_call2 (W := W') (is_glob G₄ e11) F11.can (ev_name ok.kind S₄ rfl) (ev_name ok.kind S₄ rfl) fun v v' s₆ k₆ p p' => ?_) ?_) (ev_itemT (ev_name ok.kind S₄ rfl) ev_int (by decide) (by show (1 : Int) < 2; decide) (by decide) rfl) ?_) fun v s₆ k₆ p => ?_) fun v s₆ k₆ p => ?_
    · exact zone c.lt (T₄.keeps (kGr k₆)) (F11.keeps (kGr k₆)) (S₄.ex.mono (kGr k₆)) am p p'
    · have := ml.1; omega
    · rw [str_len_append]; have := ml.1; have := ml.2; omega
    · exact stripquotes c.lt (T₄.keeps (kGr k₆)) (F5.keeps (kGr k₆)) (S₄.ex.mono (kGr k₆)) (by omega) p
    · exact offset c.lt (T₄.keeps (kGr k₆)) (Z₄.keeps (kGr k₆)) (F4.keeps (kGr k₆)) (S₄.ex.mono (kGr k₆)) (by have h := stripQ_len (zText d5 d); have e : (stripQ (zText d5 d)).length = (stripQ (zText d5 d)).cps.size := rfl; omega) z.off p
  have M₅ : Mv V s s₅ := M₄.trans (k₅.wide fun b m => by rw [mem1 m]; exact m1)
  refine wpAny_execs_cons (ex_append (ds := b) (d := dueD d5 d) (ρ' := [("due", a2, b ++ [dueD d5 d]), ("told", a1, b ++ [dueD d5 d])]) ok S₅ rfl (.hit (.keep rfl ne .nil)) ?_ (by omega) fun s₆ k₆ S₆ => wpAny_execs_nil ⟨rfl, M₅.trans (k₆.wide fun b m => by rw [mem1 m]; exact m2), S₆.re (.cons rfl (.cons rfl .nil))⟩)
  refine ev_ifexp (c := deadD d) (tst_eq (ev_mod (ev_div (ev_name ok.kind S₅ rfl) ev_int (by decide) (nolong (by decide))) ev_int (by decide)) ev_int) (fun h => ?_) (fun h => ?_)
  · rw [show dueD d5 d = .none from by unfold dueD; rw [h]; rfl]
    exact ev_none
  · rw [show dueD d5 d = .int (60 * minOf d5 d) from by unfold dueD; rw [h]; rfl]
    exact ev_mul ev_int (ev_name ok.kind S₅ rfl) (mulok (m := 10) (n := 20) (PyProof.Rows.intBits_le (by decide)) (PyProof.Rows.intBits_le (by omega)) (by decide))
end
end Mine
end
section
open PySem PySem.Spec PySem.Calls PyProof.Rows PySem.W
set_option maxRecDepth 100000
set_option linter.unusedVariables false
namespace Mine
section
variable {prog : Program} {w : World} {A : Around} {E : Value → Shared → Prop} {W : List Addr} {s s₀ s₁ : Shared} {mg mb : Str → Option Value} {pm cd doc : Value} {L a : Addr}
theorem noneBack {V : List Addr} {s s' : Shared} (m : Mv V s s') {b : Addr} (e : s'.heap.get? b = none) : s.heap.get? b = none := by
  cases q : s.heap.get? b with
  | none => rfl
  | some o =>
    obtain ⟨h', t, rfl, k, l⟩ := m
    obtain ⟨o', e'⟩ := l b ⟨o, q⟩
    rw [e'] at e; cases e
theorem law_B {d0 d1 d2 d3 d4 d5 : Int} {Q : Flow → Shared → Prop} (c : LC prog w A W s₀ mg mb pm cd doc L a) (z : ∀ d, ZOk d5 d) (K : Keeps s₀ s) (S : St (lenv pm cd doc L a) (ownC 14 L ++ W) [("hour", .int (menuH.getD (d5.fmod 4).toNat 0)), ("draws", .list ([d0, d1, d2, d3, d4, d5].map .int))] [] s)
    (next : ∀ s', Mv (ownC 14 L) s s' → St (lenv pm cd doc L a) (ownC 14 L ++ W) [("told", .list ([d0, d1, d2, d3, d4].map (dueD d5))), ("due", .list ([d0, d1, d2, d3, d4].map (dueD d5))), ("draws", .list ([d0, d1, d2, d3, d4, d5].map .int))] [] s' → wpAny (model prog w) A (execs (lbody.drop 6) (lenv pm cd doc L a)) Q E s') :
    wpAny (model prog w) A (execs (lbody.drop 3) (lenv pm cd doc L a)) Q E s := by
  have ok := c.ok
  have LW : L ∈ ownC 14 L := .head _
  refine wpAny_execs_cons (ex_assignL ok S do_nil rfl fun a1 s₂ n1 m₂ ok₂ S₂ => ?_)
  refine wpAny_execs_cons (ex_assignL ok₂ S₂ do_nil rfl fun a2 s₃ n2 m₃ ok₃ S₃ => ?_)
  have M₃ : Mv [L] s s₃ := m₂.trans m₃
  have K₃ : Keeps s₀ s₃ := keepC K M₃ fun b m => by rw [mem1 m]; exact c.fresh _ LW
  have n2' : s.heap.get? a2 = none := noneBack m₂ n2
  have e1 : ∃ o, s₂.heap.get? a1 = some o := S₂.ex a1 (.head _)
  have ne : a1 ≠ a2 := fun e => by obtain ⟨o, q⟩ := e1; rw [e, n2] at q; cases q
  have off1 : a1 ∉ ownC 14 L ++ W := fun m => by obtain ⟨o, q⟩ := S.ex a1 m; rw [n1] at q; cases q
  have off2 : a2 ∉ ownC 14 L ++ W := fun m => by obtain ⟨o, q⟩ := S.ex a2 m; rw [n2'] at q; cases q
  have fr0 : ∀ b ∈ a2 :: a1 :: ownC 14 L, s₀.heap.get? b = none := fun b m => by
    rcases List.mem_cons.mp m with rfl | m
    · exact isNone_of_gr (kGr K) n2'
    · rcases List.mem_cons.mp m with rfl | m
      · exact isNone_of_gr (kGr K) n1
      · exact c.fresh b m
  refine wpAny_execs_cons ?_
  refine ex_fold (W := a2 :: a1 :: (ownC 14 L ++ W)) (c := L) (l := [d0, d1, d2, d3, d4].map .int) (a2 :: a1 :: ownC 14 L) (fun (b : List PyData) d => b ++ [dueD d5 (toI d)]) (fun b => [("hour", .int (hourOf d5)), ("draws", .list ([d0, d1, d2, d3, d4, d5].map .int))]) (fun b => [("due", a2, b), ("told", a1, b)]) (fun b l' => b.length + l'.length = 5 ∧ ∀ d ∈ l', ∃ n, d = .int n) [] ok₃ S₃ (src_list c.lt.hd ?_) (fun b m => ?_) (.inl ⟨rfl, rfl⟩) (by simp [LW]) (fun b y x es l => ?_) (fun _ => rfl) ⟨rfl, ?_⟩ ?_ ?_
  · have := ev_slice (pos := ⟨64, 16, 64, 25⟩) (p := ⟨64, 22, 64, 24⟩) (w := w) (A := A) (prog := prog) S₃.ex (ev_name (p := ⟨64, 16, 64, 21⟩) ok.kind S₃ (x := "draws") rfl) pt_none (pt_some (W := a2 :: a1 :: (ownC 14 L ++ W)) (ev_int (k := 0) (i := 5) (pos := ⟨64, 23, 64, 24⟩))) pt_none (by decide) (by show 6 ≤ sizeLine; decide)
    rw [pick_upto (by decide)] at this
    exact this
  · rcases List.mem_cons.mp m with rfl | m
    · exact .head _
    · rcases List.mem_cons.mp m with rfl | m
      · exact .tail _ (.head _)
      · exact .tail _ (.tail _ (List.mem_append_left _ m))
  · have := mem_of_lookup l
    simp only [List.mem_cons, List.not_mem_nil, or_false, Prod.mk.injEq] at this
    rcases this with ⟨_, rfl, _⟩ | ⟨_, rfl, _⟩
    · exact .head _
    · exact .tail _ (.head _)
  · intro d m
    obtain ⟨n, _, rfl⟩ := List.mem_map.mp m
    exact ⟨n, rfl⟩
  · rintro W' b d l' s₄ E' sub mv ok' ⟨hl, hi⟩ S₄
    obtain ⟨n, rfl⟩ := hi d (.head _)
    have K₄ := mv s₀ K₃ fr0
    have := law_turn (W' := W') (V := a2 :: a1 :: ownC 14 L) (E := E') c (z n) K₄ fr0 (fun b m => .tail _ (.tail _ m)) (.tail _ (.head _)) (.head _) ne ok' (by rw [List.length_cons] at hl; omega) ([d0, d1, d2, d3, d4, d5].map .int) rfl S₄
    refine wpAny_mono this (fun f s₅ h => ?_) fun _ _ h => h
    obtain ⟨h1, h2, h3⟩ := h
    refine ⟨h1, h2, ⟨?_, fun d m => hi d (.tail _ m)⟩, h3⟩
    rw [List.length_append, List.length_singleton]
    rw [List.length_cons] at hl
    omega
  · intro s₄ m₄ _ S₄
    have mAll : Mv (a2 :: a1 :: ownC 14 L) s s₄ := (M₃.wide fun b m => by rw [mem1 m]; simp [LW]).trans m₄
    have mOwn : Mv (ownC 14 L) s s₄ := mAll.keeps fun b m => by
      rcases List.mem_cons.mp m with rfl | m
      · exact .inr n2'
      · rcases List.mem_cons.mp m with rfl | m
        · exact .inr n1
        · exact .inl m
    have e : ([d0, d1, d2, d3, d4].map PyData.int).foldl (fun (b : List PyData) d => b ++ [dueD d5 (toI d)]) [] = [d0, d1, d2, d3, d4].map (dueD d5) := rfl
    rw [e] at S₄
    have F1 : St (lenv pm cd doc L a) (a1 :: (ownC 14 L ++ W)) (("due", .list ([d0, d1, d2, d3, d4].map (dueD d5))) :: [("hour", .int (hourOf d5)), ("draws", .list ([d0, d1, d2, d3, d4, d5].map .int))]) [("told", a1, [d0, d1, d2, d3, d4].map (dueD d5))] s₄ := by
      refine S₄.freeze (x := "due") (a := a2) rfl (fun b m => ⟨.tail _ m, fun q => ?_⟩) fun y b es l => ?_
      · subst q
        rcases List.mem_cons.mp m with q | m
        · exact ne q.symm
        · exact off2 m
      · have := mem_of_lookup l
        simp only [List.mem_cons, List.not_mem_nil, or_false, Prod.mk.injEq] at this
        obtain ⟨rfl, rfl, rfl⟩ := this
        exact ⟨rfl, .head _⟩
    have F2 : St (lenv pm cd doc L a) (ownC 14 L ++ W) (("told", .list ([d0, d1, d2, d3, d4].map (dueD d5))) :: ("due", .list ([d0, d1, d2, d3, d4].map (dueD d5))) :: [("hour", .int (hourOf d5)), ("draws", .list ([d0, d1, d2, d3, d4, d5].map .int))]) [] s₄ :=
      F1.freeze (x := "told") (a := a1) rfl (fun b m => ⟨.tail _ m, fun q => off1 (q ▸ m)⟩) fun y b es l => by cases l
    exact next s₄ mOwn (F2.re (.cons rfl (.cons rfl (.cons rfl .nil))))
end
end Mine
end
section
open PySem PySem.Spec PySem.Calls PyProof.Rows PySem.W
set_option maxRecDepth 100000
set_option linter.unusedVariables false
namespace Mine
theorem textFrom_le : ∀ (ts : List Str) (k : Nat) (acc : Str) (B : Nat), (∀ t ∈ ts, t.length ≤ B) → (textFrom k acc ts).length ≤ acc.length + ts.length * (B + 2)
  | [], k, acc, B, h => by simp [textFrom]
  | t :: r, k, acc, B, h => by
    have ih := textFrom_le r (k + 1) (acc ++ (if k > 0 then ", " else "" : String) ++ t) B fun u m => h u (.tail _ m)
    have e : (acc ++ (if k > 0 then ", " else "" : String) ++ t).length ≤ acc.length + (2 + B) := by
      rw [str_len_append, str_len_append]
      have h1 : t.length ≤ B := h t (.head _)
      have h2 : (Str.ofString (if k > 0 then ", " else "" : String)).length ≤ 2 := by split <;> decide
      have h2' : ((if k > 0 then ", " else "" : String) : Str).length ≤ 2 := h2
      omega
    have : (r.length + 1) * (B + 2) = r.length * (B + 2) + (B + 2) := Nat.succ_mul ..
    show (textFrom (k + 1) _ r).length ≤ _
    rw [List.length_cons, this]
    omega
/-- None, or a small number -/
def SmallD (d : PyData) : Prop := d = .none ∨ ∃ i : Int, d = .int i ∧ i.natAbs < 2 ^ 30
theorem due_small (d5 d : Int) : SmallD (dueD d5 d) := by
  unfold dueD
  have := min_small d5 d
  split
  · exact .inl rfl
  · exact .inr ⟨_, rfl, by omega⟩
theorem small_shown {d : PyData} (h : SmallD d) : d.shown.length ≤ 1921 ∧ d.showable = true ∧ d.hasDict = false ∧ d.depth = 0 := by
  rcases h with rfl | ⟨i, rfl, h⟩
  · refine ⟨?_, ?_, ?_, ?_⟩ <;> decide
  · have hl := log_small (n := i) (by omega)
    refine ⟨?_, ?_, ?_, ?_⟩
    · rw [PyData.shown]; exact int_text_len_1921 hl
    · rw [PyData.showable]; exact decide_eq_true hl
    · rw [PyData.hasDict]
    · rw [PyData.depth]
theorem small_list : ∀ {ds : List PyData}, (∀ d ∈ ds, SmallD d) → (∀ t ∈ PyData.shownAll ds, t.length ≤ 1921) ∧ PyData.showableAll ds = true ∧ PyData.hasDictAll ds = false ∧ PyData.depthAll ds = 0 ∧ (PyData.shownAll ds).length = ds.length
  | [], _ => by simp [PyData.shownAll, PyData.showableAll, PyData.hasDictAll, PyData.depthAll]
  | d :: ds, h => by
    obtain ⟨a1, a2, a3, a4⟩ := small_shown (h d (.head _))
    obtain ⟨b1, b2, b3, b4, b5⟩ := small_list fun x m => h x (.tail _ m)
    refine ⟨fun t m => ?_, by simp [PyData.showableAll, a2, b2], by simp [PyData.hasDictAll, a3, b3], by simp [PyData.depthAll, a4, b4], by simp [PyData.shownAll, b5]⟩
    rw [PyData.shownAll] at m
    rcases List.mem_cons.mp m with rfl | m
    · exact a1
    · exact b1 t m
def menuS : List Int := [0, 15, 16, 31]
def tellOf (d5 d : Int) : Int := 60 * minOf d5 d + menuS.getD ((d.fdiv 14).fmod 4).toNat 0
def tellsOf (d5 : Int) (l : List Int) : List Int := (l.filter fun d => !deadD d).map (tellOf d5)
def isNo : PyData → Bool | .none => true | _ => false
theorem tells_eq (d5 : Int) (r : List PyData) : ∀ l : List Int, ((zipD (l.map (dueD d5)) (l.map .int ++ r)).filter fun d => !isNo (t1 d)).map (fun d => PyData.int (toI (t1 d) + menuS.getD (((toI (t2 d)).fdiv 14).fmod 4).toNat 0)) = (tellsOf d5 l).map .int
  | [] => by simp [zipD, tellsOf]
  | d :: l => by
    have ih := tells_eq d5 r l
    have hz : zipD ((d :: l).map (dueD d5)) ((d :: l).map .int ++ r) = .tuple [dueD d5 d, .int d] :: zipD (l.map (dueD d5)) (l.map .int ++ r) := rfl
    rw [hz, List.filter_cons]
    cases q : deadD d with
    | true =>
      have e : dueD d5 d = .none := by unfold dueD; rw [q]; rfl
      have h2 : tellsOf d5 (d :: l) = tellsOf d5 l := by unfold tellsOf; rw [List.filter_cons, q]; rfl
      rw [e, h2, if_neg (show ¬ (!isNo (t1 (.tuple [.none, .int d]))) = true from by show ¬ false = true; decide)]
      exact ih
    | false =>
      have e : dueD d5 d = .int (60 * minOf d5 d) := by unfold dueD; rw [q]; rfl
      have h2 : tellsOf d5 (d :: l) = tellOf d5 d :: tellsOf d5 l := by unfold tellsOf; rw [List.filter_cons, q]; rfl
      rw [e, h2, if_pos (show (!isNo (t1 (.tuple [.int (60 * minOf d5 d), .int d]))) = true from rfl), List.map_cons, ih]
      rfl
theorem tells_len (d5 : Int) (l : List Int) : (tellsOf d5 l).length ≤ l.length := by
  unfold tellsOf
  rw [List.length_map]
  exact List.length_filter_le _ _
section
variable {prog : Program} {w : World} {A : Around} {E : Value → Shared → Prop} {W : List Addr} {s s₀ s₁ : Shared} {mg mb : Str → Option Value} {pm cd doc : Value} {L a : Addr}
theorem law_C {d0 d1 d2 d3 d4 d5 : Int} {Q : Flow → Shared → Prop} (c : LC prog w A W s₀ mg mb pm cd doc L a) (K : Keeps s₀ s)
    (S : St (lenv pm cd doc L a) (ownC 14 L ++ W) [("told", .list ([d0, d1, d2, d3, d4].map (dueD d5))), ("due", .list ([d0, d1, d2, d3, d4].map (dueD d5))), ("draws", .list ([d0, d1, d2, d3, d4, d5].map .int))] [] s)
    (next : ∀ (ts : List Int) s', ts.length ≤ 5 → Mv (ownC 14 L) s s' → St (lenv pm cd doc L a) (ownC 14 L ++ W) [("many", .int ts.length), ("tells", .list (ts.map .int))] [] s' → wpAny (model prog w) A (execs (lbody.drop 9) (lenv pm cd doc L a)) Q E s') :
    wpAny (model prog w) A (execs (lbody.drop 6) (lenv pm cd doc L a)) Q E s := by
  have ok := c.ok
  have LW : L ∈ ownC 14 L := .head _
  have T := c.T.keeps (kGr K)
  have G : Gl (lenv pm cd doc L a) mg mb s.heap := T.glC rfl
  obtain ⟨b1, b2, b3, b4, b5⟩ := small_list (ds := [d0, d1, d2, d3, d4].map (dueD d5)) fun d m => by
    obtain ⟨n, _, rfl⟩ := List.mem_map.mp m
    exact due_small d5 n
  have hsh : (PyData.list ([d0, d1, d2, d3, d4].map (dueD d5))).shown.length ≤ sizeLine := by
    rw [PyData.shown]
    unfold listText
    rw [str_len_append]
    have := textFrom_le _ 0 "[" 1921 b1
    rw [b5] at this
    have h1 : (Str.ofString "[").length = 1 := by decide
    have h2 : (Str.ofString "]").length = 1 := by decide
    have h3 : (20000 : Nat) ≤ sizeLine := by decide
    rw [List.length_map] at this
    show (textFrom 0 (Str.ofString "[") _).length + (Str.ofString "]").length ≤ sizeLine
    have : (textFrom 0 (Str.ofString "[") (PyData.shownAll ([d0, d1, d2, d3, d4].map (dueD d5)))).length ≤ (Str.ofString "[").length + 5 * (1921 + 2) := this
    omega
  have hdep : (PyData.list ([d0, d1, d2, d3, d4].map (dueD d5))).depth = 1 := by rw [PyData.depth, b4]
  have un := c.lt.un
  have str_ : ∀ {x : Str} {p q pos : Pos}, Ev prog w A (ownC 14 L ++ W) s (eval (.Name x q) (lenv pm cd doc L a)) (.list ([d0, d1, d2, d3, d4].map (dueD d5))) → Ev prog w A (ownC 14 L ++ W) s (eval (.Call (.Name "str" p) [.Name x q] [] pos) (lenv pm cd doc L a)) (.str (PyData.list ([d0, d1, d2, d3, d4].map (dueD d5))).shown) := fun h =>
    ev_strList c.lt.gd (by rw [hdep]; omega) (is_b T G rfl) h (by rw [PyData.showable]; exact b2) (by rw [PyData.hasDict]; exact b3) hsh
  refine wpAny_execs_cons (ex_if (c := false) ?_ (fun h => by cases h) (fun _ s₂ k₂ => wpAny_execs_nil ?_))
  · have := tst_neS (pos := ⟨70, 7, 70, 28⟩) (str_ (p := ⟨70, 7, 70, 10⟩) (pos := ⟨70, 7, 70, 16⟩) (ev_name (p := ⟨70, 11, 70, 15⟩) ok.kind S (x := "told") rfl)) (str_ (p := ⟨70, 20, 70, 23⟩) (pos := ⟨70, 20, 70, 28⟩) (ev_name (p := ⟨70, 24, 70, 27⟩) ok.kind S (x := "due") rfl))
    simp only [bne_self_eq_false] at this
    exact this
  have S₂ := S.keeps k₂
  have K₂ := kTrans K k₂
  have T₂ := c.T.keeps (kGr K₂)
  refine wpAny_execs_cons (ex_assign (a := L + 2) ok S₂ (ev_lc (out := ((zipD ([d0, d1, d2, d3, d4].map (dueD d5)) ([d0, d1, d2, d3, d4, d5].map .int)).filter fun d => !isNo (t1 d)).map fun d => PyData.int (toI (t1 d) + menuS.getD (((toI (t2 d)).fdiv 14).fmod 4).toNat 0)) S₂.ex fun pos' E' s₉ Q' k₉ F => ?_) (.inr ⟨rfl, rfl⟩) fun s₃ m₃ S₃ => ?_)
  · have S₂ := S₂.keeps k₉
    have T₂ := T₂.keeps (kGr k₉)
    refine comp1 (cl := []) (σf := []) (l := zipD ([d0, d1, d2, d3, d4].map (dueD d5)) ([d0, d1, d2, d3, d4, d5].map .int)) ok S₂ (mkComp rfl rfl (by decide +kernel) .nil .nil) (by decide +kernel) (src_zip c.lt.hd (is_b T₂ T₂.glC rfl) (ev_name ok.kind S₂ rfl) (ev_name ok.kind S₂ rfl)) (by show 5 ≤ sizeLine; decide)
      (fun d => [("draw", t2 d), ("one", t1 d)]) (fun d => !isNo (t1 d)) (fun d => PyData.int (toI (t1 d) + menuS.getD (((toI (t2 d)).fdiv 14).fmod 4).toNat 0)) ?_ ?_ ?_ ?_ F
    · intro C W' s₁ v d Q E hd okc Sc dv h
      have : ∃ x y, d = .tuple [x, y] := by
        have hd : d ∈ [PyData.tuple [dueD d5 d0, .int d0], .tuple [dueD d5 d1, .int d1], .tuple [dueD d5 d2, .int d2], .tuple [dueD d5 d3, .int d3], .tuple [dueD d5 d4, .int d4]] := hd
        simp only [List.mem_cons, List.not_mem_nil, or_false] at hd
        rcases hd with rfl | rfl | rfl | rfl | rfl <;> exact ⟨_, _, rfl⟩
      obtain ⟨x, y, rfl⟩ := this
      exact asg_pair c.lt.hd okc rfl rfl Sc rfl rfl dv fun s' mv St' => h s' mv St'
    · intro d hd
      exact (Sb.nil).get
    · intro C W' d s' hd k okc Sc
      have : SmallD (t1 d) := by
        have hd : d ∈ [PyData.tuple [dueD d5 d0, .int d0], .tuple [dueD d5 d1, .int d1], .tuple [dueD d5 d2, .int d2], .tuple [dueD d5 d3, .int d3], .tuple [dueD d5 d4, .int d4]] := hd
        simp only [List.mem_cons, List.not_mem_nil, or_false] at hd
        rcases hd with rfl | rfl | rfl | rfl | rfl <;> exact due_small ..
      refine tests_one (tst_isnot (ev_name okc.kind Sc rfl) ev_none fun h x y p q => ?_)
      have q := q.isNone
      subst q
      rcases this with e | ⟨i, e, _⟩
      · rw [e] at p ⊢
        rw [p.isNone]
        exact ⟨rfl, by decide⟩
      · rw [e] at p ⊢
        obtain ⟨t, rfl⟩ := p.isInt
        exact ⟨rfl, rfl⟩
    · intro C W' d s' hd hp k okc Sc
      have : ∃ x y, SmallD x ∧ d = .tuple [x, .int y] := by
        have hd : d ∈ [PyData.tuple [dueD d5 d0, .int d0], .tuple [dueD d5 d1, .int d1], .tuple [dueD d5 d2, .int d2], .tuple [dueD d5 d3, .int d3], .tuple [dueD d5 d4, .int d4]] := hd
        simp only [List.mem_cons, List.not_mem_nil, or_false] at hd
        rcases hd with rfl | rfl | rfl | rfl | rfl <;> exact ⟨_, _, due_small .., rfl⟩
      obtain ⟨x, y, hx, rfl⟩ := this
      rcases hx with rfl | ⟨i, rfl, _⟩
      · cases hp
      · have r4 := fmod_range (a := y.fdiv 14) (b := 4) (by decide)
        exact ev_add (ev_name okc.kind Sc rfl) (ev_itemI menuS (ev_list Sc.ex (els_cons ev_int (els_cons ev_int (els_cons ev_int (els_cons ev_int els_nil)))) (by decide)) (ev_mod (ev_div (ev_name okc.kind Sc rfl) ev_int (by decide) (nolong (by decide))) ev_int (by decide)) r4.1 r4.2 (by decide))
  · have e := tells_eq d5 [.int d5] [d0, d1, d2, d3, d4]
    have e' : zipD ([d0, d1, d2, d3, d4].map (dueD d5)) ([d0, d1, d2, d3, d4, d5].map .int) = zipD ([d0, d1, d2, d3, d4].map (dueD d5)) ([d0, d1, d2, d3, d4].map .int ++ [.int d5]) := rfl
    rw [e', e] at S₃
    have hl := tells_len d5 [d0, d1, d2, d3, d4]
    generalize tellsOf d5 [d0, d1, d2, d3, d4] = ts at *
    have hl : ts.length ≤ 5 := hl
    have M₃ : Mv (ownC 14 L) s s₃ := (Mv.of k₂).trans (m₃.wide fun b m => by rw [mem1 m]; exact own14 (x := "tells") rfl)
    have T₃ := c.T.keeps (kGr (keepC K M₃ c.fresh))
    refine wpAny_execs_cons (ex_assign (a := L + 3) (d := .int ts.length) ok S₃ ?_ (.inr ⟨rfl, rfl⟩) fun s₄ m₄ S₄ => ?_)
    · have := ev_len (pos := ⟨73, 11, 73, 21⟩) (p := ⟨73, 11, 73, 14⟩) (w := w) (A := A) (prog := prog) (is_b (p := ⟨73, 11, 73, 14⟩) T₃ (T₃.glC rfl : Gl (lenv pm cd doc L a) mg mb _) (x := "len") rfl) (ev_name (p := ⟨73, 15, 73, 20⟩) ok.kind S₃ (x := "tells") rfl) (by rw [List.length_map]; omega)
      rw [List.length_map] at this
      exact this
    · exact next ts s₄ hl (M₃.trans (m₄.wide fun b m => by rw [mem1 m]; exact own14 (x := "many") rfl)) (S₄.re (.cons rfl (.cons rfl .nil)))
end
end Mine
end
section
open PySem PySem.Spec PySem.Calls PyProof.Rows PySem.W
set_option maxRecDepth 100000
set_option linter.unusedVariables false
namespace Mine
def matD (q : Int → Bool) (ts : List Int) : List PyData := ts.map fun x => .list (ts.map fun y => .bool (q (x - y)))
def farQ (n : Int) : Bool := decide (256 ≤ n)
def nearQ (n : Int) : Bool := decide (n < 256)
theorem mat_eq (q : Int → Bool) (ts : List Int) : ((ts.map PyData.int).map fun d => PyData.list (((ts.map PyData.int).filter fun _ => true).map fun e => PyData.bool (q (toI d - toI e)))) = matD q ts := by
  unfold matD
  rw [List.filter_eq_self.mpr (by simp), List.map_map]
  refine List.map_congr_left fun x _ => ?_
  simp only [Function.comp_def, List.map_map]
  rfl
theorem mat_get {q : Int → Bool} {ts : List Int} {i : Nat} (h : i < ts.length) : (matD q ts)[i]? = some (.list (ts.map fun y => .bool (q (ts.getD i 0 - y)))) := by
  unfold matD
  rw [List.getElem?_map, List.getElem?_eq_getElem h]
  simp [List.getD, List.getElem?_eq_getElem h]
theorem row_get {q : Int → Bool} {ts : List Int} {x : Int} {j : Nat} (h : j < ts.length) : (ts.map fun y => PyData.bool (q (x - y)))[j]? = some (.bool (q (x - ts.getD j 0))) := by
  rw [List.getElem?_map, List.getElem?_eq_getElem h]
  simp [List.getD, List.getElem?_eq_getElem h]
section
variable {prog : Program} {w : World} {A : Around} {E : Value → Shared → Prop} {W : List Addr} {s s₀ s₁ : Shared} {mg mb : Str → Option Value} {pm cd doc : Value} {L a : Addr}
theorem tst_cast {env : Env} {e : Expr} {b d : Bool} (h : b = d) (x : Tst prog w A s₀ env e b) : Tst prog w A s₀ env e d := h ▸ x
/-- an item of an item -/
theorem ev_mat {env : Env} {q : Int → Bool} {ts : List Int} {v i j : Expr} {p pos : Pos} {m n : Int} (hv : Ev prog w A W s₀ (eval v env) (.list (matD q ts))) (hi : Ev prog w A W s₀ (eval i env) (.int m)) (hj : Ev prog w A W s₀ (eval j env) (.int n)) (m0 : 0 ≤ m) (m1 : m < ts.length) (n0 : 0 ≤ n) (n1 : n < ts.length) (hz : ts.length < 100)
    (hs : ∀ l u, subscripted i false (.ref l) (.int m u) = operate [.ref l, .int m u] (getItem (.ref l) (.int m u)) := by intro _ _; with_unfolding_all rfl) (hs' : ∀ l u, subscripted j false (.ref l) (.int n u) = operate [.ref l, .int n u] (getItem (.ref l) (.int n u)) := by intro _ _; with_unfolding_all rfl) :
    Ev prog w A W s₀ (eval (.Subscript (.Subscript v i p) j pos) env) (.bool (q (ts.getD m.toNat 0 - ts.getD n.toNat 0))) :=
  ev_item (ev_item hv hi m0 (by omega) (mat_get (by omega)) hs) hj n0 (by omega) (row_get (by omega)) hs'
theorem law_D {ts : List Int} {Q : Flow → Shared → Prop} (c : LC prog w A W s₀ mg mb pm cd doc L a) (ht : ts.length ≤ 5) (K : Keeps s₀ s)
    (S : St (lenv pm cd doc L a) (ownC 14 L ++ W) [("many", .int ts.length), ("tells", .list (ts.map .int))] [] s)
    (next : ∀ s', Mv (ownC 14 L) s s' → St (lenv pm cd doc L a) (ownC 14 L ++ W) [("near", .list (matD nearQ ts)), ("far", .list (matD farQ ts)), ("many", .int ts.length), ("tells", .list (ts.map .int))] [] s' → wpAny (model prog w) A (execs (lbody.drop 12) (lenv pm cd doc L a)) Q E s') :
    wpAny (model prog w) A (execs (lbody.drop 9) (lenv pm cd doc L a)) Q E s := by
  have ok := c.ok
  have big : (100 : Nat) ≤ sizeLine := by decide
  have hlen : (ts.map PyData.int).length ≤ sizeLine := by rw [List.length_map]; omega
  have T := c.T.keeps (kGr K)
  refine wpAny_execs_cons (ex_assign (a := L + 4) (d := .list (matD farQ ts)) ok S (ev_lc S.ex fun pos' E' s₉ Q' k₉ F => ?_) (.inr ⟨rfl, rfl⟩) fun s₂ m₂ S₂ => ?_)
  · have S := S.keeps k₉
    have T := T.keeps (kGr k₉)
    rw [← mat_eq] at F
    refine comp1C (x₀ := "one") (cl := [("tells", L + 2)]) (σf := [("tells", .list (ts.map .int))]) (l := ts.map .int) ok S (mkComp rfl rfl (by decide +kernel) (.cons rfl .nil) (.cons rfl (.inl rfl) (.inl rfl) rfl .nil)) (fun n => rfl) (fun h => rfl) rfl rfl (src_list c.lt.hd (ev_name ok.kind S rfl)) hlen
      (fun d => PyData.list (((ts.map PyData.int).filter fun _ => true).map fun e => PyData.bool (farQ (toI d - toI e)))) ?_ F
    intro C W' d s' hd k okc Sc
    have T := T.keeps (kGr k)
    obtain ⟨x, _, rfl⟩ := List.mem_map.mp hd
    refine ev_lc Sc.ex fun pos' E' s₈ Q' k₈ F => ?_
    have Sc := Sc.keeps k₈
    have T := T.keeps (kGr k₈)
    refine comp1 (cl := [("one", C + 1)]) (σf := [("one", .int x)]) (l := ts.map .int) okc Sc (mkComp rfl rfl (by decide +kernel) (.cons rfl .nil) (.cons rfl (.inl rfl) (.inl rfl) rfl .nil)) (by decide +kernel) (src_list c.lt.hd (ev_name okc.kind Sc rfl)) hlen
      (fun d => [("two", d)]) (fun _ => true) (fun e => PyData.bool (farQ (x - toI e))) ?_ ?_ ?_ ?_ F
    · intro C' W'' s₄ v r Q E'' hr okd Sd dv h
      exact asg_name okd rfl Sd dv h
    · intro r hr; exact (Sb.cons rfl .nil).get
    · intro C' W'' r s₄ hr k₄ okd Sd
      exact tests_nil
    · intro C' W'' r s₄ hr _ k₄ okd Sd
      obtain ⟨y, _, rfl⟩ := List.mem_map.mp hr
      have T := T.keeps (kGr k₄)
      obtain ⟨f9, e9, F9⟩ := T.fn 9 (by decide)
      refine ev_call1 (W := W'') (is_glob (gl_comp (gl_comp T.glC rfl) rfl) e9) F9.can (d := .int (x - y)) (ev_sub (ev_name okd.kind Sd rfl) (ev_name okd.kind Sd rfl)) fun v s₅ k₅ p => ?_
      exact isnonterminal c.lt (T.keeps (kGr k₅)) (F9.keeps (kGr k₅)) (Sd.ex.mono (kGr k₅)) p
  have M₂ : Mv (ownC 14 L) s s₂ := m₂.wide fun b m => by rw [mem1 m]; exact own14 (x := "far") rfl
  have T₂ := c.T.keeps (kGr (keepC K M₂ c.fresh))
  refine wpAny_execs_cons (ex_assign (a := L + 5) (d := .list (matD nearQ ts)) ok S₂ (ev_lc S₂.ex fun pos' E' s₉ Q' k₉ F => ?_) (.inr ⟨rfl, rfl⟩) fun s₃ m₃ S₃ => ?_)
  · have S := S₂.keeps k₉
    have T := T₂.keeps (kGr k₉)
    rw [← mat_eq] at F
    refine comp1C (x₀ := "one") (cl := [("tells", L + 2)]) (σf := [("tells", .list (ts.map .int))]) (l := ts.map .int) ok S (mkComp rfl rfl (by decide +kernel) (.cons rfl .nil) (.cons rfl (.inl rfl) (.inl rfl) rfl .nil)) (fun n => rfl) (fun h => rfl) rfl rfl (src_list c.lt.hd (ev_name ok.kind S rfl)) hlen
      (fun d => PyData.list (((ts.map PyData.int).filter fun _ => true).map fun e => PyData.bool (nearQ (toI d - toI e)))) ?_ F
    intro C W' d s' hd k okc Sc
    have T := T.keeps (kGr k)
    obtain ⟨x, _, rfl⟩ := List.mem_map.mp hd
    refine ev_lc Sc.ex fun pos' E' s₈ Q' k₈ F => ?_
    have Sc := Sc.keeps k₈
    have T := T.keeps (kGr k₈)
    refine comp1 (cl := [("one", C + 1)]) (σf := [("one", .int x)]) (l := ts.map .int) okc Sc (mkComp rfl rfl (by decide +kernel) (.cons rfl .nil) (.cons rfl (.inl rfl) (.inl rfl) rfl .nil)) (by decide +kernel) (src_list c.lt.hd (ev_name okc.kind Sc rfl)) hlen
      (fun d => [("two", d)]) (fun _ => true) (fun e => PyData.bool (nearQ (x - toI e))) ?_ ?_ ?_ ?_ F
    · intro C' W'' s₄ v r Q E'' hr okd Sd dv h
      exact asg_name okd rfl Sd dv h
    · intro r hr; exact (Sb.cons rfl .nil).get
    · intro C' W'' r s₄ hr k₄ okd Sd
      exact tests_nil
    · intro C' W'' r s₄ hr _ k₄ okd Sd
      obtain ⟨y, _, rfl⟩ := List.mem_map.mp hr
      have T := T.keeps (kGr k₄)
      obtain ⟨f8, e8, F8⟩ := T.fn 8 (by decide)
      refine ev_call1 (W := W'') (is_glob (gl_comp (gl_comp T.glC rfl) rfl) e8) F8.can (d := .int (x - y)) (ev_sub (ev_name okd.kind Sd rfl) (ev_name okd.kind Sd rfl)) fun v s₅ k₅ p => ?_
      exact isterminal c.lt (T.keeps (kGr k₅)) (F8.keeps (kGr k₅)) (Sd.ex.mono (kGr k₅)) p
  have M₃ : Mv (ownC 14 L) s s₃ := M₂.trans (m₃.wide fun b m => by rw [mem1 m]; exact own14 (x := "near") rfl)
  have T₃ := c.T.keeps (kGr (keepC K M₃ c.fresh))
  refine wpAny_execs_cons (ex_if (c := false) ?_ (fun h => by cases h) (fun _ s₄ k₄ => wpAny_execs_nil ?_))
  · refine tst_neL (W := ownC 14 L ++ W) (dl := .list []) (dr := .list []) (ev_lc S₃.ex fun pos' E' s₉ Q' k₉ F => ?_) (ev_list S₃.ex els_nil) (by decide) (by decide) (by have := c.lt.un; show A.units + min 1 1 < cLine; omega)
    have S := S₃.keeps k₉
    have T := T₃.keeps (kGr k₉)
    have hout : (rng 0 ((ts.length : Int)).toNat).flatMap (fun d => ((rng 0 ((ts.length : Int)).toNat).filter fun _ => false).map fun _ => PyData.int 1) = [] := by simp
    rw [← hout] at F
    refine comp2 (cl := [("tells", L + 2), ("near", L + 5), ("many", L + 3), ("far", L + 4)]) (σf := [("tells", .list (ts.map .int)), ("near", .list (matD nearQ ts)), ("many", .int ts.length), ("far", .list (matD farQ ts))]) (l := rng 0 ((ts.length : Int)).toNat) ok S
      (mkComp rfl rfl (by decide +kernel) (.cons rfl (.cons rfl (.cons rfl (.cons rfl .nil)))) (.cons rfl (.inl rfl) (.inl rfl) rfl (.cons rfl (.inl rfl) (.inl rfl) rfl (.cons rfl (.inl rfl) (.inl rfl) rfl (.cons rfl (.inl rfl) (.inl rfl) rfl .nil))))) (by decide +kernel)
      (src_range1 c.lt.hd (is_b T T.glC rfl) (ev_name ok.kind S rfl) (by omega) (by omega)) (fun _ => rng 0 ((ts.length : Int)).toNat) ?_ (fun d => [("one", d)]) (fun _ d => [("two", d)]) (fun _ _ => false) (fun _ _ => .int 1) ?_ ?_ ?_ ?_ ?_ ?_ ?_ F
    · rw [List.map_const', List.sum_replicate_nat, rng_length]
      have : ((ts.length : Int)).toNat * ((ts.length : Int)).toNat ≤ 5 * 5 := Nat.mul_le_mul (by omega) (by omega)
      omega
    · intro C W'' s₄ v r Q E'' hr okc Sc dv h
      exact asg_name okc rfl Sc dv h
    · intro r hr; exact (Sb.cons rfl (.cons rfl (.cons rfl (.cons rfl .nil)))).get
    · intro C W'' r s₄ hr k₄ okc Sc
      have T := T.keeps (kGr k₄)
      exact src_range1 c.lt.hd (is_b T (gl_comp T.glC rfl) rfl) (ev_name okc.kind Sc rfl) (by omega) (by omega)
    · intro C W'' s₄ v r p Q E'' hr hp okc Sc dv h
      exact asg_name okc rfl Sc dv h
    · intro r hr p hp; exact (Sb.cons rfl (.cons rfl (.cons rfl (.cons rfl (.cons rfl .nil))))).get
    · intro C W'' r p s₄ hr hp k₄ okc Sc
      obtain ⟨m, rfl, m0, m1⟩ := rng_mem hr
      obtain ⟨n, rfl, n0, n1⟩ := rng_mem hp
      have hm : m.toNat < ts.length := by omega
      have hn : n.toNat < ts.length := by omega
      have gm : (ts.map PyData.int)[m.toNat]? = some (.int (ts.getD m.toNat 0)) := getD_int ts _ hm
      have gn : (ts.map PyData.int)[n.toNat]? = some (.int (ts.getD n.toNat 0)) := getD_int ts _ hn
      refine tests_one ?_
      have key : (decide (ts.getD m.toNat 0 ≤ ts.getD n.toNat 0) && (!(farQ (ts.getD m.toNat 0 - ts.getD n.toNat 0) == false) || !(nearQ (ts.getD m.toNat 0 - ts.getD n.toNat 0) == true))) = false := by
        unfold farQ nearQ
        by_cases h : ts.getD m.toNat 0 ≤ ts.getD n.toNat 0
        · rw [decide_eq_false (show ¬ (256 ≤ ts.getD m.toNat 0 - ts.getD n.toNat 0) by omega), decide_eq_true (show ts.getD m.toNat 0 - ts.getD n.toNat 0 < 256 by omega)]
          simp
        · rw [decide_eq_false h]; rfl
      refine tst_cast key (tst_and2 (tst_le (ev_item (ev_name okc.kind Sc rfl) (ev_name okc.kind Sc rfl) m0 (by omega) gm) (ev_item (ev_name okc.kind Sc rfl) (ev_name okc.kind Sc rfl) n0 (by omega) gn)) fun _ => ?_)
      refine tst_or2 (tst_isnot (ev_mat (ev_name okc.kind Sc rfl) (ev_name okc.kind Sc rfl) (ev_name okc.kind Sc rfl) m0 (by omega) n0 (by omega) (by omega)) ev_bool fun h x y p q => ?_) fun _ => tst_isnot (ev_mat (ev_name okc.kind Sc rfl) (ev_name okc.kind Sc rfl) (ev_name okc.kind Sc rfl) m0 (by omega) n0 (by omega) (by omega)) ev_bool fun h x y p q => ?_
      · rw [Bool.not_not]; exact is_bools _ _ h x y p q
      · rw [Bool.not_not]; exact is_bools _ _ h x y p q
    · intro C W'' r p s₄ hr hp hf k₄ okc Sc
      exact ev_int
  exact next s₄ (M₃.trans (Mv.of k₄)) (S₃.keeps k₄)
end
end Mine
end
section
open PySem PySem.Spec PySem.Calls PyProof.Rows PySem.W
set_option maxRecDepth 100000
set_option linter.unusedVariables false
namespace Mine
def ords : Nat → List (List Nat)
  | 0 => [[]]
  | n + 1 => (ords n).flatMap fun r => (List.range (n + 1)).map fun p => r.take p ++ [n] ++ r.drop p
def rowD (r : List Nat) : PyData := .list (r.map fun i => .int (i : Nat))
theorem rng_snoc : ∀ (a : Int) (n : Nat), rng a (n + 1) = rng a n ++ [.int (a + n)]
  | a, 0 => by simp [rng]
  | a, n + 1 => by
    have ih := rng_snoc (a + 1) n
    rw [rng, ih, rng, List.cons_append]
    congr 3
    congr 1
    omega
theorem rng_range : ∀ (n : Nat), rng 0 n = (List.range n).map fun i => PyData.int (i : Nat)
  | 0 => rfl
  | n + 1 => by rw [rng_snoc, rng_range n, List.range_succ, List.map_append]; simp
theorem ordersF_ords : ∀ n : Nat, ordersF n = (ords n).map rowD
  | 0 => rfl
  | n + 1 => by
    have ih := ordersF_ords n
    unfold ordersF at ih ⊢
    rw [rng_snoc, List.foldl_append, ih]
    show ordStep ((ords n).map rowD) (.int (0 + n)) = _
    unfold ordStep
    rw [Int.zero_add, ords, List.flatMap_map, List.map_flatMap]
    congr 1
    funext r
    have e : (toI (.int (n : Int)) + 1).toNat = n + 1 := by show ((n : Int) + 1).toNat = n + 1; omega
    rw [e, List.filter_eq_self.mpr (by simp), rng_range, List.map_map, List.map_map]
    refine List.map_congr_left fun p _ => ?_
    show ins (rowD r) (.int n) (.int p) = rowD _
    unfold ins rowD
    simp only [rowOf, toI, Int.toNat_natCast, List.map_append, List.map_take, List.map_drop, List.map_cons, List.map_nil]
theorem ords_row : ∀ {n : Nat} {r : List Nat}, r ∈ ords n → r.length = n ∧ ∀ i ∈ r, i < n
  | 0, r, m => by rw [List.mem_singleton.mp m]; exact ⟨rfl, fun i m => by cases m⟩
  | n + 1, r, m => by
    unfold ords at m
    obtain ⟨r', m', q⟩ := List.mem_flatMap.mp m
    obtain ⟨p, mp, rfl⟩ := List.mem_map.mp q
    obtain ⟨h1, h2⟩ := ords_row m'
    have hp := List.mem_range.mp mp
    refine ⟨?_, fun i m => ?_⟩
    · simp only [List.length_append, List.length_take, List.length_drop, List.length_singleton, h1]; omega
    · rcases List.mem_append.mp m with m | m
      · rcases List.mem_append.mp m with m | m
        · have := h2 i (List.mem_of_mem_take m); omega
        · rw [List.mem_singleton.mp m]; omega
      · have := h2 i (List.mem_of_mem_drop m); omega
theorem zip_mem : ∀ {l l' : List PyData} {d : PyData}, d ∈ zipD l l' → ∃ x y, d = .tuple [x, y] ∧ x ∈ l ∧ y ∈ l'
  | [], _, d, m => by simp [zipD] at m
  | _ :: _, [], d, m => by simp [zipD] at m
  | x :: l, y :: l', d, m => by
    rcases List.mem_cons.mp (show d ∈ .tuple [x, y] :: zipD l l' from m) with rfl | m
    · exact ⟨x, y, rfl, .head _, .head _⟩
    · obtain ⟨x', y', e, a, b⟩ := zip_mem m
      exact ⟨x', y', e, .tail _ a, .tail _ b⟩
/-- a pair of a row, asked by q -/
def pairQ (q : Int → Bool) (ts : List Int) (d : PyData) : Bool := q (ts.getD (toI (t1 d)).toNat 0 - ts.getD (toI (t2 d)).toNat 0)
def cntQ (q : Int → Bool) (ts : List Int) (d : PyData) : Nat := ((zipD (rowOf d) ((rowOf d).drop 1)).filter (pairQ q ts)).length
def bump (l : List Int) (k : Nat) : List Int := l.set k (l.getD k 0 + 1)
def cntStep (ts : List Int) (b : List Int × List Int) (d : PyData) : List Int × List Int := (bump b.1 (cntQ farQ ts d), bump b.2 (cntQ nearQ ts d))
theorem bump_len (l : List Int) (k : Nat) : (bump l k).length = l.length := by simp [bump]
theorem cnt_le {q : Int → Bool} {ts : List Int} {r : List Nat} (h : r.length ≤ 5) : cntQ q ts (rowD r) ≤ 4 := by
  unfold cntQ
  refine Nat.le_trans (List.length_filter_le _ _) ?_
  rw [zipD_len, List.length_drop]
  simp only [rowD, rowOf, List.length_map]
  omega
section
variable {prog : Program} {w : World} {A : Around} {E : Value → Shared → Prop} {W : List Addr} {s s₀ s₁ : Shared} {mg mb : Str → Option Value} {pm cd doc : Value} {L a : Addr}
/-- len of a comprehension that counts pairs -/
theorem ev_count {W' : List Addr} {env : Env} {σ : Sig} {ρ : Rho} {scope : Scope} {q : Int → Bool} {ts : List Int} {r : List Nat} {fname : Str} {fa : Addr} {p1 p2 p3 p4 p5 p6 p7 p8 p9 p10 p11 p12 p13 p14 : Pos} {k1 : Nat} {k2 : Nat} (hh : A.handled = none) (ok : EnvOk env W') (S : St env W' σ ρ s) (T : Tp mg mb s.heap) (G : Gl env mg mb s.heap) (hr : r.length ≤ 5) (hi : ∀ i ∈ r, i < ts.length) (ht : ts.length ≤ 5)
    (hp : σ.lookup ("pairs" : Str) = some (.list (zipD (r.map fun i => .int (i : Nat)) ((r.map fun i => .int (i : Nat)).drop 1))))
    (cok : CompOk env scope [(fname, fa)] σ [(fname, .list (matD q ts))]) (hcell : ∀ y ∈ scope.names, y.2 ≠ .cell)
    (l1 : (relabel scope env).names.lookup ("one" : Str) = some .local) (l2 : (relabel scope env).names.lookup ("two" : Str) = some .local) (n1 : (("one" : Str) == fname) = false) (n2 : (("two" : Str) == fname) = false) (n1' : (fname == ("one" : Str)) = false) (n2' : (fname == ("two" : Str)) = false)
    (hd : (fname == ("__debug__" : Str)) = false) (hc : (fname == ("__classdict__" : Str)) = false) (hg : env.kindOf ("len" : Str) = some .globalImplicit)
    (hs : starEach [Expr.ListComp (.Constant (.int 1) k1 p1) [⟨.Tuple [.Name "one" p2, .Name "two" p3] k2 p4, .Name "pairs" p5, [.Compare (.Subscript (.Subscript (.Name fname p6) (.Name "one" p7) p8) (.Name "two" p9) p10) [.Is] [.Constant (.bool true) 0 p11] p12], 0⟩] scope p13] env = [(false, eval (Expr.ListComp (.Constant (.int 1) k1 p1) [⟨.Tuple [.Name "one" p2, .Name "two" p3] k2 p4, .Name "pairs" p5, [.Compare (.Subscript (.Subscript (.Name fname p6) (.Name "one" p7) p8) (.Name "two" p9) p10) [.Is] [.Constant (.bool true) 0 p11] p12], 0⟩] scope p13) env)] := by rfl) {p15 : Pos} :
    Ev prog w A W' s (eval (.Call (.Name "len" p14) [.ListComp (.Constant (.int 1) k1 p1) [⟨.Tuple [.Name "one" p2, .Name "two" p3] k2 p4, .Name "pairs" p5, [.Compare (.Subscript (.Subscript (.Name fname p6) (.Name "one" p7) p8) (.Name "two" p9) p10) [.Is] [.Constant (.bool true) 0 p11] p12], 0⟩] scope p13] [] p15) env) (.int (cntQ q ts (rowD r))) := by
  have big : (100 : Nat) ≤ sizeLine := by decide
  have hcn : (cntQ q ts (rowD r) : Int) = (((zipD (r.map fun i => PyData.int (i : Nat)) ((r.map fun i => PyData.int (i : Nat)).drop 1)).filter (pairQ q ts)).map fun _ => PyData.int 1).length := by
    rw [List.length_map]; rfl
  rw [hcn]
  have hl : (zipD (r.map fun i => PyData.int (i : Nat)) ((r.map fun i => PyData.int (i : Nat)).drop 1)).length ≤ 5 := by
    rw [zipD_len, List.length_map]; omega
  refine ev_len (is_b T G rfl hg) (ev_lc S.ex fun pos' E' s₉ Q' k₉ F => ?_) ?_ hs
  · have S := S.keeps k₉
    have T := T.keeps (kGr k₉)
    have hb : ∀ d ∈ zipD (r.map fun i => PyData.int (i : Nat)) ((r.map fun i => PyData.int (i : Nat)).drop 1), ∃ i j : Nat, d = .tuple [.int i, .int j] ∧ i < ts.length ∧ j < ts.length := fun d m => by
      obtain ⟨x, y, rfl, mx, my⟩ := zip_mem m
      obtain ⟨i, hi', rfl⟩ := List.mem_map.mp mx
      obtain ⟨j, hj', rfl⟩ := List.mem_map.mp (List.mem_of_mem_drop my)
      exact ⟨i, j, rfl, hi i hi', hi j hj'⟩
    refine comp1 (cl := [(fname, fa)]) (σf := [(fname, .list (matD q ts))]) ok S cok hcell (src_list hh (ev_name ok.kind S hp)) (by omega) (fun d => [("two", t2 d), ("one", t1 d)]) (pairQ q ts) (fun _ => .int 1) ?_ ?_ ?_ ?_ F
    · intro C W'' s₄ v d Q E'' hd okc Sc dv h
      obtain ⟨i, j, rfl, _, _⟩ := hb d hd
      exact asg_pair hh okc l1 l2 Sc rfl rfl dv fun s' mv St' => h s' mv St'
    · intro d _ y e l
      rw [List.lookup_cons] at l
      cases z : y == fname with
      | false => rw [z] at l; cases l
      | true =>
        rw [z] at l
        rw [eq_of_beq z]
        show List.lookup fname [("two", t2 d), ("one", t1 d), (fname, .list (matD q ts))] = some e
        rw [List.lookup_cons, n2', List.lookup_cons, n1', List.lookup_cons, beq_self_eq_true]
        exact l
    · intro C W'' d s₄ hd' k₄ okc Sc
      obtain ⟨i, j, rfl, hi', hj'⟩ := hb d hd'
      have Sc : St (compEnvC scope [(fname, fa)] C env) W'' [("two", .int j), ("one", .int i), (fname, .list (matD q ts))] [] s₄ := Sc
      have hf : List.lookup fname [("two", PyData.int j), ("one", .int i), (fname, .list (matD q ts))] = some (.list (matD q ts)) := by
        rw [List.lookup_cons, n2', List.lookup_cons, n1', List.lookup_cons, beq_self_eq_true]
      refine tests_one (tst_cast (b := (q (ts.getD i 0 - ts.getD j 0) == true)) (by simp [pairQ, t1, t2, toI]) (tst_is (ev_mat (ev_name okc.kind Sc hf hd hc) (ev_name okc.kind Sc rfl) (ev_name okc.kind Sc rfl) (by omega) (by omega) (by omega) (by omega) (by omega)) ev_bool fun h x y p q => ?_))
      exact is_bools _ _ h x y p q
    · intro C W'' d s₄ _ _ k₄ okc Sc
      exact ev_int
  · rw [List.length_map]
    have := List.length_filter_le (pairQ q ts) (zipD (r.map fun i => PyData.int (i : Nat)) ((r.map fun i => PyData.int (i : Nat)).drop 1))
    omega
end
end Mine
end
section
open PySem PySem.Spec PySem.Calls PyProof.Rows PySem.W
set_option maxRecDepth 100000
set_option linter.unusedVariables false
namespace Mine
def zero6 : List Int := [0, 0, 0, 0, 0, 0]
def counts (ts : List Int) : List Int × List Int := (ordersF ts.length).foldl (cntStep ts) (zero6, zero6)
section
variable {prog : Program} {w : World} {A : Around} {E : Value → Shared → Prop} {W : List Addr} {s s₀ s₁ : Shared} {mg mb : Str → Option Value} {pm cd doc : Value} {L a : Addr}
theorem bump_map (l : List Int) (k : Nat) : (bump l k).map PyData.int = (l.map PyData.int).set k (.int (l.getD k 0 + 1)) := by
  unfold bump
  rw [List.map_set]
theorem law_turn2 {W' V : List Addr} {ts : List Int} {r : List Nat} {a1 a2 : Addr} {fc sc : List Int} (c : LC prog w A W s₀ mg mb pm cd doc L a) (K : Keeps s₀ s) (hV : ∀ b ∈ V, s₀.heap.get? b = none) (oV : ∀ b ∈ ownC 14 L, b ∈ V) (m1 : a1 ∈ V) (m2 : a2 ∈ V) (ne : a1 ≠ a2) (ok : EnvOk (lenv pm cd doc L a) W') (ht : ts.length ≤ 5) (hr : r.length ≤ 5) (hi : ∀ i ∈ r, i < ts.length) (hf : fc.length = 6) (hs : sc.length = 6)
    (S : St (lenv pm cd doc L a) W' [("row", rowD r), ("near", .list (matD nearQ ts)), ("far", .list (matD farQ ts)), ("many", .int ts.length), ("tells", .list (ts.map .int))] [("stays", a2, sc.map .int), ("falls", a1, fc.map .int)] s) :
    wpAny (model prog w) A (execs (match lbody.getD 14 (.Pass default) with | .For _ _ body _ _ => body | _ => []) (lenv pm cd doc L a)) (fun f s₃ => f = .next ∧ Mv V s s₃ ∧ St (lenv pm cd doc L a) W' [("near", .list (matD nearQ ts)), ("far", .list (matD farQ ts)), ("many", .int ts.length), ("tells", .list (ts.map .int))] [("stays", a2, (bump sc (cntQ nearQ ts (rowD r))).map .int), ("falls", a1, (bump fc (cntQ farQ ts (rowD r))).map .int)] s₃) E s := by
  have LV : ∀ b ∈ [L], b ∈ V := fun b m => by rw [mem1 m]; exact oV _ (.head _)
  have big : (100 : Nat) ≤ sizeLine := by decide
  have T := c.T.keeps (kGr K)
  have G : Gl (lenv pm cd doc L a) mg mb s.heap := T.glC rfl
  refine wpAny_execs_cons (ex_assign (a := L) (d := .list (zipD (r.map fun i => .int (i : Nat)) ((r.map fun i => .int (i : Nat)).drop 1))) ok S ?_ (.inl ⟨rfl, rfl⟩) fun s₂ k₂ S₂ => ?_)
  · refine ev_listzip c.lt.hd S.ex (is_b T G rfl) (is_b T G rfl) (ev_name ok.kind S rfl) ?_ (by rw [List.length_map]; omega)
    have := ev_slice (pos := ⟨81, 30, 81, 37⟩) (p := ⟨81, 34, 81, 36⟩) (w := w) (A := A) (prog := prog) (ds := r.map fun i => .int (i : Nat)) S.ex (ev_name (p := ⟨81, 30, 81, 33⟩) ok.kind S (x := "row") rfl) (pt_some (W := W') (ev_int (k := 0) (i := 1) (pos := ⟨81, 34, 81, 35⟩))) pt_none pt_none (by decide) (by rw [List.length_map]; omega)
    rw [pick_from (by decide)] at this
    exact this
  have M₂ : Mv V s s₂ := k₂.wide LV
  have T₂ := c.T.keeps (kGr (keepC K M₂ hV))
  refine wpAny_execs_cons (ex_assign (a := L) (d := .int (cntQ farQ ts (rowD r))) ok S₂ (ev_count (fa := L + 4) c.lt.hd ok S₂ T₂ (T₂.glC rfl) hr hi ht rfl (mkComp rfl rfl (by decide +kernel) (.cons rfl .nil) (.cons rfl (.inl rfl) (.inl rfl) rfl .nil)) (by decide +kernel) rfl rfl (by decide) (by decide) (by decide) (by decide) (by decide) (by decide) rfl) (.inl ⟨rfl, rfl⟩) fun s₃ k₃ S₃ => ?_)
  have M₃ : Mv V s s₃ := M₂.trans (k₃.wide LV)
  have T₃ := c.T.keeps (kGr (keepC K M₃ hV))
  refine wpAny_execs_cons (ex_assign (a := L) (d := .int (cntQ nearQ ts (rowD r))) ok S₃ (ev_count (fa := L + 5) c.lt.hd ok S₃ T₃ (T₃.glC rfl) hr hi ht rfl (mkComp rfl rfl (by decide +kernel) (.cons rfl .nil) (.cons rfl (.inl rfl) (.inl rfl) rfl .nil)) (by decide +kernel) rfl rfl (by decide) (by decide) (by decide) (by decide) (by decide) (by decide) rfl) (.inl ⟨rfl, rfl⟩) fun s₄ k₄ S₄ => ?_)
  have M₄ : Mv V s s₄ := M₃.trans (k₄.wide LV)
  have c1 := cnt_le (q := farQ) (ts := ts) hr
  have c2 := cnt_le (q := nearQ) (ts := ts) hr
  generalize cntQ farQ ts (rowD r) = kf at *
  generalize cntQ nearQ ts (rowD r) = kn at *
  rw [bump_map, bump_map]
  refine wpAny_execs_cons (ex_setI (a := a1) (ds := fc.map .int) (d := .int (fc.getD kf 0 + 1)) (k := (kf : Int)) (ρ' := [("stays", a2, sc.map .int), ("falls", a1, (fc.map .int).set kf (.int (fc.getD kf 0 + 1)))]) ok S₄ rfl (.keep rfl ne.symm (.hit .nil)) (ev_add (ev_itemM ok.kind S₄ rfl (ev_name ok.kind S₄ rfl) (by omega) (by omega) (getD_int fc kf (by omega))) ev_int) (ev_name ok.kind S₄ rfl) (by omega) (by rw [List.length_map]; omega) (by rw [List.length_map]; omega) fun s₅ k₅ S₅ => ?_)
  have M₅ : Mv V s s₅ := M₄.trans (k₅.wide fun b m => by rw [mem1 m]; exact m1)
  refine wpAny_execs_cons (ex_setI (a := a2) (ds := sc.map .int) (d := .int (sc.getD kn 0 + 1)) (k := (kn : Int)) (ρ' := [("stays", a2, (sc.map .int).set kn (.int (sc.getD kn 0 + 1))), ("falls", a1, (fc.map .int).set kf (.int (fc.getD kf 0 + 1)))]) ok S₅ rfl (.hit (.keep rfl ne .nil)) (ev_add (ev_itemM ok.kind S₅ rfl (ev_name ok.kind S₅ rfl) (by omega) (by omega) (getD_int sc kn (by omega))) ev_int) (ev_name ok.kind S₅ rfl) (by omega) (by rw [List.length_map]; omega) (by rw [List.length_map]; omega) fun s₆ k₆ S₆ => wpAny_execs_nil ⟨rfl, M₅.trans (k₆.wide fun b m => by rw [mem1 m]; exact m2), ?_⟩)
  exact S₆.re (.cons rfl (.cons rfl (.cons rfl (.cons rfl .nil))))
end
end Mine
end
section
open PySem PySem.Spec PySem.Calls PyProof.Rows PySem.W
set_option maxRecDepth 100000
set_option linter.unusedVariables false
namespace Mine
theorem cnt_len (ts : List Int) : ∀ (l : List PyData) (b : List Int × List Int), b.1.length = 6 ∧ b.2.length = 6 → (l.foldl (cntStep ts) b).1.length = 6 ∧ (l.foldl (cntStep ts) b).2.length = 6
  | [], b, h => h
  | d :: l, b, h => cnt_len ts l (cntStep ts b d) ⟨by rw [show (cntStep ts b d).1 = bump b.1 (cntQ farQ ts d) from rfl, bump_len]; exact h.1, by rw [show (cntStep ts b d).2 = bump b.2 (cntQ nearQ ts d) from rfl, bump_len]; exact h.2⟩
section
variable {prog : Program} {w : World} {A : Around} {E : Value → Shared → Prop} {W : List Addr} {s s₀ s₁ : Shared} {mg mb : Str → Option Value} {pm cd doc : Value} {L a : Addr}
theorem law_E {ts : List Int} {Q : Flow → Shared → Prop} (c : LC prog w A W s₀ mg mb pm cd doc L a) (ht : ts.length ≤ 5) (K : Keeps s₀ s)
    (S : St (lenv pm cd doc L a) (ownC 14 L ++ W) [("near", .list (matD nearQ ts)), ("far", .list (matD farQ ts)), ("many", .int ts.length), ("tells", .list (ts.map .int))] [] s)
    (next : ∀ s', Mv (ownC 14 L) s s' → St (lenv pm cd doc L a) (ownC 14 L ++ W) [("stays", .list ((counts ts).2.map .int)), ("falls", .list ((counts ts).1.map .int)), ("many", .int ts.length), ("tells", .list (ts.map .int))] [] s' → wpAny (model prog w) A (execs (lbody.drop 15) (lenv pm cd doc L a)) Q E s') :
    wpAny (model prog w) A (execs (lbody.drop 12) (lenv pm cd doc L a)) Q E s := by
  have ok := c.ok
  have LW : L ∈ ownC 14 L := .head _
  have W6 : L + 6 ∈ ownC 14 L := own14 (x := "falls") rfl
  have W7 : L + 7 ∈ ownC 14 L := own14 (x := "stays") rfl
  refine wpAny_execs_cons (ex_assignLC (c₀ := L + 6) ok S do_zeros rfl rfl fun a1 s₂ n1 m₂ ok₂ S₂ => ?_)
  refine wpAny_execs_cons (ex_assignLC (c₀ := L + 7) ok₂ S₂ do_zeros rfl rfl fun a2 s₃ n2 m₃ ok₃ S₃ => ?_)
  have M₃ : Mv (ownC 14 L) s s₃ := (m₂.wide fun b m => by rw [mem1 m]; exact W6).trans (m₃.wide fun b m => by rw [mem1 m]; exact W7)
  have K₃ : Keeps s₀ s₃ := keepC K M₃ c.fresh
  have n2' : s.heap.get? a2 = none := noneBack m₂ n2
  have e1 : ∃ o, s₂.heap.get? a1 = some o := S₂.ex a1 (.head _)
  have ne : a1 ≠ a2 := fun e => by obtain ⟨o, q⟩ := e1; rw [e, n2] at q; cases q
  have off1 : a1 ∉ ownC 14 L ++ W := fun m => by obtain ⟨o, q⟩ := S.ex a1 m; rw [n1] at q; cases q
  have off2 : a2 ∉ ownC 14 L ++ W := fun m => by obtain ⟨o, q⟩ := S.ex a2 m; rw [n2'] at q; cases q
  have fr0 : ∀ b ∈ a2 :: a1 :: ownC 14 L, s₀.heap.get? b = none := fun b m => by
    rcases List.mem_cons.mp m with rfl | m
    · exact isNone_of_gr (kGr K) n2'
    · rcases List.mem_cons.mp m with rfl | m
      · exact isNone_of_gr (kGr K) n1
      · exact c.fresh b m
  have z6 : List.replicate 6 (PyData.int 0) = zero6.map .int := rfl
  rw [z6] at S₃
  have T₃ := c.T.keeps (kGr K₃)
  obtain ⟨f12, e12, F12⟩ := T₃.fn 12 (by decide)
  refine wpAny_execs_cons ?_
  refine ex_fold (W := a2 :: a1 :: (ownC 14 L ++ W)) (c := L) (l := ordersF ts.length) (a2 :: a1 :: ownC 14 L) (cntStep ts) (fun b => [("near", .list (matD nearQ ts)), ("far", .list (matD farQ ts)), ("many", .int ts.length), ("tells", .list (ts.map .int))]) (fun b => [("stays", a2, b.2.map .int), ("falls", a1, b.1.map .int)]) (fun b l' => b.1.length = 6 ∧ b.2.length = 6 ∧ ∀ d ∈ l', ∃ r : List Nat, d = rowD r ∧ r.length = ts.length ∧ ∀ i ∈ r, i < ts.length) (zero6, zero6) ok₃ S₃ (src_list c.lt.hd ?_) (fun b m => ?_) (.inl ⟨rfl, rfl⟩) (by simp [LW]) (fun b y x es l => ?_) (fun _ => rfl) ⟨rfl, rfl, ?_⟩ ?_ ?_
  · refine ev_call1 (W := a2 :: a1 :: (ownC 14 L ++ W)) (is_glob (T₃.glC rfl : Gl (lenv pm cd doc L a) mg mb _) e12) F12.can (ev_name ok.kind S₃ rfl) fun v s₄ k₄ p => ?_
    exact orders (n := (ts.length : Int)) c.lt (T₃.keeps (kGr k₄)) (F12.keeps (kGr k₄)) (S₃.ex.mono (kGr k₄)) (by omega) (by omega) p
  · rcases List.mem_cons.mp m with rfl | m
    · exact .head _
    · rcases List.mem_cons.mp m with rfl | m
      · exact .tail _ (.head _)
      · exact .tail _ (.tail _ (List.mem_append_left _ m))
  · have := mem_of_lookup l
    simp only [List.mem_cons, List.not_mem_nil, or_false, Prod.mk.injEq] at this
    rcases this with ⟨_, rfl, _⟩ | ⟨_, rfl, _⟩
    · exact .head _
    · exact .tail _ (.head _)
  · intro d m
    rw [ordersF_ords] at m
    obtain ⟨r, hr, rfl⟩ := List.mem_map.mp m
    exact ⟨r, rfl, ords_row hr⟩
  · rintro W' b d l' s₄ E' sub mv ok' ⟨hl1, hl2, hi⟩ S₄
    obtain ⟨r, rfl, hr, hri⟩ := hi d (.head _)
    have K₄ := mv s₀ K₃ fr0
    have := law_turn2 (W' := W') (V := a2 :: a1 :: ownC 14 L) (E := E') c K₄ fr0 (fun b m => .tail _ (.tail _ m)) (.tail _ (.head _)) (.head _) ne ok' ht (by omega) hri hl1 hl2 S₄
    refine wpAny_mono this (fun f s₅ h => ?_) fun _ _ h => h
    obtain ⟨h1, h2, h3⟩ := h
    refine ⟨h1, h2, ⟨?_, ?_, fun d m => hi d (.tail _ m)⟩, h3⟩
    · show (bump _ _).length = 6
      rw [bump_len]; exact hl1
    · show (bump _ _).length = 6
      rw [bump_len]; exact hl2
  · intro s₄ m₄ _ S₄
    have mAll : Mv (a2 :: a1 :: ownC 14 L) s s₄ := (M₃.wide fun b m => by simp [m]).trans m₄
    have mOwn : Mv (ownC 14 L) s s₄ := mAll.keeps fun b m => by
      rcases List.mem_cons.mp m with rfl | m
      · exact .inr n2'
      · rcases List.mem_cons.mp m with rfl | m
        · exact .inr n1
        · exact .inl m
    have S₄ : St (lenv pm cd doc L a) (a2 :: a1 :: (ownC 14 L ++ W)) [("near", .list (matD nearQ ts)), ("far", .list (matD farQ ts)), ("many", .int ts.length), ("tells", .list (ts.map .int))] [("stays", a2, (counts ts).2.map .int), ("falls", a1, (counts ts).1.map .int)] s₄ := S₄
    have F1 : St (lenv pm cd doc L a) (a1 :: (ownC 14 L ++ W)) (("stays", .list ((counts ts).2.map .int)) :: [("near", .list (matD nearQ ts)), ("far", .list (matD farQ ts)), ("many", .int ts.length), ("tells", .list (ts.map .int))]) [("falls", a1, (counts ts).1.map .int)] s₄ := by
      refine S₄.freeze (x := "stays") (a := a2) rfl (fun b m => ⟨.tail _ m, fun q => ?_⟩) fun y b es l => ?_
      · subst q
        rcases List.mem_cons.mp m with q | m
        · exact ne q.symm
        · exact off2 m
      · have := mem_of_lookup l
        simp only [List.mem_cons, List.not_mem_nil, or_false, Prod.mk.injEq] at this
        obtain ⟨rfl, rfl, rfl⟩ := this
        exact ⟨rfl, .head _⟩
    have F2 : St (lenv pm cd doc L a) (ownC 14 L ++ W) (("falls", .list ((counts ts).1.map .int)) :: ("stays", .list ((counts ts).2.map .int)) :: [("near", .list (matD nearQ ts)), ("far", .list (matD farQ ts)), ("many", .int ts.length), ("tells", .list (ts.map .int))]) [] s₄ :=
      F1.freeze (x := "falls") (a := a1) rfl (fun b m => ⟨.tail _ m, fun q => off1 (q ▸ m)⟩) fun y b es l => by cases l
    exact next s₄ mOwn (F2.re (.cons rfl (.cons rfl (.cons rfl (.cons rfl .nil)))))
end
end Mine
end
section
open PySem PySem.Spec PySem.Calls PyProof.Rows PySem.W
set_option maxRecDepth 100000
set_option linter.unusedVariables false
namespace Mine
def lowN (line : List Int) (p : Nat) : Nat := ((line.take p).filter fun x => decide (line.getD p 0 - x < 256)).length
def wayStep (line : List Int) (R : Int) (b : Int) (d : PyData) : Int := b * (R + lowN line (toI d).toNat)
def waysF (line : List Int) (R : Int) (n : Nat) : Int := (rng 0 n).foldl (wayStep line R) 1
def sumF (ts : List Int) (R : Int) : Int := ((List.range (ts.length + 1)).map fun (c : Nat) => (counts ts).1.getD c 0 * chooseF (R + ts.length - 1 - c) ts.length).sum
def sumS (ts : List Int) (R : Int) : Int := ((List.range (ts.length + 1)).map fun (c : Nat) => (counts ts).2.getD c 0 * chooseF (R + c) ts.length).sum
/-- what the last loop asks -/
def PlainOk (ts : List Int) : Prop := ∀ line : List Int, line.Perm ts → line.Pairwise (· ≤ ·) → ∀ R : Int, 1 ≤ R → R ≤ 5 → sumF ts R = waysF line R ts.length ∧ sumS ts R = waysF line R ts.length
theorem bump_get {α : Type} (key : α → Nat) (k : Nat) : ∀ (l : List α) (b : List Int), k < b.length → (l.foldl (fun b d => bump b (key d)) b).getD k 0 = b.getD k 0 + ((l.filter fun d => key d == k).length : Nat)
  | [], b, h => by simp
  | d :: l, b, h => by
    rw [List.foldl_cons, bump_get key k l _ (by rw [bump_len]; exact h), List.filter_cons]
    by_cases q : key d = k
    · rw [if_pos (by simpa using q), List.length_cons, q]
      have : (bump b k).getD k 0 = b.getD k 0 + 1 := by simp [bump, h]
      rw [this]
      omega
    · rw [if_neg (by simpa using q)]
      have : (bump b (key d)).getD k 0 = b.getD k 0 := by simp [bump, List.getElem?_set, q]
      rw [this]
theorem fold_fst (ts : List Int) : ∀ (l : List PyData) (b : List Int × List Int), l.foldl (cntStep ts) b = (l.foldl (fun b d => bump b (cntQ farQ ts d)) b.1, l.foldl (fun b d => bump b (cntQ nearQ ts d)) b.2)
  | [], b => rfl
  | d :: l, b => fold_fst ts l _
theorem zero6_get : ∀ k : Nat, zero6.getD k 0 = 0
  | 0 => rfl
  | 1 => rfl
  | 2 => rfl
  | 3 => rfl
  | 4 => rfl
  | 5 => rfl
  | k + 6 => rfl
theorem counts_get (ts : List Int) {k : Nat} (h : k < 6) : (counts ts).1.getD k 0 = (((ordersF ts.length).filter fun d => cntQ farQ ts d == k).length : Nat) ∧ (counts ts).2.getD k 0 = (((ordersF ts.length).filter fun d => cntQ nearQ ts d == k).length : Nat) := by
  unfold counts
  rw [fold_fst]
  have e1 := bump_get (cntQ farQ ts) k (ordersF ts.length) zero6 h
  have e2 := bump_get (cntQ nearQ ts) k (ordersF ts.length) zero6 h
  rw [zero6_get, Int.zero_add] at e1 e2
  exact ⟨e1, e2⟩
theorem ords_few : ∀ n : Nat, n < 6 → (ords n).length ≤ 120 := by decide +kernel
theorem counts_few (ts : List Int) (ht : ts.length ≤ 5) {k : Nat} (h : k < 6) : ((counts ts).1.getD k 0).natAbs ≤ 120 ∧ ((counts ts).2.getD k 0).natAbs ≤ 120 := by
  obtain ⟨e1, e2⟩ := counts_get ts h
  have hl : (ordersF ts.length).length ≤ 120 := by rw [ordersF_ords, List.length_map]; exact ords_few _ (by omega)
  have h1 := List.length_filter_le (fun d => cntQ farQ ts d == k) (ordersF ts.length)
  have h2 := List.length_filter_le (fun d => cntQ nearQ ts d == k) (ordersF ts.length)
  rw [e1, e2]
  omega
theorem ch_bits {m : Int} (hm : m.natAbs < 1000) : ∀ (k : Nat) (p b : Int), 0 ≤ p → p + k ≤ 100 → Builtin.Int.intBits ((rng p k).foldl (chStep m) b) ≤ Builtin.Int.intBits b + 64 * k
  | 0, p, b, _, _ => Nat.le_refl _
  | k + 1, p, b, p0, pk => by
    rw [rng, List.foldl_cons]
    have bits : Builtin.Int.intBits (m - p) ≤ 64 := PyProof.Rows.intBits_le (by omega)
    have h1 : Builtin.Int.intBits (chStep m b (.int p)) ≤ Builtin.Int.intBits b + 64 := bits_fdiv (bits_mul (Nat.le_refl _) bits)
    have := ch_bits hm k (p + 1) (chStep m b (.int p)) (by omega) (by omega)
    omega
theorem choose_bits {m : Int} (hm : m.natAbs < 1000) {n : Nat} (hn : n ≤ 100) : Builtin.Int.intBits (chooseF m n) ≤ 6500 := by
  have := ch_bits hm n 0 1 (by decide) (by omega)
  have e : Builtin.Int.intBits 1 = 1 := by decide
  unfold chooseF
  omega
theorem comp_sum (g : Nat → Int) (n : Nat) : ((rng 0 n).filter fun _ => true).map (fun d => PyData.int (g (toI d).toNat)) = ((List.range n).map g).map PyData.int := by
  rw [List.filter_eq_self.mpr (by simp), rng_range, List.map_map, List.map_map]
  refine List.map_congr_left fun i _ => ?_
  simp [toI]
end Mine
end
section
open PySem PySem.Spec PySem.Calls PyProof.Rows PySem.W
set_option maxRecDepth 100000
set_option linter.unusedVariables false
namespace Mine
section
variable {prog : Program} {w : World} {A : Around} {E : Value → Shared → Prop} {W : List Addr} {s s₀ s₁ : Shared} {mg mb : Str → Option Value} {pm cd doc : Value} {L a : Addr}
def sigF (ts line : List Int) : Sig := [("line", .list (line.map .int)), ("stays", .list ((counts ts).2.map .int)), ("falls", .list ((counts ts).1.map .int)), ("many", .int ts.length)]
theorem counts_len (ts : List Int) : (counts ts).1.length = 6 ∧ (counts ts).2.length = 6 := cnt_len ts _ _ ⟨rfl, rfl⟩
/-- ways, for one number of rows -/
theorem law_ways {W' : List Addr} {ts line : List Int} {R : Int} {Q : Flow → Shared → Prop} (c : LC prog w A W s₀ mg mb pm cd doc L a) (ht : ts.length ≤ 5) (hl : line.length = ts.length) (R0 : 1 ≤ R) (R5 : R ≤ 5) (K : Keeps s₀ s) (ok : EnvOk (lenv pm cd doc L a) W') (sub : ∀ b ∈ ownC 14 L, b ∈ W')
    (S : St (lenv pm cd doc L a) W' (("rows", .int R) :: sigF ts line) [] s)
    (next : ∀ s', Mv (ownC 14 L) s s' → St (lenv pm cd doc L a) W' (("ways", .int (waysF line R ts.length)) :: ("rows", .int R) :: sigF ts line) [] s' → wpAny (model prog w) A (execs ((match lbody.getD 16 (.Pass default) with | .For _ _ body _ _ => body | _ => []).drop 2) (lenv pm cd doc L a)) Q E s') :
    wpAny (model prog w) A (execs (match lbody.getD 16 (.Pass default) with | .For _ _ body _ _ => body | _ => []) (lenv pm cd doc L a)) Q E s := by
  have LW : L ∈ ownC 14 L := .head _
  have W10 : L + 10 ∈ ownC 14 L := own14 (x := "place") rfl
  have big : (100 : Nat) ≤ sizeLine := by decide
  refine wpAny_execs_cons (ex_assign (a := L) ok S ev_int (.inl ⟨rfl, rfl⟩) fun s₂ m₂ S₂ => ?_)
  have M₂ : Mv (ownC 14 L) s s₂ := m₂.wide fun b m => by rw [mem1 m]; exact LW
  have K₂ := keepC K M₂ c.fresh
  have T₂ := c.T.keeps (kGr K₂)
  refine wpAny_execs_cons ?_
  refine ex_fold (W := W') (c := L + 10) (l := rng 0 ((ts.length : Int)).toNat) (ownC 14 L) (wayStep line R) (fun b => ("ways", .int b) :: ("rows", .int R) :: sigF ts line) (fun _ => []) (fun b l' => Builtin.Int.intBits b + 10 * l'.length ≤ 1000 ∧ ∃ p k, l' = rng p k ∧ 0 ≤ p ∧ p + k ≤ ts.length) 1 ok S₂ (src_range1 c.lt.hd (is_b T₂ T₂.glC rfl) (ev_name ok.kind S₂ rfl) (by omega) (by omega)) sub (.inr ⟨rfl, rfl⟩) W10 (fun _ _ _ _ l => by cases l) (fun _ => rfl) ⟨?_, 0, ts.length, rfl, by decide, by omega⟩ ?_ ?_
  · have e : Builtin.Int.intBits 1 = 1 := by decide
    rw [e, rng_length]; omega
  · rintro W'' b d l' s₃ E' sub' mv ok' ⟨hb, p, k, e, p0, pk⟩ S₃
    match k, e with
    | k + 1, e =>
      injection e with e1 e2
      subst e1; subst e2
      rw [List.length_cons, rng_length] at hb
      have T₃ := c.T.keeps (kGr (mv s₀ K₂ c.fresh))
      have hp : p.toNat < line.length := by omega
      have hlow : lowN line p.toNat ≤ 5 := by
        unfold lowN
        have h1 := List.length_filter_le (fun x => decide (line.getD p.toNat 0 - x < 256)) (line.take p.toNat)
        have h2 := List.length_take_le p.toNat line
        have h3 : (line.take p.toNat).length ≤ line.length := by rw [List.length_take]; omega
        omega
      have bits : Builtin.Int.intBits (R + lowN line p.toNat) ≤ 10 := PyProof.Rows.intBits_le (by omega)
      have hcn : (lowN line p.toNat : Int) = ((((line.map PyData.int).take p.toNat).filter fun d => decide (line.getD p.toNat 0 - toI d < 256)).map fun d => d).length := by
        unfold lowN
        rw [List.map_id', ← List.map_take, List.filter_map, List.length_map]
        rfl
      refine wpAny_execs_cons (ex_assign (a := L) (d := .int (wayStep line R b (.int p))) ok' S₃ (ev_mul (ev_name ok'.kind S₃ rfl) (ev_add (ev_name ok'.kind S₃ rfl) (b := (lowN line p.toNat : Int)) ?_) (mulok (m := 1000) (n := 10) (by omega) bits (by decide))) (.inl ⟨rfl, rfl⟩) fun s₄ m₄ S₄ => wpAny_execs_nil ⟨rfl, m₄.wide fun b m => by rw [mem1 m]; exact LW, ⟨?_, p + 1, k, rfl, by omega, by omega⟩, S₄.re (.cons rfl (.cons rfl (.cons rfl (.cons rfl (.cons rfl (.cons rfl .nil))))))⟩)
      · rw [hcn]
        refine ev_len (is_b T₃ (T₃.glC rfl : Gl (lenv pm cd doc L a) mg mb _) rfl) (ev_lc S₃.ex fun pos' E' s₉ Q' k₉ F => ?_) ?_
        · have S := S₃.keeps k₉
          have hl9 : ((line.map PyData.int).take p.toNat).length ≤ sizeLine := by rw [List.length_take, List.length_map]; omega
          have esl : Ev prog w A W'' s₉ (eval (.Subscript (.Name "line" ⟨90, 54, 90, 58⟩) (.Slice none (some (.Name "place" ⟨90, 60, 90, 65⟩)) none ⟨90, 59, 90, 65⟩) ⟨90, 54, 90, 66⟩) (lenv pm cd doc L a)) (.list ((line.map PyData.int).take p.toNat)) := by
            have := ev_slice (pos := ⟨90, 54, 90, 66⟩) (p := ⟨90, 59, 90, 65⟩) (w := w) (A := A) (prog := prog) S.ex (ev_name (p := ⟨90, 54, 90, 58⟩) ok'.kind S (x := "line") rfl) pt_none (pt_some (ev_name (p := ⟨90, 60, 90, 65⟩) ok'.kind S (x := "place") rfl)) pt_none (by decide) (by rw [List.length_map]; omega)
            rw [pick_upto p0] at this
            exact this
          refine comp1 (cl := [("place", L + 10), ("line", L + 8)]) (σf := [("place", .int p), ("line", .list (line.map .int))]) ok' S (mkComp rfl rfl (by decide +kernel) (.cons rfl (.cons rfl .nil)) (.cons rfl (.inl rfl) (.inl rfl) rfl (.cons rfl (.inl rfl) (.inl rfl) rfl .nil))) (by decide +kernel) (src_list c.lt.hd esl) hl9
            (fun d => [("low", d)]) (fun d => decide (line.getD p.toNat 0 - toI d < 256)) (fun d => d) ?_ ?_ ?_ ?_ F
          · intro C' W3 s₄ v r Q E'' hr okd Sd dv h
            exact asg_name okd rfl Sd dv h
          · intro r hr; exact (Sb.cons rfl (.cons rfl .nil)).get
          · intro C' W3 r s₄ hr k₄ okd Sd
            obtain ⟨y, _, rfl⟩ := List.mem_map.mp (List.mem_of_mem_take hr)
            exact tests_one (tst_lt (ev_sub (ev_item (ev_name okd.kind Sd rfl) (ev_name okd.kind Sd rfl) p0 (by omega) (getD_int line _ hp)) (ev_name okd.kind Sd rfl)) ev_int)
          · intro C' W3 r s₄ hr _ k₄ okd Sd
            exact ev_name okd.kind Sd rfl
        · rw [List.length_map]
          have h1 := List.length_filter_le (fun d => decide (line.getD p.toNat 0 - toI d < 256)) ((line.map PyData.int).take p.toNat)
          have h3 : ((line.map PyData.int).take p.toNat).length ≤ 5 := by rw [List.length_take, List.length_map]; omega
          omega
      · have : Builtin.Int.intBits (wayStep line R b (.int p)) ≤ Builtin.Int.intBits b + 10 := bits_mul (Nat.le_refl _) bits
        rw [rng_length]
        omega
  · intro s₃ m₃ _ S₃
    exact next s₃ (M₂.trans m₃) S₃
end
end Mine
end
section
open PySem PySem.Spec PySem.Calls PyProof.Rows PySem.W
set_option maxRecDepth 100000
set_option linter.unusedVariables false
namespace Mine
section
variable {prog : Program} {w : World} {A : Around} {E : Value → Shared → Prop} {W : List Addr} {s s₀ s₁ : Shared} {mg mb : Str → Option Value} {pm cd doc : Value} {L a : Addr}
/-- the two tests -/
theorem law_tests {W' : List Addr} {ts line : List Int} {R : Int} {Q : Flow → Shared → Prop} (c : LC prog w A W s₀ mg mb pm cd doc L a) (ht : ts.length ≤ 5) (R0 : 1 ≤ R) (R5 : R ≤ 5) (hF : sumF ts R = waysF line R ts.length) (hS : sumS ts R = waysF line R ts.length) (K : Keeps s₀ s) (ok : EnvOk (lenv pm cd doc L a) W')
    (S : St (lenv pm cd doc L a) W' (("ways", .int (waysF line R ts.length)) :: ("rows", .int R) :: sigF ts line) [] s)
    (next : ∀ s', Keeps s s' → Q .next s') :
    wpAny (model prog w) A (execs ((match lbody.getD 16 (.Pass default) with | .For _ _ body _ _ => body | _ => []).drop 2) (lenv pm cd doc L a)) Q E s := by
  have big : (100 : Nat) ≤ sizeLine := by decide
  have T := c.T.keeps (kGr K)
  have hn1 : ((ts.length : Int) + 1).toNat = ts.length + 1 := by omega
  have hrl : (rng 0 ((ts.length : Int) + 1 - 0).toNat).length ≤ sizeLine := by rw [rng_length]; omega
  refine wpAny_execs_cons (ex_if (c := false) ?_ (fun h => by cases h) (fun _ s₂ k₂ => wpAny_execs_nil ?_))
  · refine tst_cast (b := (sumF ts R != waysF line R ts.length)) (by rw [hF]; simp) (tst_ne (ev_sum c.lt.hd (is_b T (T.glC rfl : Gl (lenv pm cd doc L a) mg mb _) rfl) (ev_lc S.ex fun pos' E' s₉ Q' k₉ F => ?_)) (ev_name ok.kind S rfl))
    have S := S.keeps k₉
    have T := T.keeps (kGr k₉)
    rw [← comp_sum (fun (c : Nat) => (counts ts).1.getD c 0 * chooseF (R + ts.length - 1 - c) ts.length) (ts.length + 1), ← hn1] at F
    refine comp1 (cl := [("rows", L + 9), ("many", L + 3), ("falls", L + 6)]) (σf := [("rows", .int R), ("many", .int ts.length), ("falls", .list ((counts ts).1.map .int))]) ok S (mkComp rfl rfl (by decide +kernel) (.cons rfl (.cons rfl (.cons rfl .nil))) (.cons rfl (.inl rfl) (.inl rfl) rfl (.cons rfl (.inl rfl) (.inl rfl) rfl (.cons rfl (.inl rfl) (.inl rfl) rfl .nil)))) (by decide +kernel) (src_range1 c.lt.hd (is_b T T.glC rfl) (ev_add (ev_name ok.kind S rfl) ev_int) (by omega) (by omega)) (by rw [rng_length]; omega)
      (fun d => [("count", d)]) (fun _ => true) (fun d => PyData.int ((counts ts).1.getD (toI d).toNat 0 * chooseF (R + ts.length - 1 - ((toI d).toNat : Int)) ts.length)) ?_ ?_ ?_ ?_ F
    · intro C' W3 s₄ v r Q E'' hr okd Sd dv h
      exact asg_name okd rfl Sd dv h
    · intro r hr; exact (Sb.cons rfl (.cons rfl (.cons rfl .nil))).get
    · intro C' W3 r s₄ hr k₄ okd Sd
      exact tests_nil
    · intro C' W3 r s₄ hr _ k₄ okd Sd
      obtain ⟨k, rfl, k0, k1⟩ := rng_mem hr
      have T := T.keeps (kGr k₄)
      obtain ⟨f13, e13, F13⟩ := T.fn 13 (by decide)
      have hk : k.toNat < 6 := by omega
      have hkk : ((toI (.int k)).toNat : Int) = k := by show ((k.toNat : Nat) : Int) = k; omega
      rw [hkk]
      have cb := choose_bits (m := R + ts.length - 1 - k) (by omega) (n := ts.length) (by omega)
      have fb : Builtin.Int.intBits ((counts ts).1.getD k.toNat 0) ≤ 10 := PyProof.Rows.intBits_le (by have := (counts_few ts ht hk).1; omega)
      refine ev_mul (ev_item (ev_name okd.kind Sd rfl) (ev_name okd.kind Sd rfl) k0 (by omega) (getD_int _ _ (by rw [(counts_len ts).1]; exact hk))) (ev_call2 (W := W3) (is_glob (gl_comp T.glC rfl) e13) F13.can (ev_sub (ev_sub (ev_add (ev_name okd.kind Sd rfl) (ev_name okd.kind Sd rfl)) ev_int) (ev_name okd.kind Sd rfl)) (ev_name okd.kind Sd rfl) fun v v' s₅ k₅ p p' => ?_) (mulok (m := 10) (n := 6500) fb cb (by decide))
      exact choose (n := (ts.length : Int)) c.lt (T.keeps (kGr k₅)) (F13.keeps (kGr k₅)) (Sd.ex.mono (kGr k₅)) (by omega) (by omega) (by omega) p p'
  have S₂ := S.keeps k₂
  have T₂ := T.keeps (kGr k₂)
  refine wpAny_execs_cons (ex_if (c := false) ?_ (fun h => by cases h) (fun _ s₃ k₃ => wpAny_execs_nil (wpAny_execs_nil (next s₃ (kTrans k₂ k₃)))))
  · refine tst_cast (b := (sumS ts R != waysF line R ts.length)) (by rw [hS]; simp) (tst_ne (ev_sum c.lt.hd (is_b T₂ (T₂.glC rfl : Gl (lenv pm cd doc L a) mg mb _) rfl) (ev_lc S₂.ex fun pos' E' s₉ Q' k₉ F => ?_)) (ev_name ok.kind S₂ rfl))
    have S := S₂.keeps k₉
    have T := T₂.keeps (kGr k₉)
    rw [← comp_sum (fun (c : Nat) => (counts ts).2.getD c 0 * chooseF (R + c) ts.length) (ts.length + 1), ← hn1] at F
    refine comp1 (cl := [("stays", L + 7), ("rows", L + 9), ("many", L + 3)]) (σf := [("stays", .list ((counts ts).2.map .int)), ("rows", .int R), ("many", .int ts.length)]) ok S (mkComp rfl rfl (by decide +kernel) (.cons rfl (.cons rfl (.cons rfl .nil))) (.cons rfl (.inl rfl) (.inl rfl) rfl (.cons rfl (.inl rfl) (.inl rfl) rfl (.cons rfl (.inl rfl) (.inl rfl) rfl .nil)))) (by decide +kernel) (src_range1 c.lt.hd (is_b T T.glC rfl) (ev_add (ev_name ok.kind S rfl) ev_int) (by omega) (by omega)) (by rw [rng_length]; omega)
      (fun d => [("count", d)]) (fun _ => true) (fun d => PyData.int ((counts ts).2.getD (toI d).toNat 0 * chooseF (R + ((toI d).toNat : Int)) ts.length)) ?_ ?_ ?_ ?_ F
    · intro C' W3 s₄ v r Q E'' hr okd Sd dv h
      exact asg_name okd rfl Sd dv h
    · intro r hr; exact (Sb.cons rfl (.cons rfl (.cons rfl .nil))).get
    · intro C' W3 r s₄ hr k₄ okd Sd
      exact tests_nil
    · intro C' W3 r s₄ hr _ k₄ okd Sd
      obtain ⟨k, rfl, k0, k1⟩ := rng_mem hr
      have T := T.keeps (kGr k₄)
      obtain ⟨f13, e13, F13⟩ := T.fn 13 (by decide)
      have hk : k.toNat < 6 := by omega
      have hkk : ((toI (.int k)).toNat : Int) = k := by show ((k.toNat : Nat) : Int) = k; omega
      rw [hkk]
      have cb := choose_bits (m := R + k) (by omega) (n := ts.length) (by omega)
      have fb : Builtin.Int.intBits ((counts ts).2.getD k.toNat 0) ≤ 10 := PyProof.Rows.intBits_le (by have := (counts_few ts ht hk).2; omega)
      refine ev_mul (ev_item (ev_name okd.kind Sd rfl) (ev_name okd.kind Sd rfl) k0 (by omega) (getD_int _ _ (by rw [(counts_len ts).2]; exact hk))) (ev_call2 (W := W3) (is_glob (gl_comp T.glC rfl) e13) F13.can (ev_add (ev_name okd.kind Sd rfl) (ev_name okd.kind Sd rfl)) (ev_name okd.kind Sd rfl) fun v v' s₅ k₅ p p' => ?_) (mulok (m := 10) (n := 6500) fb cb (by decide))
      exact choose (n := (ts.length : Int)) c.lt (T.keeps (kGr k₅)) (F13.keeps (kGr k₅)) (Sd.ex.mono (kGr k₅)) (by omega) (by omega) (by omega) p p'
theorem law_F {ts : List Int} {Q : Flow → Shared → Prop} (c : LC prog w A W s₀ mg mb pm cd doc L a) (ht : ts.length ≤ 5) (hP : PlainOk ts) (K : Keeps s₀ s)
    (S : St (lenv pm cd doc L a) (ownC 14 L ++ W) [("stays", .list ((counts ts).2.map .int)), ("falls", .list ((counts ts).1.map .int)), ("many", .int ts.length), ("tells", .list (ts.map .int))] [] s)
    (next : ∀ s', Mv (ownC 14 L) s s' → Q (.ret (.bool true)) s') :
    wpAny (model prog w) A (execs (lbody.drop 15) (lenv pm cd doc L a)) Q E s := by
  have ok := c.ok
  have W8 : L + 8 ∈ ownC 14 L := own14 (x := "line") rfl
  have W9 : L + 9 ∈ ownC 14 L := own14 (x := "rows") rfl
  have T := c.T.keeps (kGr K)
  refine wpAny_execs_cons (wpAny_Assign_Name ((ev_sorted (P := fun _ _ => True) S.ex (is_b T (T.glC rfl : Gl (lenv pm cd doc L a) mg mb _) rfl) (ev_name ok.kind S rfl) (by omega)).nest (kRefl s) fun v s₁ k₁ pv => ?_))
  obtain ⟨line, hperm, hsort, dv⟩ := pv
  have hl : line.length = ts.length := hperm.length_eq
  refine store_any ok (S.keeps k₁) (.inr ⟨rfl, rfl⟩ : Sto (lenv pm cd doc L a) "line" (L + 8)) dv rfl fun s₂ m₂ S₂ => ?_
  have M₂ : Mv (ownC 14 L) s s₂ := (Mv.of k₁).trans (m₂.wide fun b m => by rw [mem1 m]; exact W8)
  have K₂ := keepC K M₂ c.fresh
  have T₂ := c.T.keeps (kGr K₂)
  have S₂ : St (lenv pm cd doc L a) (ownC 14 L ++ W) (sigF ts line) [] s₂ := S₂.re (.cons rfl (.cons rfl (.cons rfl (.cons rfl .nil))))
  refine wpAny_execs_cons ?_
  refine ex_fold (W := ownC 14 L ++ W) (c := L + 9) (l := rng 1 ((6 : Int) - 1).toNat) (ownC 14 L) (fun (b : Unit) _ => b) (fun _ => sigF ts line) (fun _ => []) (fun _ l' => ∃ p k, l' = rng p k ∧ 1 ≤ p ∧ p + k ≤ 6) () ok S₂ (src_range2 c.lt.hd (is_b T₂ T₂.glC rfl) ev_int ev_int (by decide) (by decide) (by decide) (by decide)) (fun b m => List.mem_append_left _ m) (.inr ⟨rfl, rfl⟩) W9 (fun _ _ _ _ l => by cases l) (fun _ => rfl) ⟨1, 5, rfl, by decide, by decide⟩ ?_ ?_
  · rintro W'' b d l' s₃ E' sub' mv ok' ⟨p, k, e, p0, pk⟩ S₃
    match k, e with
    | k + 1, e =>
      injection e with e1 e2
      subst e1; subst e2
      have K₃ := mv s₀ K₂ c.fresh
      obtain ⟨hF, hS⟩ := hP line hperm hsort p p0 (by omega)
      refine law_ways c ht hl p0 (by omega) K₃ ok' (fun b m => sub' b (List.mem_append_left _ m)) S₃ fun s₄ m₄ S₄ => ?_
      refine law_tests c ht p0 (by omega) hF hS (keepC K₃ m₄ c.fresh) ok' S₄ fun s₅ k₅ => ⟨rfl, m₄.trans (Mv.of k₅), ⟨p + 1, k, rfl, by omega, by omega⟩, (S₄.keeps k₅).re (.cons rfl (.cons rfl (.cons rfl (.cons rfl .nil))))⟩
  · intro s₃ m₃ _ S₃
    refine wpAny_execs_cons (ex_ret (W := ownC 14 L ++ W) (d := .bool true) ev_bool fun v s' k' dv => ?_)
    rw [dv.isBool]
    exact next s' (M₂.trans (m₃.trans (Mv.of k')))
end
end Mine
end
section
open PySem PySem.Spec PySem.Calls PyProof.Rows PySem.W
set_option maxRecDepth 100000
set_option linter.unusedVariables false
namespace Mine
section
variable {prog : Program} {w : World} {A : Around} {E : Value → Shared → Prop} {W : List Addr} {s s₀ s₁ : Shared} {mg mb : Str → Option Value}
theorem law_call {a : Addr} {v : Value} {ns : List Int} (lt : Lt 2 A) (T : Tp mg mb s₀.heap) (Z : Tz prog w mg s₀.heap) (F : FnAt s₀.heap 14 a) (X : Ex W s₀.heap) (hn : ns.length ≤ 63) (dv : Den (fz W s₀.heap) v (.list (ns.map .int)))
    (HZ : ∀ d5 d, ZOk d5 d) (HP : ∀ ts : List Int, ts.length ≤ 5 → PlainOk ts) : Ev prog w A W s₀ (call (.ref a) [v]) (.bool true) := by
  refine call_fnC (i := 14) (k := 1) (x := "script") lt F T.lim X dv (fun _ _ _ => rfl) (by decide +kernel) fun pm cd doc L s₁ E k₁ hL lt' ok S => ?_
  have c : LC prog w (A.deeper (callEnvC (fdAt 14 pm cd doc) L a)) W s₀ mg mb pm cd doc L a := ⟨lt', T, Z, ok, hL⟩
  refine law_A c hn k₁ S fun d0 d1 d2 d3 d4 d5 s₂ m₂ S₂ => ?_
  refine law_B c (HZ d5) (keepC k₁ m₂ hL) S₂ fun s₃ m₃ S₃ => ?_
  have M₃ := m₂.trans m₃
  refine law_C c (keepC k₁ M₃ hL) S₃ fun ts s₄ ht m₄ S₄ => ?_
  have M₄ := M₃.trans m₄
  refine law_D c ht (keepC k₁ M₄ hL) S₄ fun s₅ m₅ S₅ => ?_
  have M₅ := M₄.trans m₅
  refine law_E c ht (keepC k₁ M₅ hL) S₅ fun s₆ m₆ S₆ => ?_
  have M₆ := M₅.trans m₆
  refine law_F c ht (HP ts ht) (keepC k₁ M₆ hL) S₆ fun s₇ m₇ => ?_
  exact ⟨.bool true, rfl, M₆.trans m₇, Den.bool ..⟩
end
end Mine
end
section
open PySem PySem.Spec PySem.Calls PyProof.Rows PySem.W
set_option maxRecDepth 100000
set_option linter.unusedVariables false
namespace Mine
/-- neighbours that q takes -/
def adj (q : Nat → Nat → Bool) : List Nat → Nat
  | a :: b :: l => (if q a b = true then 1 else 0) + adj q (b :: l)
  | _ => 0
def matB (M : List (List Bool)) (i j : Nat) : Bool := (M.getD i []).getD j false
def hist (q : Nat → Nat → Bool) (n : Nat) : Nat := (ords n).foldl (fun h r => h + 1000 ^ adj q r) 0
def histAt (h k : Nat) : Nat := h / 1000 ^ k % 1000
def lowB (B : Nat → Nat → Bool) (p : Nat) : Nat := ((List.range p).filter fun j => !B p j).length
def waysB (B : Nat → Nat → Bool) (R : Int) (n : Nat) : Int := (List.range n).foldl (fun b p => b * (R + lowB B p)) 1
def chkR (n : Nat) (M : List (List Bool)) (hF hS : Nat) (R : Int) : Bool :=
  ((List.range (n + 1)).map fun (c : Nat) => (histAt hF c : Int) * chooseF (R + n - 1 - c) n).sum == waysB (matB M) R n && ((List.range (n + 1)).map fun (c : Nat) => (histAt hS c : Int) * chooseF (R + c) n).sum == waysB (matB M) R n
def chk (n : Nat) (M : List (List Bool)) : Bool := ([1, 2, 3, 4, 5] : List Int).all (chkR n M (hist (matB M) n) (hist (fun i j => !matB M i j) n))
def imp (a b : Bool) : Bool := !a || b
theorem chk0 : chk 0 [] = true := by decide +kernel
theorem chk1 : chk 1 [[]] = true := by decide +kernel
theorem chk2 : ∀ b10 : Bool, chk 2 [[], [b10]] = true := by decide +kernel
theorem chk3 : ∀ b10 b20 b21 : Bool, (imp b10 b20 && imp b21 b20) = true → chk 3 [[], [b10], [b20, b21]] = true := by decide +kernel
theorem chk4 : ∀ b10 b20 b21 b30 b31 b32 : Bool, (imp b10 b20 && imp b21 b20 && imp b20 b30 && imp b21 b31 && imp b31 b30 && imp b32 b31) = true → chk 4 [[], [b10], [b20, b21], [b30, b31, b32]] = true := by decide +kernel
theorem chk5a : ∀ b20 b21 b30 b31 b32 b40 b41 b42 b43 : Bool, (imp false b20 && imp b21 b20 && imp b20 b30 && imp b21 b31 && imp b31 b30 && imp b32 b31 && imp b30 b40 && imp b31 b41 && imp b32 b42 && imp b41 b40 && imp b42 b41 && imp b43 b42) = true → chk 5 [[], [false], [b20, b21], [b30, b31, b32], [b40, b41, b42, b43]] = true := by decide +kernel
theorem chk5b : ∀ b20 b21 b30 b31 b32 b40 b41 b42 b43 : Bool, (imp true b20 && imp b21 b20 && imp b20 b30 && imp b21 b31 && imp b31 b30 && imp b32 b31 && imp b30 b40 && imp b31 b41 && imp b32 b42 && imp b41 b40 && imp b42 b41 && imp b43 b42) = true → chk 5 [[], [true], [b20, b21], [b30, b31, b32], [b40, b41, b42, b43]] = true := by decide +kernel
theorem chk5 : ∀ b10 b20 b21 b30 b31 b32 b40 b41 b42 b43 : Bool, (imp b10 b20 && imp b21 b20 && imp b20 b30 && imp b21 b31 && imp b31 b30 && imp b32 b31 && imp b30 b40 && imp b31 b41 && imp b32 b42 && imp b41 b40 && imp b42 b41 && imp b43 b42) = true → chk 5 [[], [b10], [b20, b21], [b30, b31, b32], [b40, b41, b42, b43]] = true
  | false => chk5a
  | true => chk5b
end Mine
end
section
open PySem PySem.Spec PySem.Calls PyProof.Rows PySem.W
set_option maxRecDepth 100000
set_option linter.unusedVariables false
namespace Mine
def insAll (x : Int) : List Int → List (List Int)
  | [] => [[x]]
  | a :: v => (x :: a :: v) :: (insAll x v).map (a :: ·)
def arrR : List Int → List (List Int)
  | [] => [[]]
  | x :: l => (arrR l).flatMap (insAll x)
theorem insAll_range (x : Int) : ∀ v : List Int, insAll x v = (List.range (v.length + 1)).map fun p => v.take p ++ [x] ++ v.drop p
  | [] => rfl
  | a :: v => by
    rw [insAll, insAll_range x v, List.length_cons, List.range_succ_eq_map (n := v.length + 1), List.map_cons, List.map_map, List.map_map]
    rfl
theorem ords_arr (f : Nat → Int) : ∀ n : Nat, (ords n).map (fun r => r.map f) = arrR ((List.range n).map f).reverse
  | 0 => rfl
  | n + 1 => by
    rw [List.range_succ, List.map_append, List.reverse_append]
    show _ = (arrR ((List.range n).map f).reverse).flatMap (insAll (f n))
    rw [← ords_arr f n, ords, List.map_flatMap, List.flatMap_map]
    rw [List.flatMap_def, List.flatMap_def]
    congr 1
    refine List.map_congr_left fun r hr => ?_
    rw [insAll_range, List.length_map, (ords_row hr).1, List.map_map]
    refine List.map_congr_left fun p _ => ?_
    simp
theorem flat_cons {α β : Type} (f : α → β) (g : α → List β) : ∀ l : List α, (l.flatMap fun u => f u :: g u).Perm (l.map f ++ l.flatMap g)
  | [] => .nil
  | a :: l => by
    rw [List.flatMap_cons, List.flatMap_cons, List.map_cons, List.cons_append, List.cons_append]
    refine .cons _ ?_
    have ih := flat_cons f g l
    refine ((List.Perm.refl (g a)).append ih).trans ?_
    rw [← List.append_assoc, ← List.append_assoc]
    exact List.perm_append_comm.append (.refl _)
theorem ins_swap (x y : Int) : ∀ v : List Int, ((insAll y v).flatMap (insAll x)).Perm ((insAll x v).flatMap (insAll y))
  | [] => .swap ..
  | a :: v => by
    have ih := ins_swap x y v
    have side : ∀ x y : Int, ((insAll y (a :: v)).flatMap (insAll x)).Perm ((x :: y :: a :: v) :: (y :: x :: a :: v) :: ((insAll x v).map (fun u => y :: a :: u) ++ ((insAll y v).map (fun u => x :: a :: u) ++ ((insAll y v).flatMap (insAll x)).map (a :: ·)))) := fun x y => by
      have e1 : (insAll y (a :: v)).flatMap (insAll x) = insAll x (y :: a :: v) ++ (insAll y v).flatMap (fun u => insAll x (a :: u)) := by
        rw [insAll, List.flatMap_cons, List.flatMap_map]
      have e2 : insAll x (y :: a :: v) = (x :: y :: a :: v) :: (y :: x :: a :: v) :: (insAll x v).map (fun u => y :: a :: u) := by
        rw [insAll, insAll, List.map_cons, List.map_map]; rfl
      rw [e1, e2, List.cons_append, List.cons_append]
      refine .cons _ (.cons _ (.append (.refl _) ?_))
      have := flat_cons (fun u => x :: a :: u) (fun u => (insAll x u).map (a :: ·)) (insAll y v)
      rw [List.map_flatMap]
      exact this
    refine (side x y).trans (.trans ?_ (side y x).symm)
    refine (List.Perm.swap ..).trans (.cons _ (.cons _ ?_))
    rw [← List.append_assoc, ← List.append_assoc]
    exact List.perm_append_comm.append (ih.map _)
theorem flat_left {α β : Type} {f g : α → List β} (h : ∀ a, (f a).Perm (g a)) : ∀ l : List α, (l.flatMap f).Perm (l.flatMap g)
  | [] => .nil
  | a :: l => by rw [List.flatMap_cons, List.flatMap_cons]; exact (h a).append (flat_left h l)
theorem arr_perm {l l' : List Int} (h : l.Perm l') : (arrR l).Perm (arrR l') := by
  induction h with
  | nil => exact .refl _
  | cons x _ ih => exact ih.flatMap_right _
  | swap x y l =>
    show ((((arrR l).flatMap (insAll x)).flatMap (insAll y))).Perm (((arrR l).flatMap (insAll y)).flatMap (insAll x))
    rw [List.flatMap_assoc, List.flatMap_assoc]
    exact flat_left (fun v => ins_swap y x v) _
  | trans _ _ i1 i2 => exact i1.trans i2
/-- neighbours of a list of ints that q takes -/
def desV (q : Int → Bool) : List Int → Nat
  | a :: b :: l => (if q (a - b) = true then 1 else 0) + desV q (b :: l)
  | _ => 0
theorem des_map (q : Int → Bool) (f : Nat → Int) : ∀ r : List Nat, desV q (r.map f) = adj (fun i j => q (f i - f j)) r
  | [] => rfl
  | [a] => rfl
  | a :: b :: l => by
    have := des_map q f (b :: l)
    show (if q (f a - f b) = true then 1 else 0) + desV q ((b :: l).map f) = _
    rw [this]; rfl
theorem range_getD (ts : List Int) : (List.range ts.length).map (fun i => ts.getD i 0) = ts := by
  refine List.ext_getElem (by simp) fun i h1 h2 => ?_
  simp [List.getD, List.getElem?_eq_getElem h2]
/-- how many orders have k such neighbours does not hang on the clocks' order -/
theorem count_perm (q : Int → Bool) (k : Nat) {ts line : List Int} (h : line.Perm ts) : ((ords ts.length).filter fun r => adj (fun i j => q (ts.getD i 0 - ts.getD j 0)) r == k).length = ((ords ts.length).filter fun r => adj (fun i j => q (line.getD i 0 - line.getD j 0)) r == k).length := by
  have key : ∀ us : List Int, us.length = ts.length → ((ords ts.length).filter fun r => adj (fun i j => q (us.getD i 0 - us.getD j 0)) r == k).length = ((arrR us.reverse).filter fun v => desV q v == k).length := fun us hu => by
    have e := ords_arr (fun i => us.getD i 0) us.length
    rw [range_getD] at e
    rw [← e, List.filter_map, List.length_map, hu]
    congr 2
    funext r
    simp only [Function.comp_apply]
    rw [des_map]
  rw [key ts rfl, key line h.length_eq]
  have : (arrR ts.reverse).Perm (arrR line.reverse) := arr_perm ((List.reverse_perm ts).trans (h.symm.trans (List.reverse_perm line).symm))
  exact (this.filter _).length_eq
theorem cnt_adj (q : Int → Bool) (ts : List Int) : ∀ r : List Nat, cntQ q ts (rowD r) = adj (fun i j => q (ts.getD i 0 - ts.getD j 0)) r
  | [] => rfl
  | [a] => rfl
  | a :: b :: l => by
    have ih := cnt_adj q ts (b :: l)
    have e : cntQ q ts (rowD (a :: b :: l)) = (((PyData.tuple [.int (a : Nat), .int (b : Nat)]) :: zipD (rowOf (rowD (b :: l))) ((rowOf (rowD (b :: l))).drop 1)).filter (pairQ q ts)).length := rfl
    rw [e, List.filter_cons]
    have e2 : pairQ q ts (.tuple [.int (a : Nat), .int (b : Nat)]) = q (ts.getD a 0 - ts.getD b 0) := rfl
    rw [e2]
    have e3 : ((zipD (rowOf (rowD (b :: l))) ((rowOf (rowD (b :: l))).drop 1)).filter (pairQ q ts)).length = adj (fun i j => q (ts.getD i 0 - ts.getD j 0)) (b :: l) := ih
    rw [adj]
    split
    · rw [List.length_cons, e3]; omega
    · rw [e3]; omega
theorem counts_adj {ts line : List Int} (h : line.Perm ts) {k : Nat} (hk : k < 6) : (counts ts).1.getD k 0 = (((ords ts.length).filter fun r => adj (fun i j => farQ (line.getD i 0 - line.getD j 0)) r == k).length : Nat) ∧ (counts ts).2.getD k 0 = (((ords ts.length).filter fun r => adj (fun i j => nearQ (line.getD i 0 - line.getD j 0)) r == k).length : Nat) := by
  obtain ⟨e1, e2⟩ := counts_get ts hk
  have go : ∀ q : Int → Bool, ((ordersF ts.length).filter fun d => cntQ q ts d == k).length = ((ords ts.length).filter fun r => adj (fun i j => q (line.getD i 0 - line.getD j 0)) r == k).length := fun q => by
    rw [ordersF_ords, List.filter_map, List.length_map, ← count_perm q k h]
    congr 2
    funext r
    simp only [Function.comp_apply]
    rw [cnt_adj]
  rw [e1, e2, go, go]
  exact ⟨rfl, rfl⟩
end Mine
end
section
open PySem PySem.Spec PySem.Calls PyProof.Rows PySem.W
set_option maxRecDepth 100000
set_option linter.unusedVariables false
namespace Mine
theorem adj_le (q : Nat → Nat → Bool) : ∀ r : List Nat, adj q r ≤ r.length
  | [] => Nat.le_refl _
  | [a] => Nat.zero_le _
  | a :: b :: l => by
    have := adj_le q (b :: l)
    rw [adj, List.length_cons]
    split <;> omega
theorem adj_congr {q q' : Nat → Nat → Bool} {n : Nat} (h : ∀ i j, i < n → j < n → q i j = q' i j) : ∀ r : List Nat, (∀ i ∈ r, i < n) → adj q r = adj q' r
  | [], _ => rfl
  | [a], _ => rfl
  | a :: b :: l, m => by
    rw [adj, adj, h a b (m a (.head _)) (m b (.tail _ (.head _))), adj_congr h (b :: l) fun i k => m i (.tail _ k)]
theorem hist_fold {α : Type} (key : α → Nat) : ∀ (l : List α) (h : Nat), (∀ r ∈ l, key r < 6) → l.foldl (fun h r => h + 1000 ^ key r) h = h + ((l.filter fun r => key r == 0).length + 1000 * (l.filter fun r => key r == 1).length + 1000000 * (l.filter fun r => key r == 2).length + 1000000000 * (l.filter fun r => key r == 3).length + 1000000000000 * (l.filter fun r => key r == 4).length + 1000000000000000 * (l.filter fun r => key r == 5).length)
  | [], h, _ => by simp
  | a :: l, h, hk => by
    rw [List.foldl_cons, hist_fold key l _ fun r m => hk r (.tail _ m)]
    have ha := hk a (.head _)
    have : key a = 0 ∨ key a = 1 ∨ key a = 2 ∨ key a = 3 ∨ key a = 4 ∨ key a = 5 := by omega
    simp only [List.filter_cons]
    rcases this with e | e | e | e | e | e <;> rw [e] <;> simp <;> omega
theorem hist_at {q : Nat → Nat → Bool} {n k : Nat} (hn : n ≤ 5) (hk : k < 6) : histAt (hist q n) k = ((ords n).filter fun r => adj q r == k).length := by
  have h := hist_fold (adj q) (ords n) 0 fun r m => by have := adj_le q r; have := (ords_row m).1; omega
  have few := ords_few n (by omega)
  have le : ∀ k, ((ords n).filter fun r => adj q r == k).length ≤ 120 := fun k => Nat.le_trans (List.length_filter_le _ _) few
  have l0 := le 0
  have l1 := le 1
  have l2 := le 2
  have l3 := le 3
  have l4 := le 4
  have l5 := le 5
  unfold histAt hist
  rw [h]
  have : k = 0 ∨ k = 1 ∨ k = 2 ∨ k = 3 ∨ k = 4 ∨ k = 5 := by omega
  rcases this with rfl | rfl | rfl | rfl | rfl | rfl
  · show _ / 1 % 1000 = _; omega
  · show _ / 1000 % 1000 = _; omega
  · show _ / 1000000 % 1000 = _; omega
  · show _ / 1000000000 % 1000 = _; omega
  · show _ / 1000000000000 % 1000 = _; omega
  · show _ / 1000000000000000 % 1000 = _; omega
theorem near_far (x : Int) : nearQ x = !farQ x := by
  unfold nearQ farQ
  by_cases h : x < 256
  · rw [decide_eq_true h, decide_eq_false (by omega)]; rfl
  · rw [decide_eq_false h, decide_eq_true (by omega)]; rfl
theorem low_eq {line : List Int} {B : Nat → Nat → Bool} (hB : ∀ i j, i < line.length → j < line.length → B i j = farQ (line.getD i 0 - line.getD j 0)) {p : Nat} (hp : p < line.length) : lowN line p = lowB B p := by
  unfold lowN lowB
  have e : line.take p = (List.range p).map fun i => line.getD i 0 := by
    have := congrArg (List.take p) (range_getD line)
    rw [← List.map_take, List.take_range, Nat.min_eq_left (Nat.le_of_lt hp)] at this
    exact this.symm
  rw [e, List.filter_map, List.length_map]
  congr 1
  refine List.filter_congr fun j hj => ?_
  have hj := List.mem_range.mp hj
  rw [hB p j hp (by omega), ← near_far]
  rfl
theorem foldl_same {α β : Type} {f g : β → α → β} : ∀ {l : List α} {b : β}, (∀ a ∈ l, ∀ b, f b a = g b a) → l.foldl f b = l.foldl g b
  | [], b, _ => rfl
  | a :: l, b, h => by
    rw [List.foldl_cons, List.foldl_cons, h a (.head _)]
    exact foldl_same fun x m => h x (.tail _ m)
theorem ways_eq {line : List Int} {B : Nat → Nat → Bool} (hB : ∀ i j, i < line.length → j < line.length → B i j = farQ (line.getD i 0 - line.getD j 0)) (R : Int) : waysF line R line.length = waysB B R line.length := by
  unfold waysF waysB
  rw [rng_range, List.foldl_map]
  refine foldl_same fun p hp b => ?_
  show b * (R + (lowN line ((p : Int)).toNat : Nat)) = _
  rw [show ((p : Int)).toNat = p from rfl, low_eq hB (List.mem_range.mp hp)]
theorem plain_of {ts line : List Int} {M : List (List Bool)} (hp : line.Perm ts) (hn : ts.length ≤ 5) (hB : ∀ i j, i < line.length → j < line.length → matB M i j = farQ (line.getD i 0 - line.getD j 0)) (hc : chk ts.length M = true) {R : Int} (R0 : 1 ≤ R) (R5 : R ≤ 5) : sumF ts R = waysF line R ts.length ∧ sumS ts R = waysF line R ts.length := by
  have hl := hp.length_eq
  have hR : R ∈ ([1, 2, 3, 4, 5] : List Int) := by
    have : R = 1 ∨ R = 2 ∨ R = 3 ∨ R = 4 ∨ R = 5 := by omega
    rcases this with rfl | rfl | rfl | rfl | rfl <;> simp
  have h := List.all_eq_true.mp hc R hR
  unfold chkR at h
  rw [Bool.and_eq_true, beq_iff_eq, beq_iff_eq] at h
  have w := ways_eq hB R
  rw [hl] at w
  rw [w, ← h.1]
  have hF : ∀ k, k < 6 → histAt (hist (matB M) ts.length) k = (counts ts).1.getD k 0 ∧ histAt (hist (fun i j => !matB M i j) ts.length) k = (counts ts).2.getD k 0 := fun k hk => by
    obtain ⟨e1, e2⟩ := counts_adj hp hk
    rw [e1, e2, hist_at hn hk, hist_at hn hk]
    have c1 : ∀ r ∈ ords ts.length, adj (matB M) r = adj (fun i j => farQ (line.getD i 0 - line.getD j 0)) r := fun r m => adj_congr (n := ts.length) (fun i j hi hj => hB i j (by omega) (by omega)) r (ords_row m).2
    have c2 : ∀ r ∈ ords ts.length, adj (fun i j => !matB M i j) r = adj (fun i j => nearQ (line.getD i 0 - line.getD j 0)) r := fun r m => adj_congr (n := ts.length) (fun i j hi hj => by rw [near_far, hB i j (by omega) (by omega)]) r (ords_row m).2
    refine ⟨?_, ?_⟩
    · congr 2
      exact List.filter_congr fun r m => by rw [c1 r m]
    · congr 2
      exact List.filter_congr fun r m => by rw [c2 r m]
  have eF : sumF ts R = ((List.range (ts.length + 1)).map fun (c : Nat) => (histAt (hist (matB M) ts.length) c : Int) * chooseF (R + ts.length - 1 - c) ts.length).sum := by
    unfold sumF
    congr 1
    refine List.map_congr_left fun c hc => ?_
    rw [(hF c (by have := List.mem_range.mp hc; omega)).1]
  have eS : sumS ts R = ((List.range (ts.length + 1)).map fun (c : Nat) => (histAt (hist (fun i j => !matB M i j) ts.length) c : Int) * chooseF (R + c) ts.length).sum := by
    unfold sumS
    congr 1
    refine List.map_congr_left fun c hc => ?_
    rw [(hF c (by have := List.mem_range.mp hc; omega)).2]
  exact ⟨eF, by rw [eS, h.2, ← h.1]⟩
end Mine
end
section
open PySem PySem.Spec PySem.Calls PyProof.Rows PySem.W
set_option maxRecDepth 100000
set_option linter.unusedVariables false
namespace Mine
theorem far_no {a b : Int} (h : a ≤ b) : false = farQ (a - b) := (decide_eq_false (by omega)).symm
theorem imp_far {a b c d : Int} (h : a - b ≤ c - d) : imp (farQ (a - b)) (farQ (c - d)) = true := by
  unfold imp farQ
  by_cases q : 256 ≤ a - b
  · rw [decide_eq_true q, decide_eq_true (by omega)]; rfl
  · rw [decide_eq_false q]; rfl
theorem plain_ok (ts : List Int) (ht : ts.length ≤ 5) : PlainOk ts := by
  intro line hp hs R R0 R5
  have hl := hp.length_eq
  match line, hp, hs, hl with
  | [], hp, hs, hl => exact plain_of (M := []) hp ht (fun i j hi => absurd hi (Nat.not_lt_zero _)) (by rw [← hl]; exact chk0) R0 R5
  | [a], hp, hs, hl =>
    refine plain_of (M := [[]]) hp ht (fun i j hi hj => ?_) (by rw [← hl]; exact chk1) R0 R5
    match i, j, hi, hj with
    | 0, 0, _, _ => exact far_no (Int.le_refl _)
  | [a, b], hp, hs, hl =>
    simp only [List.pairwise_cons, List.mem_cons, List.not_mem_nil, or_false, forall_eq_or_imp, forall_eq] at hs
    refine plain_of (M := [[], [farQ (b - a)]]) hp ht (fun i j hi hj => ?_) (by rw [← hl]; exact chk2 _) R0 R5
    match i, j, hi, hj with
    | 0, 0, _, _ => exact far_no (by show a ≤ a; omega)
    | 0, 1, _, _ => exact far_no (by show a ≤ b; omega)
    | 1, 0, _, _ => rfl
    | 1, 1, _, _ => exact far_no (by show b ≤ b; omega)
  | [a, b, c], hp, hs, hl =>
    simp only [List.pairwise_cons, List.mem_cons, List.not_mem_nil, or_false, forall_eq_or_imp, forall_eq] at hs
    refine plain_of (M := [[], [farQ (b - a)], [farQ (c - a), farQ (c - b)]]) hp ht (fun i j hi hj => ?_) (by rw [← hl]; exact chk3 _ _ _ (by simp only [Bool.and_eq_true]; exact ⟨imp_far (by omega), imp_far (by omega)⟩)) R0 R5
    match i, j, hi, hj with
    | 0, 0, _, _ => exact far_no (by show a ≤ a; omega)
    | 0, 1, _, _ => exact far_no (by show a ≤ b; omega)
    | 0, 2, _, _ => exact far_no (by show a ≤ c; omega)
    | 1, 0, _, _ => rfl
    | 1, 1, _, _ => exact far_no (by show b ≤ b; omega)
    | 1, 2, _, _ => exact far_no (by show b ≤ c; omega)
    | 2, 0, _, _ => rfl
    | 2, 1, _, _ => rfl
    | 2, 2, _, _ => exact far_no (by show c ≤ c; omega)
  | [a, b, c, d], hp, hs, hl =>
    simp only [List.pairwise_cons, List.mem_cons, List.not_mem_nil, or_false, forall_eq_or_imp, forall_eq] at hs
    refine plain_of (M := [[], [farQ (b - a)], [farQ (c - a), farQ (c - b)], [farQ (d - a), farQ (d - b), farQ (d - c)]]) hp ht (fun i j hi hj => ?_) (by rw [← hl]; exact chk4 _ _ _ _ _ _ (by simp only [Bool.and_eq_true]; refine ⟨⟨⟨⟨⟨?_, ?_⟩, ?_⟩, ?_⟩, ?_⟩, ?_⟩ <;> exact imp_far (by omega))) R0 R5
    match i, j, hi, hj with
    | 0, 0, _, _ => exact far_no (by show a ≤ a; omega)
    | 0, 1, _, _ => exact far_no (by show a ≤ b; omega)
    | 0, 2, _, _ => exact far_no (by show a ≤ c; omega)
    | 0, 3, _, _ => exact far_no (by show a ≤ d; omega)
    | 1, 0, _, _ => rfl
    | 1, 1, _, _ => exact far_no (by show b ≤ b; omega)
    | 1, 2, _, _ => exact far_no (by show b ≤ c; omega)
    | 1, 3, _, _ => exact far_no (by show b ≤ d; omega)
    | 2, 0, _, _ => rfl
    | 2, 1, _, _ => rfl
    | 2, 2, _, _ => exact far_no (by show c ≤ c; omega)
    | 2, 3, _, _ => exact far_no (by show c ≤ d; omega)
    | 3, 0, _, _ => rfl
    | 3, 1, _, _ => rfl
    | 3, 2, _, _ => rfl
    | 3, 3, _, _ => exact far_no (by show d ≤ d; omega)
  | [a, b, c, d, e], hp, hs, hl =>
    simp only [List.pairwise_cons, List.mem_cons, List.not_mem_nil, or_false, forall_eq_or_imp, forall_eq] at hs
    refine plain_of (M := [[], [farQ (b - a)], [farQ (c - a), farQ (c - b)], [farQ (d - a), farQ (d - b), farQ (d - c)], [farQ (e - a), farQ (e - b), farQ (e - c), farQ (e - d)]]) hp ht (fun i j hi hj => ?_) (by rw [← hl]; exact chk5 _ _ _ _ _ _ _ _ _ _ (by simp only [Bool.and_eq_true]; refine ⟨⟨⟨⟨⟨⟨⟨⟨⟨⟨⟨?_, ?_⟩, ?_⟩, ?_⟩, ?_⟩, ?_⟩, ?_⟩, ?_⟩, ?_⟩, ?_⟩, ?_⟩, ?_⟩ <;> exact imp_far (by omega))) R0 R5
    match i, j, hi, hj with
    | 0, 0, _, _ => exact far_no (by show a ≤ a; omega)
    | 0, 1, _, _ => exact far_no (by show a ≤ b; omega)
    | 0, 2, _, _ => exact far_no (by show a ≤ c; omega)
    | 0, 3, _, _ => exact far_no (by show a ≤ d; omega)
    | 0, 4, _, _ => exact far_no (by show a ≤ e; omega)
    | 1, 0, _, _ => rfl
    | 1, 1, _, _ => exact far_no (by show b ≤ b; omega)
    | 1, 2, _, _ => exact far_no (by show b ≤ c; omega)
    | 1, 3, _, _ => exact far_no (by show b ≤ d; omega)
    | 1, 4, _, _ => exact far_no (by show b ≤ e; omega)
    | 2, 0, _, _ => rfl
    | 2, 1, _, _ => rfl
    | 2, 2, _, _ => exact far_no (by show c ≤ c; omega)
    | 2, 3, _, _ => exact far_no (by show c ≤ d; omega)
    | 2, 4, _, _ => exact far_no (by show c ≤ e; omega)
    | 3, 0, _, _ => rfl
    | 3, 1, _, _ => rfl
    | 3, 2, _, _ => rfl
    | 3, 3, _, _ => exact far_no (by show d ≤ d; omega)
    | 3, 4, _, _ => exact far_no (by show d ≤ e; omega)
    | 4, 0, _, _ => rfl
    | 4, 1, _, _ => rfl
    | 4, 2, _, _ => rfl
    | 4, 3, _, _ => rfl
    | 4, 4, _, _ => exact far_no (by show e ≤ e; omega)
  | a :: b :: c :: d :: e :: f :: l, hp, hs, hl =>
    simp only [List.length_cons] at hl
    omega
end Mine
end
section
open PySem PySem.Spec PySem.Calls PyProof.Rows PySem.W
set_option maxRecDepth 100000
set_option linter.unusedVariables false
namespace Mine
open Sre
def codeL : List Nat := [14, 4, 0, 1, 6, 6, 0, 23, 14, 0, 1, 17, 0, 13, 6, 16, 45, 16, 43, 0, 17, 1, 18, 17, 2, 13, 4, 8, 0, 0, 24, 9, 0, 1, 13, 4, 8, 0, 0, 1, 17, 3, 24, 6, 0, 1, 16, 58, 1, 23, 17, 0, 1, 17, 4, 13, 4, 8, 0, 0, 13, 4, 8, 0, 0, 17, 5, 18, 6, 5, 1]
theorem rec0_code : rec0.code = codeL := by decide +kernel
def Cd : Array Nat := codeL.toArray
/-- all digits alike -/
def cls (c : Nat) : Nat := if 48 ≤ c ∧ c ≤ 57 then 48 else c
theorem cls_cases (c : Nat) : (48 ≤ c ∧ c ≤ 57 ∧ cls c = 48) ∨ ((c < 48 ∨ 57 < c) ∧ cls c = c) := by
  unfold cls
  split <;> omega
theorem cls_eq {c k : Nat} (h : k < 48 ∨ 57 < k) : (cls c == k) = (c == k) := by
  rcases cls_cases c with ⟨h1, h2, e⟩ | ⟨_, e⟩
  · rw [e]
    have a : (48 == k) = false := by simp; omega
    have b : (c == k) = false := by simp; omega
    rw [a, b]
  · rw [e]
theorem cls_digit (c : Nat) : isDigit (cls c) = isDigit c := by
  rcases cls_cases c with ⟨h1, h2, e⟩ | ⟨_, e⟩
  · rw [e]
    unfold isDigit
    simp [h1, h2]
  · rw [e]
theorem cls_getD (a : Array Nat) (i : Nat) : (a.map cls).getD i 0 = cls (a.getD i 0) := by
  by_cases h : i < a.size
  · simp [Array.getD, h]
  · simp [Array.getD, h]; rfl
theorem cls_word (c : Nat) : isWord (cls c) = isWord c := by
  rcases cls_cases c with ⟨h1, h2, e⟩ | ⟨_, e⟩
  · rw [e]
    unfold isWord isDigit
    simp [h1, h2]
  · rw [e]
theorem alnum_digit : ∀ d : Nat, d < 10 → Unicode.isAlnum (48 + d) = true := by decide +kernel
theorem cls_wordUni (c : Nat) : isWordUni (cls c) = isWordUni c := by
  rcases cls_cases c with ⟨h1, h2, e⟩ | ⟨_, e⟩
  · rw [e]
    unfold isWordUni
    have := alnum_digit (c - 48) (by omega)
    rw [show 48 + (c - 48) = c from by omega] at this
    rw [this, show Unicode.isAlnum 48 = true from alnum_digit 0 (by decide)]
    simp
  · rw [e]
/-- the words of the code, where characters are asked -/
theorem code_word : ∀ i : Nat, i < 71 → Cd.getD i 0 ∈ [14, 4, 0, 1, 6, 23, 17, 13, 16, 45, 43, 18, 2, 8, 24, 9, 3, 58, 5] := by decide +kernel
theorem code_in : ∀ i : Nat, i < 71 → Cd.getD i 0 = 13 → i ∈ [13, 25, 34, 55, 60] := by decide +kernel
theorem code_lit : ∀ i : Nat, i < 71 → Cd.getD i 0 = 16 → Cd.getD (i + 1) 0 ∈ [45, 43, 58] := by decide +kernel
theorem code_out {i : Nat} (h : ¬ i < 71) : Cd.getD i 0 = 0 := by
  have : Cd.size = 71 := by decide +kernel
  simp [Array.getD, this, h]
theorem inSet_a (c : Nat) (seen : Sre.Seen) : inSet Cd (cls c) Cd.size 15 true seen = inSet Cd c Cd.size 15 true seen := by
  have h1 := cls_eq (c := c) (k := 45) (by omega)
  have h2 := cls_eq (c := c) (k := 43) (by omega)
  have e : ∀ x : Nat, inSet Cd x Cd.size 15 true seen = (if x == 45 then .ok (true, seen.add 16) else if x == 43 then .ok (true, (seen.add 16).add 16) else .ok (false, ((seen.add 16).add 16).add 0)) := fun x => rfl
  rw [e, e, h1, h2]
theorem cat0 (x : Nat) : category 0 x = .ok (isDigit x) := by
  show Except.ok (isDigit x != ((0 % 2 : Nat) == 1)) = _
  cases isDigit x <;> rfl
theorem inSet_b (c : Nat) (seen : Sre.Seen) : ∀ i ∈ [27, 36, 57, 62], inSet Cd (cls c) Cd.size i true seen = inSet Cd c Cd.size i true seen := by
  have e : ∀ x : Nat, ∀ i ∈ [27, 36, 57, 62], inSet Cd x Cd.size i true seen = (category 0 x >>= fun b => if b = true then pure (true, (seen.add 8).add 55) else .ok (false, ((seen.add 8).add 55).add 0)) := fun x i hi => by
    simp only [List.mem_cons, List.not_mem_nil, or_false] at hi
    rcases hi with rfl | rfl | rfl | rfl <;> rfl
  intro i hi
  rw [e _ i hi, e _ i hi, cat0, cat0, cls_digit]
theorem acc_cls (i c : Nat) (seen : Sre.Seen) : accepts Cd i (cls c) seen = accepts Cd i c seen := by
  by_cases h : i < 71
  · have hw := code_word i h
    unfold accepts
    generalize hk : Cd.getD i 0 = k at *
    simp only [List.mem_cons, List.not_mem_nil, or_false] at hw
    rcases hw with rfl | rfl | rfl | rfl | rfl | rfl | rfl | rfl | rfl | rfl | rfl | rfl | rfl | rfl | rfl | rfl | rfl | rfl | rfl <;> try rfl
    · have hi := code_in i h hk
      simp only [List.mem_cons, List.not_mem_nil, or_false] at hi
      rcases hi with rfl | rfl | rfl | rfl | rfl
      · exact inSet_a c seen
      · exact inSet_b c seen 27 (by simp)
      · exact inSet_b c seen 36 (by simp)
      · exact inSet_b c seen 57 (by simp)
      · exact inSet_b c seen 62 (by simp)
    · have hl := code_lit i h hk
      show Except.ok (cls c == Cd.getD (i + 1) 0, seen) = Except.ok (c == Cd.getD (i + 1) 0, seen)
      rw [cls_eq]
      simp only [List.mem_cons, List.not_mem_nil, or_false] at hl
      omega
    · show Except.ok (cls c != 10, seen) = Except.ok (c != 10, seen)
      unfold bne
      rw [cls_eq (by omega)]
  · have h0 := code_out h
    unfold accepts
    rw [h0]
    rfl
theorem run_cls (text : Array Nat) (i : Nat) : ∀ (n p found : Nat) (seen : Sre.Seen), Sre.run Cd (text.map cls) i n p found seen = Sre.run Cd text i n p found seen
  | 0, _, _, _ => rfl
  | n + 1, p, found, seen => by
    unfold Sre.run
    rw [cls_getD, acc_cls]
    congr 1
    funext x
    split
    split
    · exact run_cls text i n _ _ _
    · rfl
end Mine
end
section
open PySem PySem.Spec PySem.Calls PyProof.Rows PySem.W
set_option maxRecDepth 100000
set_option linter.unusedVariables false
namespace Mine
open Sre
def tx (m : Sre.M) : Sre.M := { m with text := m.text.map cls }
theorem ite_tx {c c' : Prop} {i : Decidable c} {j : Decidable c'} {a b a' b' : Sre.M} (h : c ↔ c') (ha : a' = tx a) (hb : b' = tx b) : (@ite _ c i a' b') = tx (@ite _ c' j a b) := by
  by_cases q : c'
  · rw [if_pos q, if_pos (h.mpr q)]; exact ha
  · rw [if_neg q, if_neg (fun x => q (h.mp x))]; exact hb
theorem isAt_tx (m : Sre.M) (k : Nat) : (tx m).isAt k = m.isAt k := by
  unfold M.isAt
  simp only [tx, cls_getD, cls_word, cls_wordUni, cls_eq (k := 10) (by omega)]
  rfl
theorem attempt_tx (m : Sre.M) (f : Sre.Frame) (a b : Nat) (c : Bool) : (tx m).attempt f a b c = tx (m.attempt f a b c) := ite_tx Iff.rfl rfl rfl
theorem alt_tx (m : Sre.M) (a : Nat) (k : Sre.Kept) : (tx m).alternative a k = tx (m.alternative a k) := ite_tx Iff.rfl rfl (attempt_tx ..)
theorem afterLoop_tx (m : Sre.M) (wt : Sre.Wait) (i : Nat) (c : Int) (wh : Option Nat → Bool) : (tx m).afterLoop wt i c wh = tx (m.afterLoop wt i c wh) := attempt_tx { m with inner := (m.loopAt i).outer } ..
theorem round_tx (m : Sre.M) (wt : Sre.Wait) (i : Nat) (c : Int) (g : Bool) (k : Sre.Kept) : (tx m).round wt i c g k = tx (m.round wt i c g k) := attempt_tx (m.setLoop i fun l => { l with count := c, began := if g then some m.pos else l.began }) ..
theorem afterRun_tx (m : Sre.M) (wt : Sre.Wait) (c : Int) (k : Sre.Kept) : (tx m).afterRun wt c k = tx (m.afterRun wt c k) := attempt_tx ..
theorem until_tx (m : Sre.M) (g : Bool) : (tx m).until_ g = tx (m.until_ g) := by
  unfold M.until_
  have e : (tx m).inner = m.inner := rfl
  rw [e]
  cases m.inner with
  | none => rfl
  | some i => exact ite_tx Iff.rfl (round_tx ..) (ite_tx Iff.rfl (afterLoop_tx ..) (ite_tx Iff.rfl (round_tx ..) (afterLoop_tx ..)))
theorem poss_tx (m : Sre.M) (i : Nat) (c : Int) (b : Option Nat) : (tx m).possessive i c b = tx (m.possessive i c b) :=
  ite_tx Iff.rfl (attempt_tx ..) (ite_tx Iff.rfl (attempt_tx ..) rfl)
theorem attemptAt_tx (m : Sre.M) (s : Nat) (f : Bool) : (tx m).attemptAt s f = tx (m.attemptAt s f) := attempt_tx { m with start := s, pos := s, lastmark := -1, lastindex := -1 } ..
theorem nofirst (m : Sre.M) (hc : m.code = Cd) : m.hasFirstSet = false := by
  unfold M.hasFirstSet
  rw [hc]
  decide +kernel
theorem attemptFrom_tx (m : Sre.M) (hc : m.code = Cd) (s : Nat) (f : Bool) : (tx m).attemptFrom s f = tx (m.attemptFrom s f) := by
  unfold M.attemptFrom
  rw [nofirst m hc, nofirst (tx m) hc]
  exact attemptAt_tx ..
theorem acc_tx (m : Sre.M) (hc : m.code = Cd) (i p : Nat) (seen : Sre.Seen) : accepts m.code i ((tx m).text.getD p 0) seen = accepts m.code i (m.text.getD p 0) seen := by
  rw [hc]
  show accepts Cd i ((m.text.map cls).getD p 0) seen = _
  rw [cls_getD, acc_cls]
/-- one character, or a refusal -/
theorem char_tx (m : Sre.M) (hc : m.code = Cd) (op : Sre.Op) (h : op = .ANY ∨ op = .ANY_ALL ∨ op = .LITERAL ∨ op = .IN) (ho : ops[m.word 0]? = some op) : (tx m).exec = tx m.exec := by
  have key : ∀ m : Sre.M, ops[m.word 0]? = some op → m.exec = (if m.pos ≥ m.lim then ({ m with seen := m.seen.add (m.word 0) } : Sre.M).say false else
      match accepts m.code m.pc (m.text.getD m.pos 0) (m.seen.add (m.word 0)) with
      | .error why => ({ m with seen := m.seen.add (m.word 0) } : Sre.M).stick why
      | .ok (false, seen) => ({ m with seen := seen } : Sre.M).say false
      | .ok (true, seen) => { m with seen := seen, pc := m.pc + itemWidth m.code m.pc, pos := m.pos + 1 }) := fun m ho => by
    unfold M.exec
    rw [ho]
    rcases h with rfl | rfl | rfl | rfl <;> rfl
  rw [key m ho, key (tx m) ho]
  refine ite_tx Iff.rfl rfl ?_
  have e := acc_tx m hc m.pc m.pos (m.seen.add (m.word 0))
  have e' : accepts (tx m).code (tx m).pc ((tx m).text.getD (tx m).pos 0) ((tx m).seen.add ((tx m).word 0)) = accepts m.code m.pc (m.text.getD m.pos 0) (m.seen.add (m.word 0)) := e
  rw [e']
  generalize accepts m.code m.pc (m.text.getD m.pos 0) (m.seen.add (m.word 0)) = r
  match r with
  | .error _ => rfl
  | .ok (false, _) => rfl
  | .ok (true, _) => rfl
end Mine
end
section
open PySem PySem.Spec PySem.Calls PyProof.Rows PySem.W
set_option maxRecDepth 100000
set_option linter.unusedVariables false
namespace Mine
open Sre
theorem at_tx (m : Sre.M) (ho : ops[m.word 0]? = some .AT) : (tx m).exec = tx m.exec := by
  have key : ∀ m : Sre.M, ops[m.word 0]? = some .AT → m.exec = (match M.isAt { m with seen := m.seen.add (m.word 0) } (m.word 1) with
      | .error why => ({ m with seen := m.seen.add (m.word 0) } : Sre.M).stick why
      | .ok yes => if yes = true then { m with seen := (m.seen.add (m.word 0)).add (43 + m.word 1), pc := m.pc + 2 } else ({ m with seen := (m.seen.add (m.word 0)).add (43 + m.word 1) } : Sre.M).say false) := fun m ho => by
    unfold M.exec
    rw [ho]
    rfl
  rw [key m ho, key (tx m) ho]
  have e : M.isAt { (tx m) with seen := (tx m).seen.add ((tx m).word 0) } ((tx m).word 1) = M.isAt { m with seen := m.seen.add (m.word 0) } (m.word 1) := isAt_tx { m with seen := m.seen.add (m.word 0) } _
  rw [e]
  generalize M.isAt { m with seen := m.seen.add (m.word 0) } (m.word 1) = r
  match r with
  | .error _ => rfl
  | .ok true => rfl
  | .ok false => rfl
theorem rep_tx (m : Sre.M) (hc : m.code = Cd) (ho : ops[m.word 0]? = some .REPEAT_ONE) : (tx m).exec = tx m.exec := by
  have key : ∀ m : Sre.M, ops[m.word 0]? = some .REPEAT_ONE → m.exec = (if ((m.word 2 : Nat) : Int) > (m.lim : Int) - m.pos then ({ m with seen := m.seen.add (m.word 0) } : Sre.M).say false else
      match Sre.run m.code m.text (m.pc + 4) (min (m.word 3) ((m.lim : Int) - m.pos).toNat) m.pos 0 ((m.seen.add (m.word 0)).add (m.word 4)) with
      | .error why => ({ m with seen := m.seen.add (m.word 0) } : Sre.M).stick why
      | .ok (n, seen) => if n < m.word 2 then ({ m with seen := seen } : Sre.M).say false else M.afterRun { m with seen := seen, pos := m.pos + n } .giveBack n (m.keep m.inner.isSome)) := fun m ho => by
    unfold M.exec
    rw [ho]
    rfl
  rw [key m ho, key (tx m) ho]
  refine ite_tx Iff.rfl rfl ?_
  have e : Sre.run (tx m).code (tx m).text ((tx m).pc + 4) (min ((tx m).word 3) (((tx m).lim : Int) - (tx m).pos).toNat) (tx m).pos 0 (((tx m).seen.add ((tx m).word 0)).add ((tx m).word 4)) = Sre.run m.code m.text (m.pc + 4) (min (m.word 3) ((m.lim : Int) - m.pos).toNat) m.pos 0 ((m.seen.add (m.word 0)).add (m.word 4)) := by
    show Sre.run m.code (m.text.map cls) _ _ _ _ _ = _
    rw [hc]
    exact run_cls ..
  rw [e]
  generalize Sre.run m.code m.text (m.pc + 4) (min (m.word 3) ((m.lim : Int) - m.pos).toNat) m.pos 0 ((m.seen.add (m.word 0)).add (m.word 4)) = r
  match r with
  | .error _ => rfl
  | .ok (n, seen) => exact ite_tx Iff.rfl rfl (afterRun_tx { m with seen := seen, pos := m.pos + n } ..)
theorem word_cases (m : Sre.M) (hc : m.code = Cd) : m.word 0 ∈ [14, 4, 0, 1, 6, 23, 17, 13, 16, 45, 43, 18, 2, 8, 24, 9, 3, 58, 5] := by
  show m.code.getD (m.pc + 0) 0 ∈ _
  rw [hc, Nat.add_zero]
  by_cases h : m.pc < 71
  · exact code_word _ h
  · rw [code_out h]; simp
theorem exec_tx (m : Sre.M) (hc : m.code = Cd) : (tx m).exec = tx m.exec := by
  have hw := word_cases m hc
  generalize hk : m.word 0 = k at hw
  simp only [List.mem_cons, List.not_mem_nil, or_false] at hw
  have hk' : (tx m).word 0 = k := hk
  rcases hw with rfl | rfl | rfl | rfl | rfl | rfl | rfl | rfl | rfl | rfl | rfl | rfl | rfl | rfl | rfl | rfl | rfl | rfl | rfl
  · unfold M.exec; rw [hk, hk']; rfl
  · unfold M.exec; rw [hk, hk']
    exact ite_tx Iff.rfl rfl (attempt_tx { m with seen := m.seen.add 4 } ..)
  · unfold M.exec; rw [hk, hk']; rfl
  · unfold M.exec; rw [hk, hk']
    exact ite_tx Iff.rfl rfl rfl
  · exact at_tx m (by rw [hk]; rfl)
  · unfold M.exec; rw [hk, hk']
    exact attempt_tx { m with seen := m.seen.add 23, loops := m.loops.push { pc := m.pc, outer := m.inner }, inner := some m.loops.size } ..
  · unfold M.exec; rw [hk, hk']; rfl
  · exact char_tx m hc .IN (by simp) (by rw [hk]; rfl)
  · exact char_tx m hc .LITERAL (by simp) (by rw [hk]; rfl)
  · unfold M.exec; rw [hk, hk']; rfl
  · unfold M.exec; rw [hk, hk']; rfl
  · unfold M.exec; rw [hk, hk']
    exact until_tx { m with seen := m.seen.add 18, pc := m.pc + 1 } ..
  · exact char_tx m hc .ANY (by simp) (by rw [hk]; rfl)
  · unfold M.exec; rw [hk, hk']; rfl
  · exact rep_tx m hc (by rw [hk]; rfl)
  · unfold M.exec; rw [hk, hk']; rfl
  · exact char_tx m hc .ANY_ALL (by simp) (by rw [hk]; rfl)
  · unfold M.exec; rw [hk, hk']; rfl
  · unfold M.exec; rw [hk, hk']
    exact ite_tx Iff.rfl rfl (attempt_tx { m with seen := m.seen.add 5 } ..)
end Mine
end
section
open PySem PySem.Spec PySem.Calls PyProof.Rows PySem.W
set_option maxRecDepth 100000
set_option linter.unusedVariables false
namespace Mine
open Sre
theorem ite_cd {c : Prop} {i : Decidable c} {a b : Sre.M} {k : Array Nat} (ha : a.code = k) (hb : b.code = k) : (@ite _ c i a b).code = k := by
  split <;> assumption
theorem attempt_cd (m : Sre.M) (f : Sre.Frame) (a b : Nat) (c : Bool) : (m.attempt f a b c).code = m.code := ite_cd rfl rfl
theorem alt_cd (m : Sre.M) (a : Nat) (k : Sre.Kept) : (m.alternative a k).code = m.code := ite_cd rfl (attempt_cd ..)
theorem afterLoop_cd (m : Sre.M) (wt : Sre.Wait) (i : Nat) (c : Int) (wh : Option Nat → Bool) : (m.afterLoop wt i c wh).code = m.code := attempt_cd { m with inner := (m.loopAt i).outer } ..
theorem round_cd (m : Sre.M) (wt : Sre.Wait) (i : Nat) (c : Int) (g : Bool) (k : Sre.Kept) : (m.round wt i c g k).code = m.code := attempt_cd (m.setLoop i fun l => { l with count := c, began := if g then some m.pos else l.began }) ..
theorem afterRun_cd (m : Sre.M) (wt : Sre.Wait) (c : Int) (k : Sre.Kept) : (m.afterRun wt c k).code = m.code := attempt_cd ..
theorem until_cd (m : Sre.M) (g : Bool) : (m.until_ g).code = m.code := by
  unfold M.until_
  cases m.inner with
  | none => rfl
  | some i => exact ite_cd (round_cd ..) (ite_cd (afterLoop_cd ..) (ite_cd (round_cd ..) (afterLoop_cd ..)))
theorem poss_cd (m : Sre.M) (i : Nat) (c : Int) (b : Option Nat) : (m.possessive i c b).code = m.code := ite_cd (attempt_cd ..) (ite_cd (attempt_cd ..) rfl)
theorem attemptAt_cd (m : Sre.M) (s : Nat) (f : Bool) : (m.attemptAt s f).code = m.code := attempt_cd { m with start := s, pos := s, lastmark := -1, lastindex := -1 } ..
theorem attemptFrom_cd (m : Sre.M) (hc : m.code = Cd) (s : Nat) (f : Bool) : (m.attemptFrom s f).code = m.code := by
  unfold M.attemptFrom
  rw [nofirst m hc]
  exact attemptAt_cd ..
theorem char_cd (m : Sre.M) (op : Sre.Op) (h : op = .ANY ∨ op = .ANY_ALL ∨ op = .LITERAL ∨ op = .IN) (ho : ops[m.word 0]? = some op) : m.exec.code = m.code := by
  have key : m.exec = (if m.pos ≥ m.lim then ({ m with seen := m.seen.add (m.word 0) } : Sre.M).say false else
      match accepts m.code m.pc (m.text.getD m.pos 0) (m.seen.add (m.word 0)) with
      | .error why => ({ m with seen := m.seen.add (m.word 0) } : Sre.M).stick why
      | .ok (false, seen) => ({ m with seen := seen } : Sre.M).say false
      | .ok (true, seen) => { m with seen := seen, pc := m.pc + itemWidth m.code m.pc, pos := m.pos + 1 }) := by
    unfold M.exec
    rw [ho]
    rcases h with rfl | rfl | rfl | rfl <;> rfl
  rw [key]
  refine ite_cd rfl ?_
  split <;> rfl
theorem at_cd (m : Sre.M) (ho : ops[m.word 0]? = some .AT) : m.exec.code = m.code := by
  unfold M.exec
  rw [ho]
  dsimp only
  split
  · rfl
  · exact ite_cd rfl rfl
theorem rep_cd (m : Sre.M) (ho : ops[m.word 0]? = some .REPEAT_ONE) : m.exec.code = m.code := by
  have key : m.exec = (if ((m.word 2 : Nat) : Int) > (m.lim : Int) - m.pos then ({ m with seen := m.seen.add (m.word 0) } : Sre.M).say false else
      match Sre.run m.code m.text (m.pc + 4) (min (m.word 3) ((m.lim : Int) - m.pos).toNat) m.pos 0 ((m.seen.add (m.word 0)).add (m.word 4)) with
      | .error why => ({ m with seen := m.seen.add (m.word 0) } : Sre.M).stick why
      | .ok (n, seen) => if n < m.word 2 then ({ m with seen := seen } : Sre.M).say false else M.afterRun { m with seen := seen, pos := m.pos + n } .giveBack n (m.keep m.inner.isSome)) := by
    unfold M.exec
    rw [ho]
    rfl
  rw [key]
  refine ite_cd rfl ?_
  split
  · rfl
  · exact ite_cd rfl (afterRun_cd { m with seen := _, pos := _ } ..)
theorem exec_cd (m : Sre.M) (hc : m.code = Cd) : m.exec.code = Cd := by
  rw [← hc]
  have hw := word_cases m hc
  generalize hk : m.word 0 = k at hw
  simp only [List.mem_cons, List.not_mem_nil, or_false] at hw
  rcases hw with rfl | rfl | rfl | rfl | rfl | rfl | rfl | rfl | rfl | rfl | rfl | rfl | rfl | rfl | rfl | rfl | rfl | rfl | rfl
  · unfold M.exec; rw [hk]; rfl
  · unfold M.exec; rw [hk]
    exact ite_cd rfl (attempt_cd { m with seen := m.seen.add 4 } ..)
  · unfold M.exec; rw [hk]; rfl
  · unfold M.exec; rw [hk]
    exact ite_cd rfl rfl
  · exact at_cd m (by rw [hk]; rfl)
  · unfold M.exec; rw [hk]
    exact attempt_cd { m with seen := m.seen.add 23, loops := m.loops.push { pc := m.pc, outer := m.inner }, inner := some m.loops.size } ..
  · unfold M.exec; rw [hk]; rfl
  · exact char_cd m .IN (by simp) (by rw [hk]; rfl)
  · exact char_cd m .LITERAL (by simp) (by rw [hk]; rfl)
  · unfold M.exec; rw [hk]; rfl
  · unfold M.exec; rw [hk]; rfl
  · unfold M.exec; rw [hk]
    exact until_cd { m with seen := m.seen.add 18, pc := m.pc + 1 } ..
  · exact char_cd m .ANY (by simp) (by rw [hk]; rfl)
  · unfold M.exec; rw [hk]; rfl
  · exact rep_cd m (by rw [hk]; rfl)
  · unfold M.exec; rw [hk]; rfl
  · exact char_cd m .ANY_ALL (by simp) (by rw [hk]; rfl)
  · unfold M.exec; rw [hk]; rfl
  · unfold M.exec; rw [hk]
    exact ite_cd rfl (attempt_cd { m with seen := m.seen.add 5 } ..)
/-- both at once, for what follows a frame -/
def Ok2 (m : Sre.M) (a b : Sre.M) : Prop := a = tx b ∧ b.code = Cd
theorem ite_ok {m : Sre.M} {c c' : Prop} {i : Decidable c} {j : Decidable c'} {a b a' b' : Sre.M} (h : c ↔ c') (ha : Ok2 m a' a) (hb : Ok2 m b' b) : Ok2 m (@ite _ c i a' b') (@ite _ c' j a b) := ⟨ite_tx h ha.1 hb.1, ite_cd ha.2 hb.2⟩
theorem resume_ok (m : Sre.M) (hc : m.code = Cd) (f : Sre.Frame) (y : Bool) : Ok2 m ((tx m).resume f y) (m.resume f y) := by
  obtain ⟨wt, pc, pos, om, cn, kp, lp, bg⟩ := f
  have back : (tx m).putBack kp = tx (m.putBack kp) := rfl
  have backc : (m.putBack kp).code = Cd := hc
  cases wt with
  | nextStart => exact ite_ok Iff.rfl ⟨rfl, hc⟩ (ite_ok Iff.rfl ⟨attemptFrom_tx { m with mustAdvance := false } hc _ _, (attemptFrom_cd { m with mustAdvance := false } hc _ _).trans hc⟩ ⟨rfl, hc⟩)
  | nextBranch => exact ite_ok Iff.rfl ⟨rfl, hc⟩ ⟨alt_tx (m.putBack kp) _ _, (alt_cd (m.putBack kp) _ _).trans hc⟩
  | giveBack => exact ite_ok Iff.rfl ⟨rfl, hc⟩ (ite_ok Iff.rfl ⟨rfl, hc⟩ ⟨afterRun_tx { m.putBack kp with pos := pos - 1 } .., (afterRun_cd { m.putBack kp with pos := pos - 1 } ..).trans hc⟩)
  | takeMore =>
    refine ite_ok Iff.rfl ⟨rfl, hc⟩ (ite_ok Iff.rfl ⟨rfl, hc⟩ (ite_ok Iff.rfl ⟨rfl, hc⟩ ?_))
    have e := acc_tx m hc (m.pc + 4) pos m.seen
    show Ok2 m (match accepts m.code (m.pc + 4) ((tx m).text.getD pos 0) m.seen with | .error why => _ | .ok (false, seen) => _ | .ok (true, seen) => _) (match accepts m.code (m.pc + 4) (m.text.getD pos 0) m.seen with | .error why => _ | .ok (false, seen) => _ | .ok (true, seen) => _)
    rw [e]
    generalize accepts m.code (m.pc + 4) (m.text.getD pos 0) m.seen = r
    match r with
    | .error _ => exact ⟨rfl, hc⟩
    | .ok (false, _) => exact ⟨rfl, hc⟩
    | .ok (true, seen) => exact ⟨afterRun_tx { m.putBack kp with seen := seen, pos := pos + 1 } .., (afterRun_cd { m.putBack kp with seen := seen, pos := pos + 1 } ..).trans hc⟩
  | closeLoop => exact ⟨rfl, hc⟩
  | maxBelow => exact ite_ok Iff.rfl ⟨rfl, hc⟩ ⟨rfl, hc⟩
  | maxMore => exact ite_ok Iff.rfl ⟨rfl, hc⟩ ⟨afterLoop_tx (((m.setLoop lp fun l => { l with began := bg }).putBack kp).setLoop lp fun l => { l with count := cn - 1 }) .., (afterLoop_cd (((m.setLoop lp fun l => { l with began := bg }).putBack kp).setLoop lp fun l => { l with count := cn - 1 }) ..).trans hc⟩
  | maxTail => exact ⟨rfl, hc⟩
  | minBelow => exact ite_ok Iff.rfl ⟨rfl, hc⟩ ⟨rfl, hc⟩
  | minTail => exact ite_ok Iff.rfl ⟨rfl, hc⟩ (ite_ok Iff.rfl ⟨rfl, hc⟩ ⟨round_tx (M.putBack { m with inner := some lp } kp) .., (round_cd (M.putBack { m with inner := some lp } kp) ..).trans hc⟩)
  | minMore => exact ite_ok Iff.rfl ⟨rfl, hc⟩ ⟨rfl, hc⟩
  | possBelow => exact ite_ok Iff.rfl ⟨poss_tx .., (poss_cd ..).trans hc⟩ ⟨rfl, hc⟩
  | possMore => exact ite_ok Iff.rfl ⟨poss_tx .., (poss_cd ..).trans hc⟩ ⟨poss_tx { m.putBack kp with handed := pos } .., (poss_cd { m.putBack kp with handed := pos } ..).trans hc⟩
  | atomic => exact ite_ok Iff.rfl ⟨rfl, hc⟩ ⟨rfl, hc⟩
  | look => exact ite_ok Iff.rfl ⟨rfl, hc⟩ ⟨rfl, hc⟩
  | lookNot => exact ite_ok Iff.rfl ⟨rfl, hc⟩ ⟨rfl, hc⟩
theorem step_ok (m : Sre.M) (hc : m.code = Cd) : Ok2 m (tx m).step m.step := by
  unfold M.step
  refine ite_ok Iff.rfl ⟨rfl, hc⟩ ?_
  have e1 : (tx m).answer = m.answer := rfl
  have e2 : (tx m).frames = m.frames := rfl
  rw [e1, e2]
  cases ha : m.answer with
  | none => exact ite_ok Iff.rfl ⟨exec_tx m hc, exec_cd m hc⟩ ⟨rfl, hc⟩
  | some y =>
    cases hf : m.frames with
    | nil => exact ⟨rfl, hc⟩
    | cons f rest => exact resume_ok { m with answer := none, frames := rest, weight := m.weight - (1 + f.kept.marks.size), pc := f.pc, pos := f.pos, outermost := f.outermost } hc f y
end Mine
end
section
open PySem PySem.Spec PySem.Calls PyProof.Rows PySem.W
set_option maxRecDepth 100000
set_option linter.unusedVariables false
namespace Mine
open Sre
theorem runFor_tx : ∀ (n : Nat) (m : Sre.M), m.code = Cd → (tx m).runFor n = tx (m.runFor n) ∧ (m.runFor n).code = Cd
  | 0, m, hc => ⟨rfl, hc⟩
  | n + 1, m, hc => by
    obtain ⟨e, hc'⟩ := step_ok m hc
    obtain ⟨i1, i2⟩ := runFor_tx n m.step hc'
    unfold M.runFor
    have q : (tx m).outcome = m.outcome := rfl
    rw [q, e]
    exact ⟨ite_tx Iff.rfl rfl i1, ite_cd hc i2⟩
theorem rxEnd_tx : ∀ (n : Nat) (m : Sre.M), m.code = Cd → rxEnd n (tx m) = (rxEnd n m).map tx
  | 0, m, hc => rfl
  | n + 1, m, hc => by
    obtain ⟨e, hc'⟩ := runFor_tx Builtin.Re.reTurnSteps m hc
    unfold rxEnd
    rw [e]
    have q : (tx (m.runFor Builtin.Re.reTurnSteps)).outcome = (m.runFor Builtin.Re.reTurnSteps).outcome := rfl
    rw [q]
    split
    · rfl
    · exact rxEnd_tx n _ hc'
def fm (text : Array Nat) (lim : Nat) : Sre.M :=
  { code := Cd, text := text, lim := lim, start := 0, pc := (Sre.header Cd).2, pos := 0, handed := 0, marks := Array.replicate (2 * 3) none, mustAdvance := false, seen := if (Sre.header Cd).2 == 0 then {} else ({} : Sre.Seen).add 14,
    lastStart := if (decide ((Sre.header Cd).1 > 1) && !((Sre.header Cd).2 != 0 && Cd.getD 2 0 &&& 5 != 0)) = true then max 0 (lim - ((Sre.header Cd).1 - 1)) else lim }
theorem search_tx (text : Array Nat) (lim : Nat) : Sre.forSearch Cd (text.map cls) 3 0 lim false = tx (Sre.forSearch Cd text 3 0 lim false) ∧ (Sre.forSearch Cd text 3 0 lim false).code = Cd := by
  unfold Sre.forSearch
  constructor
  · exact ite_tx Iff.rfl rfl (attemptFrom_tx (fm text lim) rfl _ _)
  · exact ite_cd rfl ((attemptFrom_cd (fm text lim) rfl _ _).trans rfl)
def clsS (t : Str) : Str := ⟨t.cps.map cls⟩
/-- a text's run is its shape's run -/
theorem shape_run {t : Str} {m' : Sre.M} (h : rxEnd 400 (Sre.forSearch rec0.code.toArray (clsS t).cps 3 0 (clsS t).cps.size false) = some m') : ∃ m, rxEnd 400 (Sre.forSearch rec0.code.toArray t.cps 3 0 t.cps.size false) = some m ∧ tx m = m' := by
  rw [rec0_code] at h ⊢
  have hs : (clsS t).cps.size = t.cps.size := by show (t.cps.map cls).size = _; simp
  rw [hs] at h
  obtain ⟨e, hc⟩ := search_tx t.cps t.cps.size
  have h : rxEnd 400 (Sre.forSearch Cd (t.cps.map cls) 3 0 t.cps.size false) = some m' := h
  rw [e, rxEnd_tx _ _ hc] at h
  show ∃ m, rxEnd 400 (Sre.forSearch Cd t.cps 3 0 t.cps.size false) = some m ∧ tx m = m'
  cases q : rxEnd 400 (Sre.forSearch Cd t.cps 3 0 t.cps.size false) with
  | none => rw [q] at h; cases h
  | some m => rw [q] at h; cases h; exact ⟨m, rfl, rfl⟩
end Mine
end
section
open PySem PySem.Spec PySem.Calls PyProof.Rows PySem.W
set_option maxRecDepth 100000
set_option linter.unusedVariables false
namespace Mine
def shapes0 : List (Str × List Int) := [
  ("00:00", [0, 5, -1, -1, 0, 2, 3, 5]), ("0000", [0, 4, -1, -1, 0, 2, 2, 4]),
  ("0:00", [0, 4, -1, -1, 0, 1, 2, 4]), ("000", [0, 3, -1, -1, 0, 1, 1, 3]),
  ("00", [0, 2, -1, -1, 0, 2, -1, -1]), ("00:", [0, 3, -1, -1, 0, 2, -1, -1]),
  ("0", [0, 1, -1, -1, 0, 1, -1, -1]), ("0:", [0, 2, -1, -1, 0, 1, -1, -1])]
def shapesP : List (Str × List Int) := [
  ("+00:00", [0, 6, 0, 1, 1, 3, 4, 6]), ("+0000", [0, 5, 0, 1, 1, 3, 3, 5]),
  ("+0:00", [0, 5, 0, 1, 1, 2, 3, 5]), ("+000", [0, 4, 0, 1, 1, 2, 2, 4]),
  ("+00", [0, 3, 0, 1, 1, 3, -1, -1]), ("+00:", [0, 4, 0, 1, 1, 3, -1, -1]),
  ("+0", [0, 2, 0, 1, 1, 2, -1, -1]), ("+0:", [0, 3, 0, 1, 1, 2, -1, -1])]
def shapesM : List (Str × List Int) := [
  ("-00:00", [0, 6, 0, 1, 1, 3, 4, 6]), ("-0000", [0, 5, 0, 1, 1, 3, 3, 5]),
  ("-0:00", [0, 5, 0, 1, 1, 2, 3, 5]), ("-000", [0, 4, 0, 1, 1, 2, 2, 4]),
  ("-00", [0, 3, 0, 1, 1, 3, -1, -1]), ("-00:", [0, 4, 0, 1, 1, 3, -1, -1]),
  ("-0", [0, 2, 0, 1, 1, 2, -1, -1]), ("-0:", [0, 3, 0, 1, 1, 2, -1, -1])]
def shapes : List (Str × List Int) := shapes0 ++ (shapesP ++ shapesM)
def shapeB (x : Str) (sp : List Int) : Bool :=
  match rxEnd 400 (Sre.forSearch rec0.code.toArray x.cps 3 0 x.cps.size false) with
  | some m => (match m.outcome with | some .matched => true | _ => false) && !badSpan 3 m && spansOf 3 m == sp
  | none => false
theorem shapes_ok0 : ∀ p ∈ shapes0, shapeB p.1 p.2 = true := by decide +kernel
theorem shapes_okP : ∀ p ∈ shapesP, shapeB p.1 p.2 = true := by decide +kernel
theorem shapes_okM : ∀ p ∈ shapesM, shapeB p.1 p.2 = true := by decide +kernel
theorem shapes_ok : ∀ p ∈ shapes, shapeB p.1 p.2 = true := fun p m => by
  rcases List.mem_append.mp m with m | m
  · exact shapes_ok0 p m
  · rcases List.mem_append.mp m with m | m
    · exact shapes_okP p m
    · exact shapes_okM p m
def liveT (t : Str) (n : Int) : Bool :=
  !utc t && (match shapes.lookup (clsS t) with
  | some sp => (match unopt (groupOf t sp 1), unopt (groupOf t sp 2), unopt (groupOf t sp 3) with
    | some a, some (some h), some c =>
      match PySem.intText? h, minB c with
      | some hh, some r => decide (6 < sp.length) && decide (h.length ≤ 640) && decide (hh.natAbs < 1000) && decide (r.natAbs < 1000) && offI ⟨a, h, c⟩ hh r == n
      | _, _ => false
    | _, _, _ => false)
  | none => false)
end Mine
end
section
open PySem PySem.Spec PySem.Calls PyProof.Rows PySem.W
set_option maxRecDepth 100000
set_option linter.unusedVariables false
namespace Mine
abbrev cl (x : Str) : List Nat := x.cps.toList
theorem str_ext {x y : Str} (h : cl x = cl y) : x = y := by
  obtain ⟨a⟩ := x
  obtain ⟨b⟩ := y
  have : a = b := Array.toList_inj.mp h
  rw [this]
theorem cl_append (x y : Str) : cl (x ++ y) = cl x ++ cl y := by
  show (x.cps ++ y.cps).toList = _
  simp
theorem cl_len (x : Str) : x.length = (cl x).length := by
  show x.cps.size = x.cps.toList.length
  simp
theorem cl_qt : cl qt = [34] := by decide
theorem starts_eq (x : Str) : Txt.startswith x qt = ((cl x).head? == some 34) := by
  unfold Txt.startswith
  rw [StrLaws.subAt_eq, cl_len, cl_len]
  rw [show qt.cps.toList = [34] from cl_qt]
  show (decide (0 + [34].length ≤ (cl x).length) && (((cl x).drop 0).take [34].length == [34])) = _
  cases h : cl x with
  | nil => rfl
  | cons a l =>
    show (decide (0 + 1 ≤ l.length + 1) && ([a] == [34])) = (some a == some 34)
    rw [decide_eq_true (by omega)]
    rw [Bool.eq_iff_iff]
    simp
theorem ends_eq (x : Str) : Txt.endswith x qt = ((cl x).getLast? == some 34) := by
  unfold Txt.endswith
  rw [StrLaws.subAt_eq, cl_len, cl_len]
  rw [show qt.cps.toList = [34] from cl_qt]
  show (decide (0 + [34].length ≤ (cl x).length) && (((cl x).drop ((cl x).length - [34].length)).take [34].length == [34])) = _
  rcases List.eq_nil_or_concat (cl x) with h | ⟨l, a, h⟩
  · rw [h]; rfl
  · rw [h]
    rw [Bool.eq_iff_iff]
    simp
theorem slice_from1 {x : Str} (h : cl x ≠ []) : cl (Txt.slice x (some 1) none) = (cl x).drop 1 := by
  have hl : 1 ≤ (cl x).length := by cases q : cl x with | nil => exact absurd q h | cons a l => simp
  have e : Txt.slice x (some 1) none = ⟨((x.cps.toList.drop (1 : Int).toNat).take ((x.cps.toList.length : Int) - 1).toNat).toArray⟩ := StrLaws.sliceText_from (x := x) (i := 1) ⟨by decide, Int.ofNat_le.mpr hl⟩
  rw [e]
  show (((cl x).drop 1).take (((cl x).length : Int) - 1).toNat).toArray.toList = _
  rw [List.toList_toArray, List.take_of_length_le (by rw [List.length_drop]; omega)]
theorem slice_to1 {x : Str} (h : cl x ≠ []) : cl (Txt.slice x none (some (-1))) = (cl x).dropLast := by
  have hl : 1 ≤ (cl x).length := by cases q : cl x with | nil => exact absurd q h | cons a l => simp
  have e : Txt.slice x none (some (-1)) = ⟨((x.cps.toList.drop 0).take (-1 + (x.length : Int) - 0).toNat).toArray⟩ := StrLaws.sliceText_to_neg (x := x) (j := -1) (by decide) (by rw [cl_len]; exact Int.neg_le_neg (Int.ofNat_le.mpr hl))
  rw [e]
  show (((cl x).drop 0).take (-1 + (x.length : Int) - 0).toNat).toArray.toList = _
  rw [List.toList_toArray, List.drop_zero, List.dropLast_eq_take, cl_len]
  congr 1
  omega
def stripL (l : List Nat) : List Nat :=
  let y := if l.head? == some 34 then l.drop 1 else l
  if y.getLast? == some 34 then y.dropLast else y
theorem strip_eq (x : Str) : cl (stripQ x) = stripL (cl x) := by
  have second : ∀ y : Str, cl (if Txt.endswith y qt = true then Txt.slice y none (some (-1)) else y) = (if (cl y).getLast? == some 34 then (cl y).dropLast else cl y) := fun y => by
    rw [ends_eq]
    split
    · rename_i h
      exact slice_to1 fun e => by rw [e] at h; simp at h
    · rfl
  unfold stripQ stripL
  dsimp only
  rw [second, starts_eq]
  have e : cl (if ((cl x).head? == some 34) = true then Txt.slice x (some 1) none else x) = (if ((cl x).head? == some 34) = true then (cl x).drop 1 else cl x) := by
    split
    · rename_i h
      exact slice_from1 fun e => by rw [e] at h; simp at h
    · rfl
  rw [e]
/-- a text without quotation marks at its ends -/
def noQ (x : Str) : Bool := match cl x with
  | [] => false
  | a :: l => a != 34 && (a :: l).getLast? != some 34
theorem stripL_marks {l : List Nat} {a : Nat} (ha : a ≠ 34) (hl : (a :: l).getLast? ≠ some 34) : stripL (a :: l) = a :: l ∧ stripL (34 :: a :: l ++ [34]) = a :: l ∧ stripL (34 :: a :: l) = a :: l ∧ stripL (a :: l ++ [34]) = a :: l := by
  have h0 : ((a :: l).head? == some 34) = false := by simpa using ha
  have h1 : ((a :: l).getLast? == some 34) = false := by simpa using hl
  refine ⟨?_, ?_, ?_, ?_⟩
  · unfold stripL
    rw [h0]; simp only [Bool.false_eq_true, if_false]
    rw [h1]; rfl
  · unfold stripL
    have : ((34 :: a :: l ++ [34]).head? == some 34) = true := rfl
    rw [this]
    simp only [if_true, List.cons_append, List.drop_succ_cons, List.drop_zero]
    rw [← List.cons_append, List.getLast?_concat, List.dropLast_concat]
    simp
  · unfold stripL
    have : ((34 :: a :: l).head? == some 34) = true := rfl
    rw [this]
    simp only [if_true, List.drop_succ_cons, List.drop_zero]
    rw [h1]; rfl
  · unfold stripL
    have : ((a :: l ++ [34]).head? == some 34) = false := by simpa using ha
    rw [this]
    simp only [Bool.false_eq_true, if_false]
    rw [List.getLast?_concat, List.dropLast_concat]
    simp
theorem strip_marks {x : Str} (h : noQ x = true) (q : Nat) (hq : q < 4) : stripQ (marks0.getD q "" ++ x ++ marks1.getD q "") = x := by
  apply str_ext
  rw [strip_eq, cl_append, cl_append]
  unfold noQ at h
  cases e : cl x with
  | nil => rw [e] at h; cases h
  | cons a l =>
    rw [e] at h
    simp only [Bool.and_eq_true, bne_iff_ne, ne_eq] at h
    obtain ⟨s1, s2, s3, s4⟩ := stripL_marks h.1 h.2
    have : q = 0 ∨ q = 1 ∨ q = 2 ∨ q = 3 := by omega
    rcases this with rfl | rfl | rfl | rfl
    · have : cl (marks0.getD 0 "") ++ (a :: l) ++ cl (marks1.getD 0 "") = a :: l := by
        show [] ++ (a :: l) ++ [] = _; simp
      rw [this]; exact s1
    · exact s2
    · have : cl (marks0.getD 2 "") ++ (a :: l) ++ cl (marks1.getD 2 "") = 34 :: a :: l := by
        show [34] ++ (a :: l) ++ [] = _; simp
      rw [this]; exact s3
    · exact s4
end Mine
end
section
open PySem PySem.Spec PySem.Calls PyProof.Rows PySem.W
set_option maxRecDepth 100000
set_option linter.unusedVariables false
namespace Mine
theorem mem_lookup {α β : Type} [BEq α] [LawfulBEq α] : ∀ {l : List (α × β)} {a : α} {b : β}, l.lookup a = some b → (a, b) ∈ l
  | (x, y) :: l, a, b, h => by
    rw [List.lookup_cons] at h
    cases q : a == x with
    | true => rw [q] at h; cases h; rw [eq_of_beq q]; exact .head _
    | false => rw [q] at h; exact .tail _ (mem_lookup h)
theorem liveT_ok {t : Str} {n : Int} (h : liveT t n = true) : OffOk t (.int n) := by
  unfold liveT at h
  rw [Bool.and_eq_true, Bool.not_eq_true'] at h
  obtain ⟨hu, h⟩ := h
  cases hl : shapes.lookup (clsS t) with
  | none => rw [hl] at h; cases h
  | some sp =>
    rw [hl] at h
    have hs := shapes_ok _ (mem_lookup hl)
    unfold shapeB at hs
    dsimp only at h hs
    split at hs
    · rename_i m' e'
      simp only [Bool.and_eq_true, Bool.not_eq_true', beq_iff_eq] at hs
      obtain ⟨⟨ho, hb⟩, hsp⟩ := hs
      obtain ⟨m, em, rfl⟩ := shape_run e'
      have hb : badSpan 3 m = false := hb
      have hsp : spansOf 3 m = sp := hsp
      have ho : m.outcome = some .matched := by
        have : (match m.outcome with | some .matched => true | _ => false) = true := ho
        split at this
        · assumption
        · cases this
      split at h
      · rename_i a hx c g1 g2 g3
        split at h
        · rename_i hh r i1 i2
          simp only [Bool.and_eq_true, decide_eq_true_eq, beq_iff_eq] at h
          obtain ⟨⟨⟨⟨q2, q3⟩, q4⟩, q5⟩, q6⟩ := h
          rw [← q6]
          refine .live m ⟨a, hx, c⟩ hh r hu em ho hb ⟨by rw [hsp]; exact q2, by rw [hsp]; exact unopt_eq g1, by rw [hsp]; exact unopt_eq g2, by rw [hsp]; exact unopt_eq g3⟩ i1 q3 (fun z hz => ?_) q4 q5
          have hz : c = some z := hz
          subst hz
          have i2 : (if z.length ≤ 640 then PySem.intText? z else none) = some r := i2
          split at i2
          · rename_i l; exact ⟨i2, l⟩
          · cases i2
        · cases h
      · cases h
    · cases hs
def chkT (sg : Str) (a : Int) (t : Str) : Bool := noQ t && decide (t.length ≤ 20) && liveT t (if sg == "-" then -(60 * a) else 60 * a)
def chkA (sg : Str) (a : Int) : Bool :=
  let h := a.fdiv 60
  let r := a.fmod 60
  chkT sg a (zoneF sg h r 0 0) && chkT sg a (zoneF sg h r 1 0) && chkT sg a (zoneF sg h r 2 0) && chkT sg a (zoneF sg h r 3 0) &&
  (if zoneC a 4 = true then chkT sg a (zoneF sg (h - 1) (r + 60) 4 0) else true) && (if r = 0 then chkT sg a (zoneF sg h r 5 0) && chkT sg a (zoneF sg h r 5 1) else true)
theorem z00 : ∀ r : Nat, r < 14 → chkA "" (absI (60 * 0 + r - 7)) = true := by decide +kernel
theorem z01 : ∀ r : Nat, r < 14 → chkA "" (absI (60 * 1 + r - 7)) = true := by decide +kernel
theorem z02 : ∀ r : Nat, r < 14 → chkA "" (absI (60 * 24 + r - 7)) = true := by decide +kernel
theorem z03 : ∀ r : Nat, r < 14 → chkA "" (absI (60 * 99 + r - 7)) = true := by decide +kernel
theorem z10 : ∀ r : Nat, r < 14 → chkA "+" (absI (60 * 0 + r - 7)) = true := by decide +kernel
theorem z11 : ∀ r : Nat, r < 14 → chkA "+" (absI (60 * 1 + r - 7)) = true := by decide +kernel
theorem z12 : ∀ r : Nat, r < 14 → chkA "+" (absI (60 * 24 + r - 7)) = true := by decide +kernel
theorem z13 : ∀ r : Nat, r < 14 → chkA "+" (absI (60 * 99 + r - 7)) = true := by decide +kernel
theorem z20 : ∀ r : Nat, r < 14 → chkA "-" (absI (60 * 0 + r - 7)) = true := by decide +kernel
theorem z21 : ∀ r : Nat, r < 14 → chkA "-" (absI (60 * 1 + r - 7)) = true := by decide +kernel
theorem z22 : ∀ r : Nat, r < 14 → chkA "-" (absI (60 * 24 + r - 7)) = true := by decide +kernel
theorem z23 : ∀ r : Nat, r < 14 → chkA "-" (absI (60 * 99 + r - 7)) = true := by decide +kernel
def isDead (t : Str) : Bool := match offB t with | some .none => true | _ => false
theorem zdead1 : ∀ k ∈ [0, 1, 3, 5, 6, 7, 8, 10, 11], (noQ (menu12.getD k "") && isDead (menu12.getD k "")) = true := by decide +kernel
theorem zdead2 : ∀ q : Nat, q < 4 → ∀ k ∈ [2, 4, 9], isDead (stripQ (marks0.getD q "" ++ menu12.getD k "" ++ marks1.getD q "")) = true := by decide +kernel
theorem zdead (q : Nat) (hq : q < 4) (k : Nat) (hk : k < 12) : isDead (stripQ (marks0.getD q "" ++ menu12.getD k "" ++ marks1.getD q "")) = true := by
  have : k ∈ [0, 1, 3, 5, 6, 7, 8, 10, 11] ∨ k ∈ [2, 4, 9] := by
    simp only [List.mem_cons, List.not_mem_nil, or_false]
    omega
  rcases this with h | h
  · have := zdead1 k h
    rw [Bool.and_eq_true] at this
    rw [strip_marks this.1 q hq]
    exact this.2
  · exact zdead2 q hq k h
theorem isDead_ok {t : Str} (h : isDead t = true) : OffOk t .none := by
  unfold isDead at h
  split at h
  · rename_i e; exact offB_ok e
  · cases h
theorem zutc : ∀ g : Nat, g < 4 → (noQ (menu4.getD g "") && utc (menu4.getD g "") && decide ((menu4.getD g "").length ≤ 20)) = true := by decide +kernel
theorem zdead_len : ∀ k : Nat, k < 12 → (menu12.getD k "").length ≤ 20 := by decide +kernel
end Mine
end
section
open PySem PySem.Spec PySem.Calls PyProof.Rows PySem.W
set_option maxRecDepth 100000
set_option linter.unusedVariables false
namespace Mine
theorem absI_idem (m : Int) : absI (absI m) = absI m := by
  have h : 0 ≤ absI m := by unfold absI; split <;> omega
  exact if_neg (by omega)
theorem zoneC_abs (m f : Int) : zoneC m f = zoneC (absI m) f := by unfold zoneC; rw [absI_idem]
theorem zoneH_abs (m f : Int) : zoneH m f = zoneH (absI m) f := by unfold zoneH; rw [← zoneC_abs, absI_idem]
theorem zoneR_abs (m f : Int) : zoneR m f = zoneR (absI m) f := by unfold zoneR; rw [← zoneC_abs, absI_idem]
theorem abs_nonneg (m : Int) : 0 ≤ absI m := by unfold absI; split <;> omega
theorem absI_self {a : Int} (h : 0 ≤ a) : absI a = a := by unfold absI; rw [if_neg (by omega)]
theorem zoneC_ne {a f : Int} (h : f ≠ 4) : zoneC a f = false := by
  unfold zoneC
  have : (f == 4) = false := by simpa using h
  rw [this]; rfl
/-- all ways of writing are among those that were looked at -/
theorem chk_all {sg : Str} {a : Int} (ha : 0 ≤ a) (h : chkA sg a = true) (f b : Int) (f0 : 0 ≤ f) (f6 : f < 6) (b0 : 0 ≤ b) (b2 : b < 2) : chkT sg a (zoneF sg (zoneH a f) (zoneR a f) f b) = true := by
  unfold chkA at h
  dsimp only at h
  simp only [Bool.and_eq_true] at h
  obtain ⟨⟨⟨⟨⟨h0, h1⟩, h2⟩, h3⟩, h4⟩, h5⟩ := h
  have hN : ∀ f : Int, f ≠ 4 → zoneH a f = a.fdiv 60 ∧ zoneR a f = a.fmod 60 := fun f hf => by
    unfold zoneH zoneR
    rw [zoneC_ne hf, absI_self ha]
    exact ⟨rfl, rfl⟩
  have : f = 0 ∨ f = 1 ∨ f = 2 ∨ f = 3 ∨ f = 4 ∨ f = 5 := by omega
  rcases this with rfl | rfl | rfl | rfl | rfl | rfl
  · obtain ⟨e1, e2⟩ := hN 0 (by decide)
    rw [e1, e2]; exact h0
  · obtain ⟨e1, e2⟩ := hN 1 (by decide)
    rw [e1, e2]; exact h1
  · obtain ⟨e1, e2⟩ := hN 2 (by decide)
    rw [e1, e2]; exact h2
  · obtain ⟨e1, e2⟩ := hN 3 (by decide)
    rw [e1, e2]; exact h3
  · cases q : zoneC a 4 with
    | true =>
      rw [q, if_pos rfl] at h4
      have e1 : zoneH a 4 = a.fdiv 60 - 1 := by unfold zoneH; rw [q, absI_self ha]; rfl
      have e2 : zoneR a 4 = a.fmod 60 + 60 := by unfold zoneR; rw [q, absI_self ha]; rfl
      rw [e1, e2]; exact h4
    | false =>
      have e1 : zoneH a 4 = a.fdiv 60 := by unfold zoneH; rw [q, absI_self ha]; rfl
      have e2 : zoneR a 4 = a.fmod 60 := by unfold zoneR; rw [q, absI_self ha]; rfl
      rw [e1, e2]; exact h0
  · obtain ⟨e1, e2⟩ := hN 5 (by decide)
    rw [e1, e2]
    by_cases q : a.fmod 60 = 0
    · rw [if_pos q, Bool.and_eq_true] at h5
      have : b = 0 ∨ b = 1 := by omega
      rcases this with rfl | rfl
      · exact h5.1
      · exact h5.2
    · have e : zoneF sg (a.fdiv 60) (a.fmod 60) 5 b = zoneF sg (a.fdiv 60) (a.fmod 60) 1 0 := by
        unfold zoneF
        have : ((5 : Int) == 5 && a.fmod 60 == 0) = false := by simpa using q
        rw [this]
        rfl
      rw [e]; exact h1
/-- each clock's minutes, by each sign -/
theorem chk_min (h : Nat) (hh : h ∈ [0, 1, 24, 99]) (r : Nat) (hr : r < 14) (sg : Str) (hs : sg ∈ (["", "+", "-"] : List Str)) : chkA sg (absI (60 * (h : Int) + r - 7)) = true := by
  simp only [List.mem_cons, List.not_mem_nil, or_false] at hh hs
  rcases hh with rfl | rfl | rfl | rfl <;> rcases hs with rfl | rfl | rfl
  · exact z00 r hr
  · exact z10 r hr
  · exact z20 r hr
  · exact z01 r hr
  · exact z11 r hr
  · exact z21 r hr
  · exact z02 r hr
  · exact z12 r hr
  · exact z22 r hr
  · exact z03 r hr
  · exact z13 r hr
  · exact z23 r hr
theorem menuH_mem : ∀ i : Nat, ∃ h : Nat, h ∈ [0, 1, 24, 99] ∧ menuH.getD i 0 = (h : Int)
  | 0 => ⟨0, by simp, rfl⟩
  | 1 => ⟨1, by simp, rfl⟩
  | 2 => ⟨24, by simp, rfl⟩
  | 3 => ⟨99, by simp, rfl⟩
  | i + 4 => ⟨0, by simp, rfl⟩
theorem signs_mem {i : Nat} (h : i < 2) : signs.getD i 0 = 1 ∨ signs.getD i 0 = -1 := by
  have : i = 0 ∨ i = 1 := by omega
  rcases this with rfl | rfl
  · exact .inl rfl
  · exact .inr rfl
theorem min_abs (d5 d : Int) : ∃ h : Nat, h ∈ [0, 1, 24, 99] ∧ ∃ r : Nat, r < 14 ∧ absI (minOf d5 d) = absI (60 * (h : Int) + r - 7) := by
  have f14 := fmod_range (a := d) (b := 14) (by decide)
  have f2 := fmod_range (a := d5.fdiv 4) (b := 2) (by decide)
  obtain ⟨h, hh, e⟩ := menuH_mem (d5.fmod 4).toNat
  refine ⟨h, hh, (d.fmod 14).toNat, by omega, ?_⟩
  unfold minOf hourOf signOf
  rw [e, show (((d.fmod 14).toNat : Nat) : Int) = d.fmod 14 from by omega]
  rcases signs_mem (i := ((d5.fdiv 4).fmod 2).toNat) (by omega) with q | q <;> rw [q]
  · rw [Int.mul_one]
  · unfold absI
    split <;> split <;> omega
theorem zoneS_mem (m c : Int) (c0 : 0 ≤ c) (c3 : c < 3) : zoneS m c ∈ (["", "+", "-"] : List Str) ∧ ((zoneS m c == "-") = true → m ≤ 0) ∧ ((zoneS m c == "-") = false → 0 ≤ m) := by
  unfold zoneS
  by_cases hm : m < 0
  · rw [decide_eq_true hm, if_pos rfl]
    exact ⟨by simp, fun _ => by omega, fun h => absurd (show true = false from h) (by decide)⟩
  · rw [decide_eq_false hm, if_neg (by decide)]
    have : c = 0 ∨ c = 1 ∨ c = 2 := by omega
    rcases this with rfl | rfl | rfl
    · exact ⟨.head _, fun h => by revert h; show ((Str.ofString "") == "-") = true → _; intro h; exact absurd h (by decide), fun _ => by omega⟩
    · exact ⟨.tail _ (.head _), fun h => by revert h; show ((Str.ofString "+") == "-") = true → _; intro h; exact absurd h (by decide), fun _ => by omega⟩
    · by_cases q : m = 0
      · subst q
        exact ⟨by simp, fun _ => by omega, fun _ => by omega⟩
      · have hq : (m != 0) = true := by simpa using q
        show (if (m != 0) = true then (Str.ofString "") else "-") ∈ _ ∧ (((if (m != 0) = true then (Str.ofString "") else "-") == "-") = true → _) ∧ _
        rw [hq, if_pos rfl]
        exact ⟨.head _, fun h => absurd h (by decide), fun _ => by omega⟩
theorem z_ok (d5 d : Int) : ZOk d5 d := by
  have dr := dress_range d
  have q4 : ((dressOf d).fdiv 864).toNat < 4 := by
    rw [Int.fdiv_eq_ediv_of_nonneg _ (by decide)]; omega
  have f12 := fmod_range (a := (dressOf d).fdiv 6) (b := 12) (by decide)
  have f4 := fmod_range (a := (dressOf d).fdiv 6) (b := 4) (by decide)
  have f2 := fmod_range (a := (dressOf d).fdiv 6) (b := 2) (by decide)
  have f6 := fmod_range (a := dressOf d) (b := 6) (by decide)
  have f3 := fmod_range (a := (dressOf d).fdiv 48) (b := 3) (by decide)
  by_cases hd : deadD d = true
  · have ez : zoneT (minOf d5 d) (dressOf d) = menu12.getD (((dressOf d).fdiv 6).fmod 12).toNat "" := by
      have hd' : (((dressOf d).fdiv 144).fmod 6 == 5) = true := hd
      unfold zoneT
      rw [if_pos hd']
    have ed : dueD d5 d = .none := by unfold dueD; rw [if_pos hd]
    refine ⟨?_, ?_⟩
    · rw [ed]
      unfold zText
      rw [ez]
      exact isDead_ok (zdead _ q4 _ (by omega))
    · rw [ez]; exact zdead_len _ (by omega)
  · have ed : dueD d5 d = .int (60 * minOf d5 d) := by unfold dueD; rw [if_neg hd]
    by_cases h0 : ((dressOf d).fmod 6 == 5 && minOf d5 d == 0) = true
    · have ez : zoneT (minOf d5 d) (dressOf d) = menu4.getD (((dressOf d).fdiv 6).fmod 4).toNat "" := by
        have hd' : ¬ (((dressOf d).fdiv 144).fmod 6 == 5) = true := hd
        unfold zoneT
        rw [if_neg hd', if_pos h0]
      have hu := zutc (((dressOf d).fdiv 6).fmod 4).toNat (by omega)
      simp only [Bool.and_eq_true, decide_eq_true_eq] at hu
      rw [Bool.and_eq_true, beq_iff_eq, beq_iff_eq] at h0
      refine ⟨?_, ?_⟩
      · rw [ed, h0.2]
        unfold zText
        rw [ez, strip_marks hu.1.1 _ q4]
        exact .utc hu.1.2
      · rw [ez]; exact hu.2
    · have ez : zoneT (minOf d5 d) (dressOf d) = zoneF (zoneS (minOf d5 d) (((dressOf d).fdiv 48).fmod 3)) (zoneH (minOf d5 d) ((dressOf d).fmod 6)) (zoneR (minOf d5 d) ((dressOf d).fmod 6)) ((dressOf d).fmod 6) (((dressOf d).fdiv 6).fmod 2) := by
        have hd' : ¬ (((dressOf d).fdiv 144).fmod 6 == 5) = true := hd
        unfold zoneT
        rw [if_neg hd', if_neg h0]
      obtain ⟨hs, s1, s2⟩ := zoneS_mem (minOf d5 d) (((dressOf d).fdiv 48).fmod 3) f3.1 f3.2
      obtain ⟨h, hh, r, hr, ea⟩ := min_abs d5 d
      have hc := chk_min h hh r hr _ hs
      rw [← ea] at hc
      have ht := chk_all (abs_nonneg _) hc ((dressOf d).fmod 6) (((dressOf d).fdiv 6).fmod 2) f6.1 f6.2 f2.1 f2.2
      rw [← zoneH_abs, ← zoneR_abs, ← ez] at ht
      unfold chkT at ht
      simp only [Bool.and_eq_true, decide_eq_true_eq] at ht
      obtain ⟨⟨t1, t2⟩, t3⟩ := ht
      refine ⟨?_, t2⟩
      rw [ed]
      unfold zText
      rw [strip_marks t1 _ q4]
      have ev : (if (zoneS (minOf d5 d) (((dressOf d).fdiv 48).fmod 3) == "-") = true then -(60 * absI (minOf d5 d)) else 60 * absI (minOf d5 d)) = 60 * minOf d5 d := by
        cases q : (zoneS (minOf d5 d) (((dressOf d).fdiv 48).fmod 3) == "-") with
        | true =>
          have := s1 q
          rw [if_pos rfl]
          unfold absI
          split <;> omega
        | false =>
          have := s2 q
          rw [if_neg (by decide)]
          unfold absI
          split <;> omega
      rw [ev] at t3
      exact liveT_ok t3
end Mine
end
section
open PySem PySem.Spec PySem.Calls PyProof.Rows PySem.W
set_option maxRecDepth 100000
set_option linter.unusedVariables false
namespace Mine
def vbody : List Stmt := [0, 2, 3, 4, 5, 7, 8, 9, 11, 12, 13, 14].map defAt
/-- the program as the head looks at it -/
def vw : Program := { PySem.Challenge.pw_rs0014_01 with main := { PySem.Challenge.pw_rs0014_01.main with body := vbody } }
theorem rec_at : ∀ i ∈ [4, 5, 8, 9, 11, 12, 13, 14], ∃ pos, (⟨nameOf (defAt i), paramsOf (defAt i), bodyOf (defAt i), scopeOf (defAt i), pos⟩ : DefRec) ∈ recsOf vw := by
  intro i hi
  simp only [List.mem_cons, List.not_mem_nil, or_false] at hi
  rcases hi with rfl | rfl | rfl | rfl | rfl | rfl | rfl | rfl
  · exact ⟨_, List.mem_of_getElem? (i := 0) rfl⟩
  · exact ⟨_, List.mem_of_getElem? (i := 1) rfl⟩
  · exact ⟨_, List.mem_of_getElem? (i := 2) rfl⟩
  · exact ⟨_, List.mem_of_getElem? (i := 3) rfl⟩
  · exact ⟨_, List.mem_of_getElem? (i := 4) rfl⟩
  · exact ⟨_, List.mem_of_getElem? (i := 5) rfl⟩
  · exact ⟨_, List.mem_of_getElem? (i := 6) rfl⟩
  · exact ⟨_, List.mem_of_getElem? (i := 7) rfl⟩
theorem boot1 : bootBuiltins "len" = some (.builtin "len") := by boot_by_name
theorem boot2 : bootBuiltins "sum" = some (.builtin "sum") := by boot_by_name
theorem boot3 : bootBuiltins "sorted" = some (.builtin "sorted") := by boot_by_name
theorem boot4 : bootBuiltins "abs" = some (.builtin "abs") := by boot_by_name
theorem boot5 : bootBuiltins "divmod" = some (.builtin "divmod") := by boot_by_name
theorem boot6 : bootBuiltins "str" = some (.type "str") := by boot_by_name
theorem boot7 : bootBuiltins "int" = some (.type "int") := by boot_by_name
theorem boot8 : bootBuiltins "range" = some (.type "range") := by boot_by_name
theorem boot9 : bootBuiltins "list" = some (.type "list") := by boot_by_name
theorem boot10 : bootBuiltins "zip" = some (.type "zip") := by boot_by_name
theorem boot11 : bootBuiltins "enumerate" = some (.type "enumerate") := by boot_by_name
theorem blt_boot : ∀ p ∈ bltNames, bootBuiltins p.1 = some p.2 := by
  intro p hp
  simp only [bltNames, List.mem_cons, List.not_mem_nil, or_false] at hp
  rcases hp with rfl | rfl | rfl | rfl | rfl | rfl | rfl | rfl | rfl | rfl | rfl
  · exact boot1
  · exact boot2
  · exact boot3
  · exact boot4
  · exact boot5
  · exact boot6
  · exact boot7
  · exact boot8
  · exact boot9
  · exact boot10
  · exact boot11
def vloose : List Str := ["UTC_ZONES", "TIMEZONE_RE"]
theorem blt_free : ∀ p ∈ bltNames, p.1 ∉ startupNames ∧ p.1 ∉ looseW vw vloose ∧ p.1 ∉ (recsOf vw).map (·.name) ∧ p.1 ∉ (litsOf vw).map (·.1) ∧ p.1 ∉ (clssOf vw (looseW vw vloose)).map (·.name) ∧ p.1 ≠ "__name__" := by decide +kernel
theorem vw_nt : valOf vw "NT_OFFSET" = some (.int 256) := by kernel_rfl
theorem tp_of {mean : ExcName → Option Value} {mg mb : Str → Option Value} {h : Heap} (T : Top vw (looseW vw vloose) mean mg mb h) : Tp mg mb h := by
  refine ⟨T.g, T.b, T.nolimit, fun i hi => ?_, ?_, fun x v hx => ?_⟩
  · obtain ⟨pos, m⟩ := rec_at i (by simp only [List.mem_cons, List.not_mem_nil, or_false] at hi ⊢; omega)
    obtain ⟨a, o, pm, cd, doc, h1, h2, h3, h4⟩ := T.fn _ m
    exact ⟨a, h1, o, pm, cd, doc, h2, h3, h4⟩
  · obtain ⟨v, h1, h2⟩ := T.const "NT_OFFSET" (.int 256) vw_nt
    have := h2 h
    cases this
    exact ⟨_, h1⟩
  · have hm : (x, v) ∈ bltNames := mem_of_lookup hx
    obtain ⟨f1, f2, f3, f4, f5, f6⟩ := blt_free _ hm
    exact ⟨T.free x f1 f2 f3 f4 f5, (T.builtins x f6).trans (blt_boot _ hm)⟩
theorem law_at {mean : ExcName → Option Value} {mg mb : Str → Option Value} {h : Heap} {fa : Addr} (T : Top vw (looseW vw vloose) mean mg mb h) (hf : mg "law" = some (.ref fa)) : FnAt h 14 fa := by
  obtain ⟨pos, m⟩ := rec_at 14 (by simp)
  obtain ⟨a, o, pm, cd, doc, h1, h2, h3, h4⟩ := T.fn _ m
  have h1 : mg "law" = some (.ref a) := h1
  rw [hf] at h1
  cases h1
  exact ⟨o, pm, cd, doc, h2, h3, h4⟩
end Mine
end
section
open PySem PySem.Spec PySem.Calls PyProof.Rows PySem.W
set_option maxRecDepth 100000
set_option linter.unusedVariables false
namespace Mine
section
variable {prog : Program} {w : World} {E : Value → Shared → Prop} {s₁ : Shared} {mg mb : Str → Option Value}
def zEnts (w : World) (t1 t2 t3 t4 : Tok) : Array DictEntry := #[{ hash := PyData.keyHash w.params "GMT", key := .str "GMT" t1, val := .none }, { hash := PyData.keyHash w.params "UTC", key := .str "UTC" t2, val := .none }, { hash := PyData.keyHash w.params "UT", key := .str "UT" t3, val := .none }, { hash := PyData.keyHash w.params "Z", key := .str "Z" t4, val := .none }]
theorem zEnts_map {h : Heap} {t1 t2 t3 t4 : Tok} {n : Nat} (e : h.get? 32 = some { cls := .type "dict", data := .dict (zEnts w t1 t2 t3 t4) n }) : h.MapOf (strKind prog w) 32 (fun k => findBy (strKind prog w).is (zEnts w t1 t2 t3 t4) k) := by
  refine ⟨_, _, _, e, ⟨rfl, rfl, rfl⟩, rfl, fun x hx => ?_, fun k => rfl⟩
  simp only [zEnts, List.mem_toArray, List.mem_cons, List.not_mem_nil, or_false] at hx
  rcases hx with rfl | rfl | rfl | rfl
  · exact ⟨"GMT", strKind_is .., rfl⟩
  · exact ⟨"UTC", strKind_is .., rfl⟩
  · exact ⟨"UT", strKind_is .., rfl⟩
  · exact ⟨"Z", strKind_is .., rfl⟩
theorem find_any {α : Type} (p : α → Bool) : ∀ l : List α, (l.find? p).isSome = l.any p
  | [] => rfl
  | a :: l => by
    rw [List.find?_cons, List.any_cons]
    cases p a with
    | true => rfl
    | false => exact find_any p l
theorem zEnts_utc {t1 t2 t3 t4 : Tok} (x : Str) : (findBy (strKind prog w).is (zEnts w t1 t2 t3 t4) x).isSome = utc x := by
  have h1 : (findBy (strKind prog w).is (zEnts w t1 t2 t3 t4) x).isSome = ([.str "GMT" t1, .str "UTC" t2, .str "UT" t3, .str "Z" t4] : List Value).any (fun v => Value.isStrOf x v) := by
    unfold findBy zEnts
    rw [Option.isSome_map, List.find?_toArray, find_any]
    rfl
  rw [h1]
  unfold utc
  have c : ∀ y : Str, (y == x) = (x == y) := fun y => by rw [Bool.eq_iff_iff, beq_iff_eq, beq_iff_eq]; exact eq_comm
  show ((Str.ofString "GMT") == x || ((Str.ofString "UTC") == x || ((Str.ofString "UT") == x || ((Str.ofString "Z") == x || false)))) = _
  rw [c, c, c, c]
  rfl
theorem tz_in {K : Frag} {h : Heap} (hk : K.In h) (hg : h.Ns mainGlobals mg) {es : Array DictEntry} {ep : Nat} {o3 : Obj} (l3 : K.lookup mainGlobals = some o3) (d3 : o3.data = .dict es ep) (f1 : nsFind es "UTC_ZONES" = some (.ref 32)) (f2 : nsFind es "TIMEZONE_RE" = some (.ref 37))
    {t1 t2 t3 t4 : Tok} {n : Nat} (l32 : K.lookup 32 = some { cls := .type "dict", data := .dict (zEnts w t1 t2 t3 t4) n })
    {fs : Array Value} (l37 : K.lookup 37 = some { cls := .type "re.Pattern", data := .fields fs }) (p1 : fs.getD 5 .none = .ref 36) (p2 : Builtin.Re.reRawNat (fs.getD 2 .none) = rec0.groups) (p3 : Builtin.Re.reRawNat (fs.getD 6 .none) = rec0.kind)
    {ws : Array Value} {n' : Nat} (l36 : K.lookup 36 = some { cls := .type "tuple", data := .seq ws n' }) (p4 : ((ws.map Builtin.Re.reRawOf).map (·.toNat)).toList = rec0.code) : Tz prog w mg h := by
  obtain ⟨o, es', ep', e, hd, _, hf⟩ := hg
  rw [hk _ _ l3] at e
  cases e
  rw [d3] at hd
  cases hd
  refine ⟨⟨32, _, (hf _).symm.trans f1, by decide, zEnts_map (hk _ _ l32), zEnts_utc⟩, 37, (hf _).symm.trans f2, fs, 36, ws, n', hk _ _ l37, p1, p2, p3, hk _ _ l36, p4⟩
/-- the call, as the head asks it -/
theorem entry_ok {mean : ExcName → Option Value} {fa l : Addr} {ns : List Int} {as : List Addr} (T : Top vw (looseW vw vloose) mean mg mb s₁.heap) (Z : Tz prog w mg s₁.heap) (hf : mg "law" = some (.ref fa)) (r0 : Reads s₁.heap (.ref l) (.list (ns.map .int)) as) (hn : ¬ (63 : Int) < ns.length) :
    wpAny (model prog w) callerA (call (.ref fa) [.ref l]) (fun v s' => Keeps s₁ s' ∧ v = .bool true) E s₁ := by
  have lt : Lt 2 callerA := ⟨rfl, rfl, by decide +kernel, by decide +kernel⟩
  refine wpAny_mono ((law_call (W := []) lt (tp_of T) Z (law_at T hf) (fun b m => by cases m) (ns := ns) (by omega) ?_ z_ok plain_ok).run E s₁ (kRefl s₁)) (fun v s' h => ⟨h.1, h.2.isBool⟩) fun _ _ h => h
  exact ⟨as, r0⟩
end
theorem post_ok (x : List WData) : PySem.Challenge.rw_rs0014_01.row.claim.post x (.bool true) x = true := by
  have h1 : WShape.has [] (.bool true) .bool = true := by kernel_rfl
  have h2 : (WTm.eq .res (.lit (.bool true))).holds [] { args := x, res := some (.bool true), after := x } = true := by
    unfold WTm.holds
    have : (WTm.eq .res (.lit (.bool true))).value [] { args := x, res := some (.bool true), after := x } = some (.bool true) := by
      simp only [WTm.value]
      have hs : same (WData.bool true) (WData.bool true) = true := by first | kernel_rfl | decide +kernel | simp [same]
      rw [hs]
    rw [this]
  show (WShape.has [] (.bool true) .bool && (WTm.eq .res (.lit (.bool true))).holds [] { args := x, res := some (.bool true), after := x }) = true
  rw [h1, h2]; rfl
end Mine
end
open PySem PySem.W PySem.W.X PyProof.Rows
set_option maxRecDepth 100000 in
set_option maxHeartbeats 0 in
theorem PySem.Challenge.cw_rs0014_01_holds : PySem.Challenge.rw_rs0014_01.Holds := by
  w_on
  o_law
  k_head
  case hw => w_witness2
  k_fill
  intro w s₀ s₁ mg mb G y fa o pm cd doc dV kV ho hd hcd hD hmg hg args vals as hpre hlay hrd hwl hlo
  have T : Top Mine.vw (looseW Mine.vw Mine.vloose) (ExcName.means s₀.heap) mg mb s₁.heap := G.T
  have Z : Mine.Tz PySem.Challenge.rw_rs0014_01.row.prog w mg s₁.heap := Mine.tz_in (kIn_of y) G.T.g rfl rfl rfl rfl rfl rfl rfl rfl rfl rfl (by decide +kernel)
  have hf : mg "law" = some (.ref fa) := hmg
  clear y ho hd hcd hD hmg G
  wrow_args hpre hlay hrd hwl hlo
  rename_i r0 _ _ hn _
  refine wpAny_mono (Mine.entry_ok T Z hf r0 hn) (fun v s' h => ?_) fun _ _ h => h
  obtain ⟨⟨h', tk, rfl, k⟩, rfl⟩ := h
  exact ⟨.inl ⟨_, _, _, rfl, fun _ => rfl, .bool true, Mine.post_ok _, fun _ => ⟨.nil, fun a m => by cases m⟩⟩, .of_keep k, rfl, .of_eq hg⟩
