import PyProof.Rows.All
import Wide.All
import OpenK.AllK
import Wide.FinOn
import PySem.Challenge.RW_rl0019_02
set_option Elab.async false

section
open PySem PySem.Calls PySem.W PyProof.Rows
set_option maxRecDepth 100000
set_option linter.unusedVariables false
namespace Mine

/-! ## Data held in a heap: W is the set of addresses that may still be written -/
mutual
inductive Rep (W : Addr → Prop) (h : Heap) : Value → PyData → Prop
  | none : Rep W h .none .none
  | bool (b) : Rep W h (.bool b) (.bool b)
  | int (i t) : Rep W h (.int i t) (.int i)
  | str (x t) : Rep W h (.str x t) (.str x)
  | list {a vs xs} : h.PlainList a (List.toArray vs) → ¬ W a → RepL W h vs xs → Rep W h (.ref a) (.list xs)
  | tuple {a vs xs} : IsTup h a (List.toArray vs) → ¬ W a → RepL W h vs xs → Rep W h (.ref a) (.tuple xs)
inductive RepL (W : Addr → Prop) (h : Heap) : List Value → List PyData → Prop
  | nil : RepL W h [] []
  | cons {v vs d ds} : Rep W h v d → RepL W h vs ds → RepL W h (v :: vs) (d :: ds)
end

mutual
theorem Rep.move {W W' : Addr → Prop} {h h' : Heap} (hk : ∀ b o, ¬ W b → h.get? b = some o → h'.get? b = some o) (hw : ∀ a, ¬ W a → (∃ o, h.get? a = some o) → ¬ W' a) :
    ∀ {v d}, Rep W h v d → Rep W' h' v d
  | _, _, .none => .none
  | _, _, .bool b => .bool b
  | _, _, .int i t => .int i t
  | _, _, .str x t => .str x t
  | _, _, .list hl hn hr => .list (hl.at fun o e => hk _ o hn e) (hw _ hn (let ⟨_, ho⟩ := hl; ⟨_, ho⟩)) (RepL.move hk hw hr)
  | _, _, .tuple ⟨o, ho, r⟩ hn hr => .tuple ⟨o, hk _ o hn ho, r⟩ (hw _ hn ⟨o, ho⟩) (RepL.move hk hw hr)
theorem RepL.move {W W' : Addr → Prop} {h h' : Heap} (hk : ∀ b o, ¬ W b → h.get? b = some o → h'.get? b = some o) (hw : ∀ a, ¬ W a → (∃ o, h.get? a = some o) → ¬ W' a) :
    ∀ {vs ds}, RepL W h vs ds → RepL W' h' vs ds
  | _, _, .nil => .nil
  | _, _, .cons x r => .cons (Rep.move hk hw x) (RepL.move hk hw r)
end

mutual
theorem Rep.moveS {W : Addr → Prop} {h h' : Heap} (hk : ∀ b o xs n, h.get? b = some o → o.data = .seq xs n → h'.get? b = some o) : ∀ {v d}, Rep W h v d → Rep W h' v d
  | _, _, .none => .none
  | _, _, .bool b => .bool b
  | _, _, .int i t => .int i t
  | _, _, .str x t => .str x t
  | _, _, .list ⟨n, e⟩ hn hr => .list ⟨n, hk _ _ _ _ e rfl⟩ hn (RepL.moveS hk hr)
  | _, _, .tuple ⟨o, ho, hc, n, hd⟩ hn hr => .tuple ⟨o, hk _ _ _ _ ho hd, hc, n, hd⟩ hn (RepL.moveS hk hr)
theorem RepL.moveS {W : Addr → Prop} {h h' : Heap} (hk : ∀ b o xs n, h.get? b = some o → o.data = .seq xs n → h'.get? b = some o) : ∀ {vs ds}, RepL W h vs ds → RepL W h' vs ds
  | _, _, .nil => .nil
  | _, _, .cons x r => .cons (Rep.moveS hk x) (RepL.moveS hk r)
end

theorem Rep.keeps {W : Addr → Prop} {h h' : Heap} {v d} (x : Rep W h v d) (hk : ∀ b o, h.get? b = some o → h'.get? b = some o) : Rep W h' v d :=
  x.move (fun b o _ e => hk b o e) fun _ n _ => n
theorem RepL.keeps {W : Addr → Prop} {h h' : Heap} {v d} (x : RepL W h v d) (hk : ∀ b o, h.get? b = some o → h'.get? b = some o) : RepL W h' v d :=
  x.move (fun b o _ e => hk b o e) fun _ n _ => n
theorem Rep.less {W W' : Addr → Prop} {h : Heap} {v d} (x : Rep W h v d) (hw : ∀ a, W' a → W a) : Rep W' h v d :=
  x.move (fun _ _ _ e => e) fun a n _ q => n (hw a q)
theorem RepL.less {W W' : Addr → Prop} {h : Heap} {v d} (x : RepL W h v d) (hw : ∀ a, W' a → W a) : RepL W' h v d :=
  x.move (fun _ _ _ e => e) fun a n _ q => n (hw a q)

mutual
theorem Rep.reads {W : Addr → Prop} {h : Heap} : ∀ {v d}, Rep W h v d → ∃ as, Reads h v d as
  | _, _, .none => ⟨_, .none⟩
  | _, _, .bool b => ⟨_, .bool b⟩
  | _, _, .int i t => ⟨_, .int i t⟩
  | _, _, .str x t => ⟨_, .str x t⟩
  | _, _, .list ⟨n, ho⟩ _ hr => let ⟨as, q⟩ := RepL.reads hr; ⟨_, .list ho rfl rfl (by simpa using q)⟩
  | _, _, .tuple ⟨o, ho, hc, n, hd⟩ _ hr => let ⟨as, q⟩ := RepL.reads hr; ⟨_, .tuple ho hc hd (by simpa using q)⟩
theorem RepL.reads {W : Addr → Prop} {h : Heap} : ∀ {vs ds}, RepL W h vs ds → ∃ as, ReadsAll h vs ds as
  | _, _, .nil => ⟨_, .nil⟩
  | _, _, .cons x r => let ⟨_, p⟩ := Rep.reads x; let ⟨_, q⟩ := RepL.reads r; ⟨_, .cons p q⟩
end

theorem RepL.length {W : Addr → Prop} {h : Heap} : ∀ {vs ds}, RepL W h vs ds → vs.length = ds.length
  | _, _, .nil => rfl
  | _, _, .cons _ r => by simp [RepL.length r]
theorem RepL.append {W : Addr → Prop} {h : Heap} : ∀ {vs ds us es}, RepL W h vs ds → RepL W h us es → RepL W h (vs ++ us) (ds ++ es)
  | _, _, _, _, .nil, q => q
  | _, _, _, _, .cons x r, q => .cons x (r.append q)
theorem RepL.get {W : Addr → Prop} {h : Heap} : ∀ {vs ds}, RepL W h vs ds → ∀ {i : Nat} {d}, ds[i]? = some d → ∃ v, vs[i]? = some v ∧ Rep W h v d
  | _, _, .nil, _, _, e => by simp at e
  | _, _, .cons x r, 0, _, e => by simp at e; subst e; exact ⟨_, rfl, x⟩
  | _, _, .cons x r, i + 1, _, e => by simpa using r.get (by simpa using e)
theorem RepL.get' {W : Addr → Prop} {h : Heap} : ∀ {vs ds}, RepL W h vs ds → ∀ {i : Nat} {v}, vs[i]? = some v → ∃ d, ds[i]? = some d ∧ Rep W h v d
  | _, _, .nil, _, _, e => by simp at e
  | _, _, .cons x r, 0, _, e => by simp at e; subst e; exact ⟨_, rfl, x⟩
  | _, _, .cons x r, i + 1, _, e => by simpa using r.get' (by simpa using e)
theorem RepL.take {W : Addr → Prop} {h : Heap} : ∀ {vs ds}, RepL W h vs ds → ∀ n, RepL W h (vs.take n) (ds.take n)
  | _, _, .nil, n => by simp; exact .nil
  | _, _, .cons x r, 0 => .nil
  | _, _, .cons x r, n + 1 => .cons x (r.take n)
theorem RepL.drop {W : Addr → Prop} {h : Heap} : ∀ {vs ds}, RepL W h vs ds → ∀ n, RepL W h (vs.drop n) (ds.drop n)
  | _, _, .nil, n => by simp; exact .nil
  | _, _, .cons x r, 0 => .cons x r
  | _, _, .cons x r, n + 1 => r.drop n
theorem RepL.snoc {W : Addr → Prop} {h : Heap} {vs ds v d} (r : RepL W h vs ds) (x : Rep W h v d) : RepL W h (vs ++ [v]) (ds ++ [d]) := r.append (.cons x .nil)

/-! ## what holds of the top, and stays -/
structure GH (K : Frag) (mg mb : Str → Option Value) (h : Heap) : Prop where
  k : K.In h
  g : h.Ns mainGlobals mg
  b : h.Ns builtinsNs mb
  lim : h.NoLimit
theorem GH.keeps {K : Frag} {mg mb : Str → Option Value} {h h' : Heap} (x : GH K mg mb h) (hk : ∀ b o, h.get? b = some o → h'.get? b = some o) : GH K mg mb h' :=
  ⟨x.k.keeps hk, x.g.keeps hk, x.b.keeps hk, x.lim.keeps hk⟩

def RoomA (n : Nat) (A : Around) : Prop := A.handled = none ∧ A.depth + n ≤ 900 ∧ A.units + 100 * n ≤ 9000
theorem RoomA.deeper {n : Nat} {A : Around} {env : Env} (r : RoomA (n + 1) A) : RoomA n (A.deeper env) :=
  ⟨r.1, by have := r.2.1; show A.depth + 1 + n ≤ 900; omega, by have := r.2.2; show A.units + 3 + 100 * n ≤ 9000; omega⟩

inductive Slot where
  /-- a value that stays as it is -/
  | sh (d : PyData)
  /-- a list that the frame still writes -/
  | ow (l : List PyData)
  /-- a list that the frame only reads -/
  | ro (l : List PyData)

abbrev Gam := List (Str × Slot)

inductive Bound (env : Env) (h : Heap) (x : Str) (v : Value) : Prop
  | loc {m : Str → Option Value} : env.kindOf x = some .local → h.Ns env.locals m → m x = some v → Bound env h x v
  | cell {c : Addr} : env.kindOf x = some .cell → env.cells.lookup x = some c → h.IsCell c (some v) → Bound env h x v
  | free {c : Addr} : env.kindOf x = some .free → env.cells.lookup x = some c → h.IsCell c (some v) → Bound env h x v
theorem Bound.keeps {env : Env} {h h' : Heap} {x : Str} {v : Value} (q : Bound env h x v) (hk : ∀ b o, h.get? b = some o → h'.get? b = some o) : Bound env h' x v := by
  cases q with
  | loc a b c => exact .loc a (b.keeps hk) c
  | cell a b c => exact .cell a b (c.keeps hk)
  | free a b c => exact .free a b (c.keeps hk)

structure Cx where
  prog : Program
  w : World
  K : Frag
  mg : Str → Option Value
  mb : Str → Option Value
  A : Around
  env : Env
  W : Addr → Prop
  γ : Gam

def SlotOk (C : Cx) (h : Heap) (x : Str) : Slot → Prop
  | .sh d => ∃ v, Bound C.env h x v ∧ Rep C.W h v d
  | .ow l => ∃ a vs, Bound C.env h x (.ref a) ∧ h.PlainList a (List.toArray vs) ∧ RepL C.W h vs l
  | .ro l => ∃ a vs, Bound C.env h x (.ref a) ∧ h.IsList a (List.toArray vs) ∧ RepL C.W h vs l ∧ ¬ C.W a
theorem SlotOk.keeps {C : Cx} {h h' : Heap} {x : Str} {sl : Slot} (q : SlotOk C h x sl) (hk : ∀ b o, h.get? b = some o → h'.get? b = some o) : SlotOk C h' x sl := by
  cases sl with
  | sh d => obtain ⟨v, a, b⟩ := q; exact ⟨v, a.keeps hk, b.keeps hk⟩
  | ow l => obtain ⟨a, vs, p, q, r⟩ := q; exact ⟨a, vs, p.keeps hk, q.at fun o e => hk _ o e, r.keeps hk⟩
  | ro l => obtain ⟨a, vs, p, q, r, w⟩ := q; exact ⟨a, vs, p.keeps hk, q.at fun o e => hk _ o e, r.keeps hk, w⟩

/-- cells of a frame lie apart, and apart from its locals -/
structure EnvWf (env : Env) : Prop where
  ne : ∀ x c, env.cells.lookup x = some c → c ≠ env.locals
  inj : ∀ x y c, env.cells.lookup x = some c → env.cells.lookup y = some c → x = y

structure Ok (C : Cx) (s : Shared) : Prop where
  wf : EnvWf C.env
  cex : ∀ x c, C.env.cells.lookup x = some c → ∃ o, s.heap.get? c = some o
  g : GH C.K C.mg C.mb s.heap
  wlt : ∀ a, C.W a → ∃ o, s.heap.get? a = some o
  kind : C.env.scope.kind = .function
  glob : C.env.globals = mainGlobals
  bui : C.env.builtins = builtinsNs
  tok : 1 ≤ s.toks
  var : ∀ x sl, C.γ.lookup x = some sl → SlotOk C s.heap x sl

theorem Ok.keepsS {C : Cx} {s s' : Shared} (x : Ok C s) (hk : Keeps s s') (ht : s.toks ≤ s'.toks) : Ok C s' := by
  obtain ⟨h', tk, rfl, hk⟩ := hk
  exact ⟨x.wf, fun y c e => let ⟨o, h⟩ := x.cex y c e; ⟨o, hk c o h⟩, x.g.keeps hk, fun a q => let ⟨o, e⟩ := x.wlt a q; ⟨o, hk a o e⟩, x.kind, x.glob, x.bui, Nat.le_trans x.tok ht, fun y sl e => (x.var y sl e).keeps hk⟩
theorem kp_refl (s : Shared) : Keeps s s := ⟨s.heap, s.toks, rfl, fun _ _ e => e⟩
theorem kp_tok (s : Shared) (t : Nat) : Keeps s { s with toks := t } := ⟨s.heap, t, rfl, fun _ _ e => e⟩
theorem kp_trans {s s' s'' : Shared} (a : Keeps s s') (b : Keeps s' s'') : Keeps s s'' := by
  obtain ⟨h, t, rfl, k⟩ := a
  obtain ⟨h', t', rfl, k'⟩ := b
  exact ⟨h', t', rfl, fun b o e => k' b o (k b o e)⟩
theorem kp_heap {s s' : Shared} (a : Keeps s s') : ∀ b o, s.heap.get? b = some o → s'.heap.get? b = some o := by
  obtain ⟨h, t, rfl, k⟩ := a; exact k
theorem kp_push (s : Shared) (o : Obj) : Keeps s { s with heap := s.heap.push o } := ⟨_, s.toks, rfl, fun _ _ e => Heap.get?_push_of_some _ e⟩
theorem fresh_none {h : Heap} {a : Addr} (ha : h.objs.size ≤ a) : h.get? a = none := by
  cases e : h.get? a with
  | none => rfl
  | some o => exact absurd (Heap.lt_size e) (Nat.not_lt.mpr ha)
theorem Ok.notW {C : Cx} {s : Shared} (x : Ok C s) {a : Addr} (ha : s.heap.get? a = none) : ¬ C.W a := fun q => by
  obtain ⟨o, e⟩ := x.wlt a q; rw [ha] at e; cases e

/-! ## the judgements -/
def Ev (C : Cx) (e : PySem.Expr) (d : PyData) : Prop :=
  ∀ s : Shared, Ok C s → wpAny (model C.prog C.w) C.A (eval e C.env) (fun v s' => Keeps s s' ∧ Rep C.W s'.heap v d) (fun _ _ => False) s
def Tr (C : Cx) (e : PySem.Expr) (b : Bool) : Prop :=
  ∀ s : Shared, Ok C s → wpAny (model C.prog C.w) C.A (isTrue e C.env (eval e C.env)) (fun v s' => Keeps s s' ∧ v = b) (fun _ _ => False) s
theorem wp_use {α : Type} {M : Model} {A : Around} {t : Sem α} {P Q : α → Shared → Prop} {E : Value → Shared → Prop} {s : Shared} (h : wpAny M A t P (fun _ _ => False) s) (hq : ∀ a s', P a s' → Q a s') : wpAny M A t Q E s :=
  wpAny_mono h hq fun _ _ x => x.elim
theorem wp_useT {α : Type} {M : Model} {A : Around} {t : Sem α} {P Q : α → Shared → Prop} {E : Value → Shared → Prop} {s : Shared} (h : wpAny M A t P (fun _ _ => False) s) (hq : ∀ a s', s.toks ≤ s'.toks → P a s' → Q a s') : wpAny M A t Q E s :=
  wpAny_mono (wpAny_toks h) (fun a s' q => hq a s' q.1 q.2) fun _ _ x => x.2.elim
theorem Ev.use {C : Cx} {e : PySem.Expr} {d : PyData} (h : Ev C e d) {s : Shared} (o : Ok C s) {Q : Value → Shared → Prop} {E : Value → Shared → Prop}
    (hq : ∀ v s', Keeps s s' → Ok C s' → Rep C.W s'.heap v d → Q v s') : wpAny (model C.prog C.w) C.A (eval e C.env) Q E s :=
  wpAny_mono (wpAny_toks (h s o)) (fun v s' q => hq v s' q.2.1 (o.keepsS q.2.1 q.1) q.2.2) fun _ _ x => x.2.elim
theorem Tr.use {C : Cx} {e : PySem.Expr} {b : Bool} (h : Tr C e b) {s : Shared} (o : Ok C s) {Q : Bool → Shared → Prop} {E : Value → Shared → Prop}
    (hq : ∀ s', Keeps s s' → Ok C s' → Q b s') : wpAny (model C.prog C.w) C.A (isTrue e C.env (eval e C.env)) Q E s :=
  wpAny_mono (wpAny_toks (h s o)) (fun v s' q => by obtain ⟨ht, k, rfl⟩ := q; exact hq s' k (o.keepsS k ht)) fun _ _ x => x.2.elim

end Mine
end

section
open PySem PySem.Calls PySem.W PyProof.Rows
set_option maxRecDepth 100000
set_option linter.unusedVariables false
namespace Mine

section
variable {C : Cx}

theorem Ev.to {e d d'} (h : Ev C e d) (q : d = d') : Ev C e d' := q ▸ h
theorem Tr.to {e b b'} (h : Tr C e b) (q : b = b') : Tr C e b' := q ▸ h
/-! ## constants, names -/
theorem Ev.int {i k pos} : Ev C (.Constant (.int i) k pos) (.int i) := fun s _ => wpAny_Constant_int ⟨kp_tok _ _, .int _ _⟩
theorem Ev.noneC {k pos} : Ev C (.Constant .none k pos) .none := fun s _ => Constant_none ⟨kp_refl _, .none⟩
theorem Ev.bool {c k pos} : Ev C (.Constant (.bool c) k pos) (.bool c) := fun s _ => Constant_bool ⟨kp_refl _, .bool _⟩
theorem Ev.str {x k pos} : Ev C (.Constant (.str x) k pos) (.str x) := fun s _ Γ p hΓ => ⟨kp_tok _ _, .str _ _⟩

theorem load_bound {M : Model} {A : Around} {E : Value → Shared → Prop} {s : Shared} {env : Env} {x : Str} {v : Value} {Q : Value → Shared → Prop} (hk : env.scope.kind = .function) (b : Bound env s.heap x v) (h : Q v s)
    (hn : (x == ("__classdict__" : Str)) = false) : wpAny M A (loadName env x) Q E s := by
  cases b with
  | loc a b c => exact wpAny_loadName_local hk a b c h
  | cell a b c => exact wpAny_loadName_cell hk a b c h
  | free a b c => exact wpAny_loadName_free hk a b c h hn

theorem Ev.name {x pos d} (hl : C.γ.lookup x = some (.sh d)) (hd : (x == ("__debug__" : Str)) = false := by decide) (hn : (x == ("__classdict__" : Str)) = false := by decide) : Ev C (.Name x pos) d := fun s o => by
  obtain ⟨v, b, r⟩ := o.var x _ hl
  exact wpAny_Name (load_bound o.kind b ⟨kp_refl _, r⟩ hn) hd

/-! ## operators -/
def Bin (C : Cx) (op : Operator) (d₁ d₂ d : PyData) : Prop :=
  ∀ (s : Shared) (v₁ v₂ : Value), Ok C s → Rep C.W s.heap v₁ d₁ → Rep C.W s.heap v₂ d₂ → wpAny (model C.prog C.w) C.A (binaryOp op v₁ v₂) (fun v s' => Keeps s s' ∧ Rep C.W s'.heap v d) (fun _ _ => False) s
theorem Ev.bin {l op r pos d₁ d₂ d} (hl : Ev C l d₁) (hr : Ev C r d₂) (hb : Bin C op d₁ d₂ d) : Ev C (.BinOp l op r pos) d := fun s o =>
  wpAny_BinOp (hl.use o fun v₁ s₁ k₁ o₁ r₁ => hr.use o₁ fun v₂ s₂ k₂ o₂ r₂ => wp_use (hb s₂ v₁ v₂ o₂ (r₁.keeps (kp_heap k₂)) r₂) fun v s' q => ⟨kp_trans k₁ (kp_trans k₂ q.1), q.2⟩)

def Cmp (C : Cx) (op : CmpOp) (d₁ d₂ : PyData) (b : Bool) : Prop :=
  ∀ (s : Shared) (v₁ v₂ : Value), Ok C s → Rep C.W s.heap v₁ d₁ → Rep C.W s.heap v₂ d₂ → wpAny (model C.prog C.w) C.A (compareOp op v₁ v₂) (fun v s' => Keeps s s' ∧ v = .bool b) (fun _ _ => False) s
theorem Ev.cmp {l op r pos d₁ d₂ b} (hl : Ev C l d₁) (hr : Ev C r d₂) (hb : Cmp C op d₁ d₂ b) (hm : behindInMarks op r = false := by with_unfolding_all rfl) : Ev C (.Compare l [op] [r] pos) (.bool b) := fun s o =>
  wpAny_Compare1 (hl.use o fun v₁ s₁ k₁ o₁ r₁ => hr.use o₁ fun v₂ s₂ k₂ o₂ r₂ => wp_use (hb s₂ v₁ v₂ o₂ (r₁.keeps (kp_heap k₂)) r₂) fun v s' q => ⟨kp_trans k₁ (kp_trans k₂ q.1), q.2 ▸ .bool b⟩) hm
theorem Tr.cmp {l op r pos d₁ d₂ b} (hl : Ev C l d₁) (hr : Ev C r d₂) (hb : Cmp C op d₁ d₂ b) (hm : behindInMarks op r = false := by with_unfolding_all rfl) : Tr C (.Compare l [op] [r] pos) b := fun s o =>
  wpAny_isTrue_Compare1 (hl.use o fun v₁ s₁ k₁ o₁ r₁ => hr.use o₁ fun v₂ s₂ k₂ o₂ r₂ => wp_use (hb s₂ v₁ v₂ o₂ (r₁.keeps (kp_heap k₂)) r₂) fun v s' q => by
    obtain ⟨k, rfl⟩ := q; exact wpAny_truthy_bool ⟨kp_trans k₁ (kp_trans k₂ k), rfl⟩) hm

theorem Bin.add_int {a b} : Bin C .Add (.int a) (.int b) (.int (a + b)) := by
  rintro s _ _ _ ⟨⟩ ⟨⟩; exact PyProof.Rows.add_int ⟨kp_tok _ _, .int _ _⟩
theorem Bin.sub_int {a b} : Bin C .Sub (.int a) (.int b) (.int (a - b)) := by
  rintro s _ _ _ ⟨⟩ ⟨⟩; exact PyProof.Rows.sub_int ⟨kp_tok _ _, .int _ _⟩
theorem Bin.mod_int {a b} (hb : b ≠ 0) : Bin C .Mod (.int a) (.int b) (.int (a.fmod b)) := by
  rintro s _ _ _ ⟨⟩ ⟨⟩; exact PyProof.Rows.mod_int hb ⟨kp_tok _ _, .int _ _⟩
theorem Bin.add_str {x y} (hsz : x.length + y.length ≤ sizeLine) : Bin C .Add (.str x) (.str y) (.str (x ++ y)) := by
  rintro s _ _ _ ⟨⟩ ⟨⟩; exact PyProof.Rows.add_str (fun t' tk => ⟨kp_tok _ _, .str _ _⟩) hsz

theorem Cmp.eq_int {a b} : Cmp C .Eq (.int a) (.int b) (a == b) := by
  rintro s _ _ _ ⟨⟩ ⟨⟩; exact PyProof.Rows.eq_int ⟨kp_refl _, rfl⟩
theorem Cmp.ne_int {a b} : Cmp C .NotEq (.int a) (.int b) (a != b) := by
  rintro s _ _ _ ⟨⟩ ⟨⟩; exact PyProof.Rows.ne_int ⟨kp_refl _, rfl⟩
theorem Cmp.lt_int {a b} : Cmp C .Lt (.int a) (.int b) (decide (a < b)) := by
  rintro s _ _ _ ⟨⟩ ⟨⟩; exact PyProof.Rows.lt_int ⟨kp_refl _, rfl⟩
theorem Cmp.gt_int {a b} : Cmp C .Gt (.int a) (.int b) (decide (b < a)) := by
  rintro s _ _ _ ⟨⟩ ⟨⟩; exact PyProof.Rows.gt_int ⟨kp_refl _, rfl⟩
theorem Cmp.eq_str {a b} : Cmp C .Eq (.str a) (.str b) (a == b) := by
  rintro s _ _ _ ⟨⟩ ⟨⟩; exact PyProof.Rows.eq_str ⟨kp_refl _, rfl⟩

/-! ## truth -/
def Tru : PyData → Option Bool
  | .none => some false
  | .bool b => some b
  | .int i => some (i != 0)
  | _ => Option.none
def TruV (C : Cx) (d : PyData) (b : Bool) : Prop :=
  ∀ (s : Shared) (v : Value), Ok C s → Rep C.W s.heap v d → wpAny (model C.prog C.w) C.A (truthy v) (fun c s' => Keeps s s' ∧ c = b) (fun _ _ => False) s
theorem TruV.bool {b} : TruV C (.bool b) b := by rintro s _ _ ⟨⟩; exact wpAny_truthy_bool ⟨kp_refl _, rfl⟩
theorem TruV.noneC : TruV C .none false := by rintro s _ _ ⟨⟩; exact truthy_none ⟨kp_refl _, rfl⟩
theorem Tr.plain {e d b} (h : Ev C e d) (ht : TruV C d b) (he : isTrue e C.env (eval e C.env) = (do let v ← eval e C.env; standAt e.pos; holding [v] (truthy v)) := by rfl) : Tr C e b := fun s o =>
  isTrue_plain (h.use o fun v s₁ k₁ o₁ r₁ => wp_use (ht s₁ v o₁ r₁) fun c s' q => ⟨kp_trans k₁ q.1, q.2⟩) he
theorem Tr.not {e pos b} (h : Tr C e b) : Tr C (.UnaryOp .Not e pos) (!b) := fun s o =>
  isTrue_not (wp_use (h s o) fun c s' q => ⟨q.1, by rw [q.2]⟩)
theorem Tr.and_nil {pos whole} {s : Shared} : wpAny (model C.prog C.w) C.A (isTrue (.BoolOp .And [] pos) C.env whole) (fun v s' => Keeps s s' ∧ v = true) (fun _ _ => False) s := isTrue_and_nil ⟨kp_refl _, rfl⟩
theorem Tr.and2 {e₁ e₂ pos b₁ b₂} (h₁ : Tr C e₁ b₁) (h₂ : b₁ = true → Tr C e₂ b₂) : Tr C (.BoolOp .And [e₁, e₂] pos) (b₁ && b₂) := fun s o => by
  refine isTrue_and (h₁.use o fun s₁ k₁ o₁ => ?_)
  cases b₁ with
  | false => exact ⟨k₁, rfl⟩
  | true =>
    refine isTrue_and ((h₂ rfl).use o₁ fun s₂ k₂ o₂ => ?_)
    cases b₂ with
    | false => exact ⟨kp_trans k₁ k₂, rfl⟩
    | true => exact isTrue_and_nil ⟨kp_trans k₁ k₂, rfl⟩
theorem Tr.or2 {e₁ e₂ pos b₁ b₂} (h₁ : Tr C e₁ b₁) (h₂ : b₁ = false → Tr C e₂ b₂) : Tr C (.BoolOp .Or [e₁, e₂] pos) (b₁ || b₂) := fun s o => by
  refine isTrue_or (h₁.use o fun s₁ k₁ o₁ => ?_)
  cases b₁ with
  | true => exact ⟨k₁, rfl⟩
  | false =>
    refine isTrue_or ((h₂ rfl).use o₁ fun s₂ k₂ o₂ => ?_)
    cases b₂ with
    | true => exact ⟨kp_trans k₁ k₂, rfl⟩
    | false => exact isTrue_or_nil ⟨kp_trans k₁ k₂, rfl⟩
theorem Ev.ifexp {t a b pos c d} (ht : Tr C t c) (ha : c = true → Ev C a d) (hb : c = false → Ev C b d) : Ev C (.IfExp t a b pos) d := fun s o => by
  refine IfExp_ (ht.use o fun s₁ k₁ o₁ => ?_)
  cases c with
  | true => rw [if_pos rfl]; exact (ha rfl).use o₁ fun v s₂ k₂ _ r => ⟨kp_trans k₁ k₂, r⟩
  | false => rw [if_neg Bool.false_ne_true]; exact (hb rfl).use o₁ fun v s₂ k₂ _ r => ⟨kp_trans k₁ k₂, r⟩
/-- or of two bools, as a value -/
theorem Ev.or2 {e₁ e₂ pos b₁ b₂} (h₁ : Ev C e₁ (.bool b₁)) (h₂ : b₁ = false → Ev C e₂ (.bool b₂)) : Ev C (.BoolOp .Or [e₁, e₂] pos) (.bool (b₁ || b₂)) := fun s o => by
  refine BoolOp_or (h₁.use o fun v s₁ k₁ o₁ r₁ => ?_)
  cases r₁
  refine wpAny_truthy_bool ?_
  cases b₁ with
  | true => exact ⟨k₁, .bool _⟩
  | false => exact BoolOp_one ((h₂ rfl).use o₁ fun v s₂ k₂ _ r => ⟨kp_trans k₁ k₂, r⟩)

/-! ## lists of expressions, displays -/
def EvL (C : Cx) (es : List PySem.Expr) (ds : List PyData) : Prop :=
  ∀ (s : Shared) (pos : Pos), Ok C s → wpAny (model C.prog C.w) C.A (spliced (backTo pos (starEach es C.env))) (fun vs s' => Keeps s s' ∧ RepL C.W s'.heap vs ds) (fun _ _ => False) s
theorem EvL.nil : EvL C [] [] := fun s pos _ => args_nil ⟨kp_refl _, .nil⟩
theorem EvL.cons {e rest d ds} (h : Ev C e d) (hr : EvL C rest ds) (he : starEach (e :: rest) C.env = (false, eval e C.env) :: starEach rest C.env := by rfl) : EvL C (e :: rest) (d :: ds) := fun s pos o =>
  args_cons (h.use o fun v s₁ k₁ o₁ r₁ => wp_use (hr s₁ pos o₁) fun vs s₂ q => ⟨kp_trans k₁ q.1, .cons (r₁.keeps (kp_heap q.1)) q.2⟩) he

theorem new_list {s : Shared} {vs ds} (o : Ok C s) (r : RepL C.W s.heap vs ds) : Rep C.W (s.heap.push { cls := .type "list", data := .seq (List.toArray vs) }) (.ref s.heap.objs.size) (.list ds) :=
  .list ⟨_, Heap.get?_push_size _ rfl⟩ (o.notW (fresh_none (Nat.le_refl _))) (r.keeps fun _ _ e => Heap.get?_push_of_some _ e)
theorem new_tuple {s : Shared} {vs ds} (o : Ok C s) (r : RepL C.W s.heap vs ds) : Rep C.W (s.heap.push { cls := .type "tuple", data := .seq (List.toArray vs) }) (.ref s.heap.objs.size) (.tuple ds) :=
  .tuple ⟨_, Heap.get?_push_size _ rfl, rfl, _, rfl⟩ (o.notW (fresh_none (Nat.le_refl _))) (r.keeps fun _ _ e => Heap.get?_push_of_some _ e)
theorem Ev.listd {es pos ds} (h : EvL C es ds) (hsz : ds.length ≤ sizeLine) : Ev C (.List es pos) (.list ds) := fun s o =>
  List_ (wp_useT (h s pos o) fun vs s₁ ht q => wpAny_newList ⟨kp_trans q.1 (kp_push _ _), new_list (o.keepsS q.1 ht) q.2⟩ (by rw [q.2.length]; exact hsz))
theorem Ev.tupled {es k pos ds} (h : EvL C es ds) (hsz : ds.length ≤ sizeLine) : Ev C (.Tuple es k pos) (.tuple ds) := fun s o =>
  Tuple_ (wp_useT (h s pos o) fun vs s₁ ht q => wpAny_newTuple ⟨kp_trans q.1 (kp_push _ _), new_tuple (o.keepsS q.1 ht) q.2⟩ (by rw [q.2.length]; exact hsz))

end
end Mine
end

section
open PySem PySem.Calls PySem.W PyProof.Rows
set_option maxRecDepth 100000
set_option linter.unusedVariables false
namespace Mine

section
variable {C : Cx}

theorem Cmp.ge_int {a b} : Cmp C .GtE (.int a) (.int b) (decide (b ≤ a)) := by
  rintro s _ _ _ ⟨⟩ ⟨⟩; exact PyProof.Rows.ge_int ⟨kp_refl _, rfl⟩
theorem Cmp.is_none_none : Cmp C .Is .none .none true := by
  rintro s _ _ _ ⟨⟩ ⟨⟩; exact PyProof.Rows.is_none_none ⟨kp_refl _, rfl⟩
theorem Cmp.is_str_none {x} : Cmp C .Is (.str x) .none false := by
  rintro s _ _ _ ⟨⟩ ⟨⟩; exact PyProof.Rows.is_str_none ⟨kp_refl _, rfl⟩
theorem Bin.fdiv_int {a b} (hb : b ≠ 0) (hp : Builtin.divisionGoesByPylong a b = false) : Bin C .FloorDiv (.int a) (.int b) (.int (a.fdiv b)) := by
  rintro s _ _ _ ⟨⟩ ⟨⟩; exact PyProof.Rows.floordiv_int hb ⟨kp_tok _ _, .int _ _⟩ (.inl hp)
theorem Bin.mul_str {x n} (hok : MulOk x n) : Bin C .Mult (.str x) (.int n) (.str (Txt.mul x n)) := by
  rintro s _ _ _ ⟨⟩ ⟨⟩; exact SB.mul hok fun t' k => ⟨kp_tok _ _, .str _ _⟩
theorem Ev.neg {x pos a} (h : Ev C x (.int a)) : Ev C (.UnaryOp .USub x pos) (.int (-a)) := fun s o =>
  UnaryOp_ (h.use o fun v s₁ k₁ o₁ r₁ => by cases r₁; exact neg_int ⟨kp_trans k₁ (kp_tok _ _), .int _ _⟩)
theorem TruV.int {i} : TruV C (.int i) (i != 0) := by
  rintro s _ _ ⟨⟩
  exact PyProof.Rows.truthy_int ⟨kp_refl _, rfl⟩

/-! ## subscripts -/
structure ItemAt (C : Cx) (s : Shared) (v vi : Value) (r : PyData) : Prop where
  ty : ∃ T id, s.TypeIs v T ∧ typeLookup (.type T) "__getitem__" = pure (some (.builtin id))
  get : wpAny (model C.prog C.w) C.A (getItem v vi) (fun x s' => Keeps s s' ∧ Rep C.W s'.heap x r) (fun _ _ => False) s
def Item (C : Cx) (d i r : PyData) : Prop :=
  ∀ (s : Shared) (v vi : Value), Ok C s → Rep C.W s.heap v d → Rep C.W s.heap vi i → ItemAt C s v vi r
theorem Ev.sub {value slice pos d i r} (hv : Ev C value d) (hi : Ev C slice i) (hg : Item C d i r)
    (hs : ∀ o i, subscripted slice false o i = operate [o, i] (getItem o i) := by intro _ _; with_unfolding_all rfl) : Ev C (.Subscript value slice pos) r := fun s o =>
  Subscript_ (hv.use o fun v s₁ k₁ o₁ r₁ => hi.use o₁ fun vi s₂ k₂ o₂ r₂ => by
    obtain ⟨⟨T, id, hT, hl⟩, hw⟩ := hg s₂ v vi o₂ (r₁.keeps (kp_heap k₂)) r₂
    exact tail_any hT hl (wp_use hw fun x s' q => ⟨kp_trans k₁ (kp_trans k₂ q.1), q.2⟩) (hs v vi))
/-- an item of a list that the frame still writes -/
theorem Ev.sub_ow {x px slice pos l k d} (hv : C.γ.lookup x = some (.ow l)) (hi : Ev C slice (.int k)) (h0 : 0 ≤ k) (hlt : k < 2 ^ 63) (hd : l[k.toNat]? = some d)
    (hs : ∀ o i, subscripted slice false o i = operate [o, i] (getItem o i) := by intro _ _; with_unfolding_all rfl)
    (hdb : (x == ("__debug__" : Str)) = false := by decide) (hn : (x == ("__classdict__" : Str)) = false := by decide) : Ev C (.Subscript (.Name x px) slice pos) d := fun s o => by
  obtain ⟨a, vs, b, hl, hr⟩ := o.var x _ hv
  replace hl := hl.isList
  refine Subscript_ (wpAny_Name (load_bound o.kind b ?_ hn) hdb)
  refine hi.use o fun vi s₂ k₂ o₂ r₂ => ?_
  cases r₂
  have hl₂ := hl.at fun o e => kp_heap k₂ _ o e
  obtain ⟨v, hv, rv⟩ := (hr.keeps (kp_heap k₂)).get hd
  exact tail_any hl₂.typeIs slot_list_getitem.lookup (wpAny_getItem_list hl₂ h0 hlt (by simpa using hv) ⟨k₂, rv⟩) (hs _ _)

theorem Item.list {ds k d} (h0 : 0 ≤ k) (hlt : k < 2 ^ 63) (hd : ds[k.toNat]? = some d) : Item C (.list ds) (.int k) d := by
  rintro s _ _ o ⟨⟩ ⟨⟩
  rename_i a vs hl hw hr t
  replace hl := hl.isList
  obtain ⟨v, hv, rv⟩ := hr.get hd
  exact ⟨⟨_, _, hl.typeIs, slot_list_getitem.lookup⟩, wpAny_getItem_list hl h0 hlt (by simpa using hv) ⟨kp_refl _, rv⟩⟩
theorem Item.list_last {ds d} (hd : ds.getLast? = some d) : Item C (.list ds) (.int (-1)) d := by
  rintro s _ _ o ⟨⟩ ⟨⟩
  rename_i a vs hl hw hr t
  replace hl := hl.isList
  have hlen := hr.length
  have hn : 0 < ds.length := by cases ds with | nil => simp at hd | cons _ _ => simp
  rw [List.getLast?_eq_getElem?] at hd
  obtain ⟨v, hv, rv⟩ := hr.get hd
  refine ⟨⟨_, _, hl.typeIs, slot_list_getitem.lookup⟩, wpAny_getItem_list_neg hl (by decide) (by simp; omega) (by decide) ?_ ⟨kp_refl _, rv⟩⟩
  have e : (-1 + ((List.toArray vs).size : Int)).toNat = ds.length - 1 := by simp; omega
  rw [e]; simpa using hv
theorem Item.tuple {ds k d} (h0 : 0 ≤ k) (hlt : k < 2 ^ 63) (hd : ds[k.toNat]? = some d) : Item C (.tuple ds) (.int k) d := by
  rintro s _ _ o ⟨⟩ ⟨⟩
  rename_i a vs hl hw hr t
  obtain ⟨v, hv, rv⟩ := hr.get hd
  have hlt' : k.toNat < vs.length := by
    obtain ⟨h, _⟩ := List.getElem?_eq_some_iff.mp hv; exact h
  refine ⟨⟨_, _, hl.typeIs, slot_tuple_getitem.lookup⟩, getItem_tuple hl (by omega) hlt (j := k.toNat) ?_ (by simpa using hv) ⟨kp_refl _, rv⟩⟩
  unfold seqIndex?
  have e1 : ¬ k < 0 := by omega
  simp only [e1, if_false, List.size_toArray]
  rw [if_pos (by simp only [Bool.and_eq_true, decide_eq_true_eq]; omega)]
theorem Item.str {x : Str} {k : Int} {c : Nat} (h0 : 0 ≤ k) (hlt : k < 2 ^ 63) (hd : x.cps[k.toNat]? = some c) : Item C (.str x) (.int k) (.str ⟨#[c]⟩) := by
  rintro s _ _ o ⟨⟩ ⟨⟩
  refine ⟨⟨_, _, typeIs_str _ _ _, slot_str_getitem.lookup⟩, getItem_str (by simp only [Bool.or_eq_false_iff, decide_eq_false_iff_not]; omega) (c := c) ?_ ⟨kp_tok _ _, .str _ _⟩⟩
  have hl : k.toNat < x.length := by
    obtain ⟨h, _⟩ := Array.getElem?_eq_some_iff.mp hd; exact h
  unfold seqIndex?
  have e1 : ¬ k < 0 := by omega
  simp only [e1, if_false]
  rw [if_pos (by simp only [Bool.and_eq_true, decide_eq_true_eq]; omega)]
  exact hd

/-! ## slices -/
def sliceL {α : Type} (ds : List α) (lo hi : Option Int) : List α :=
  (ds.drop (lo.elim 0 (clipAt ds.length))).take (hi.elim ds.length (clipAt ds.length) - lo.elim 0 (clipAt ds.length))
inductive EvO (C : Cx) : Option PySem.Expr → Option Int → Prop
  | none : EvO C none none
  | some {e i} : Ev C e (.int i) → EvO C (some e) (some i)
theorem EvO.use {e i} (h : EvO C e i) {s : Shared} (o : Ok C s) {Q : Value → Shared → Prop} {E : Value → Shared → Prop}
    (hq : ∀ v s', Keeps s s' → Ok C s' → IsPart v i → Q v s') : wpAny (model C.prog C.w) C.A (evalPart e C.env) Q E s := by
  cases h with
  | none => rw [evalPart_none]; exact wpAny_pure (hq _ s (kp_refl _) o .none)
  | some h =>
    rename_i e i
    show wpAny _ _ (eval e C.env) _ _ _
    exact h.use o fun v s' k o' r => by cases r; exact hq _ s' k o' (.int _ _)
theorem RepL.sliceP {W : Addr → Prop} {h : Heap} {vs ds} (r : RepL W h vs ds) (lo hi : Option Int) : RepL W h (slicePick (List.toArray vs) lo hi none).toList (sliceL ds lo hi) := by
  rw [slicePick_plain]
  simp only [sliceL, List.size_toArray, r.length]
  exact (r.drop _).take _
theorem Ev.slice_list {value lower upper p pos ds lo hi} (hv : Ev C value (.list ds)) (hl : EvO C lower lo) (hu : EvO C upper hi) (hsz : ds.length ≤ sizeLine) : Ev C (.Subscript value (.Slice lower upper none p) pos) (.list (sliceL ds lo hi)) := fun s o =>
  Subscript_ (hv.use o fun v s₁ k₁ o₁ r₁ => wpAny_Slice (hl.use o₁ fun vl s₂ k₂ o₂ pl => hu.use o₂ fun vu s₃ k₃ o₃ pu => by
    rw [evalPart_none]
    refine wpAny_pure ?_
    have r₃ := r₁.keeps (kp_heap (kp_trans k₂ k₃))
    cases r₃
    rename_i a vs hL hw hr
    replace hL := hL.isList
    have hL' : (s₃.heap.push { cls := .type "slice", data := .fields #[vl, vu, .none] }).IsList a (List.toArray vs) := hL.push _
    refine tail_any (s := { s₃ with heap := s₃.heap.push { cls := .type "slice", data := .fields #[vl, vu, .none] } }) (Heap.IsList.typeIs (s := { s₃ with heap := s₃.heap.push { cls := .type "slice", data := .fields #[vl, vu, .none] } }) hL') slot_list_getitem.lookup
      (wpAny_getItem_list_slice hL' (Heap.IsSliceOf.new ..) pl pu .none (by simp) ?_ (by have := hr.length; simp; omega)) (ops := [.ref s₃.heap.objs.size, .ref a]) (by with_unfolding_all rfl)
    have o₄ : Ok C { s₃ with heap := s₃.heap.push { cls := .type "slice", data := .fields #[vl, vu, .none] } } := o₃.keepsS (kp_push _ _) (Nat.le_refl _)
    refine ⟨kp_trans k₁ (kp_trans k₂ (kp_trans k₃ (kp_trans (kp_push _ _) (kp_push _ _)))), ?_⟩
    have := new_list o₄ (RepL.sliceP (hr.keeps fun _ _ e => Heap.get?_push_of_some _ e) lo hi)
    simpa using this))
theorem Ev.slice_str {value lower upper p pos x lo hi} (hv : Ev C value (.str x)) (hl : EvO C lower lo) (hu : EvO C upper hi) (hsz : x.length ≤ sizeLine) : Ev C (.Subscript value (.Slice lower upper none p) pos) (.str (Txt.slice x lo hi)) := fun s o =>
  Subscript_ (hv.use o fun v s₁ k₁ o₁ r₁ => wpAny_Slice (hl.use o₁ fun vl s₂ k₂ o₂ pl => hu.use o₂ fun vu s₃ k₃ o₃ pu => by
    rw [evalPart_none]
    refine wpAny_pure ?_
    cases r₁
    rename_i t
    obtain ⟨lp, rfl, rfl⟩ : ∃ lp : Option (Int × Tok), vl = partValue lp ∧ lo = lp.map (·.1) := by
      cases pl with
      | none => exact ⟨none, rfl, rfl⟩
      | int i t => exact ⟨some (i, t), rfl, rfl⟩
    obtain ⟨up, rfl, rfl⟩ : ∃ up : Option (Int × Tok), vu = partValue up ∧ hi = up.map (·.1) := by
      cases pu with
      | none => exact ⟨none, rfl, rfl⟩
      | int i t => exact ⟨some (i, t), rfl, rfl⟩
    refine tail_any (s := { s₃ with heap := s₃.heap.push { cls := .type "slice", data := .fields #[partValue lp, partValue up, .none] } }) (typeIs_str _ _ _) slot_str_getitem.lookup
      (wpAny_getItem_str_slice (l := lp) (u := up) (st := none) ⟨_, Heap.get?_push_size _ rfl, rfl, rfl⟩ rfl ?_) (ops := [.ref s₃.heap.objs.size, .str x t]) (by with_unfolding_all rfl)
    have key : ∀ (t' k : Nat), Keeps s { s₃ with heap := s₃.heap.push { cls := .type "slice", data := .fields #[partValue lp, partValue up, .none] }, toks := k } :=
      fun t' k => kp_trans k₁ (kp_trans k₂ (kp_trans k₃ (kp_trans (kp_push _ _) (kp_tok _ _))))
    exact post_val_or_str ⟨Nat.le_trans (Txt.slice_le x _ _) hsz, fun t' k => ⟨key t' k, .str _ _⟩⟩))

end
end Mine
end

section
open PySem PySem.Calls PySem.W PyProof.Rows
set_option maxRecDepth 100000
set_option linter.unusedVariables false
namespace Mine

section
variable {C : Cx}

/-! ## names of the top -/
def GV (C : Cx) (x : Str) (v : Value) : Prop := C.mg x = some v ∨ (C.mg x = none ∧ C.mb x = some v)
theorem load_glob {s : Shared} {x : Str} {pos : Pos} {v : Value} {Q : Value → Shared → Prop} {E : Value → Shared → Prop} (o : Ok C s) (hx : C.env.kindOf x = some .globalImplicit) (g : GV C x v) (h : Q v s)
    (hd : (x == ("__debug__" : Str)) = false := by decide) : wpAny (model C.prog C.w) C.A (eval (.Name x pos) C.env) Q E s := by
  refine Name_function_global o.kind hx ?_ hd
  rcases g with g | ⟨g1, g2⟩
  · exact loadGlobal_global (o.glob ▸ o.g.g) g h
  · exact loadGlobal_builtin (o.glob ▸ o.g.g) g1 (o.bui ▸ o.g.b) g2 h
/-- a global that holds a plain str -/
theorem Ev.gstr {x pos y t} (hx : C.env.kindOf x = some .globalImplicit) (g : GV C x (.str y t)) (hd : (x == ("__debug__" : Str)) = false := by decide) : Ev C (.Name x pos) (.str y) := fun s o =>
  load_glob o hx g ⟨kp_refl _, .str _ _⟩ hd

/-! ## built-in functions -/
def Bi (C : Cx) (f : Value) (ds : List PyData) (d : PyData) : Prop :=
  ∀ (s : Shared) (vs : List Value), Ok C s → RepL C.W s.heap vs ds → wpAny (model C.prog C.w) C.A (call f vs) (fun v s' => Keeps s s' ∧ Rep C.W s'.heap v d) (fun _ _ => False) s
theorem Ev.callB {x p id e rest pos ds d} (hx : C.env.kindOf x = some .globalImplicit) (g : GV C x (.builtin id)) (ha : EvL C (e :: rest) ds) (hb : Bi C (.builtin id) ds d)
    (hd : (x == ("__debug__" : Str)) = false := by decide)
    (he : starEach (e :: rest) C.env = (false, eval e C.env) :: starEach rest C.env := by rfl) (hplain : (backTo pos (starEach rest C.env)).any (·.1) = false := by rfl)
    (hc : eval (.Call (.Name x p) (e :: rest) [] pos) C.env = (do callWith pos (← eval (.Name x p) C.env) [] (backTo pos (starEach (e :: rest) C.env)) (backToKw pos (keywordEach [] C.env))) := by rfl) : Ev C (.Call (.Name x p) (e :: rest) [] pos) d := fun s o =>
  Call_ (load_glob o hx g (callWith_builtin1 (wp_useT (ha s pos o) fun vs s₁ ht q => wp_use (hb s₁ vs (o.keepsS q.1 ht) q.2) fun v s₂ r => ⟨kp_trans q.1 r.1, r.2⟩) he hplain) hd) hc

/-! ## own functions -/
def FnOk (prog : Program) (w : World) (K : Frag) (mg mb : Str → Option Value) (n : Nat) (f : Addr) (ds : List PyData) (d : PyData) : Prop :=
  ∀ (A : Around) (s : Shared) (W : Addr → Prop) (vs : List Value), RoomA n A → GH K mg mb s.heap → 1 ≤ s.toks → (∀ a, W a → ∃ o, s.heap.get? a = some o) → RepL W s.heap vs ds →
    wpAny (model prog w) A (call (.ref f) vs) (fun v s' => Keeps s s' ∧ Rep W s'.heap v d) (fun _ _ => False) s
theorem Ev.callF {x p f e rest pos ds d n} {cls od osl fd} (hx : C.env.kindOf x = some .globalImplicit) (g : C.mg x = some (.ref f)) (hk : C.K.lookup f = some ⟨cls, od, .func fd, osl⟩) (ha : EvL C (e :: rest) ds)
    (hf : FnOk C.prog C.w C.K C.mg C.mb n f ds d) (hr : RoomA n C.A) (hd : (x == ("__debug__" : Str)) = false := by decide)
    (he : starEach (e :: rest) C.env = (false, eval e C.env) :: starEach rest C.env := by rfl)
    (hc : eval (.Call (.Name x p) (e :: rest) [] pos) C.env = (do callWith pos (← eval (.Name x p) C.env) [] (backTo pos (starEach (e :: rest) C.env)) (backToKw pos (keywordEach [] C.env))) := by rfl) : Ev C (.Call (.Name x p) (e :: rest) [] pos) d := fun s o =>
  Call_ (load_glob o hx (.inl g) (callWith_def (o := ⟨cls, od, .func fd, osl⟩) (fd := fd) rfl (wp_useT (ha s pos o) fun vs s₁ ht q => by
    have o₁ := o.keepsS q.1 ht
    exact ⟨o₁.g.k _ _ hk, wp_use (hf C.A s₁ C.W vs hr o₁.g o₁.tok o₁.wlt q.2) fun v s₂ r => ⟨kp_trans q.1 r.1, r.2⟩⟩) he) hd) hc

/-! ## methods -/
def GMeth (C : Cx) (d : PyData) (name : Str) (id : String) : Prop :=
  ∀ (s : Shared) (v : Value) (pl : Sem Bool) (Q : Value × List Value → Shared → Prop) (E : Value → Shared → Prop), Ok C s → Rep C.W s.heap v d → Q (.builtin id, [v]) s → wpAny (model C.prog C.w) C.A (getMethod v name pl) Q E s
theorem Ev.meth {o name apos e rest pos pl d₀ id ds d} (ho : Ev C o d₀) (hm : GMeth C d₀ name id) (ha : EvL C (e :: rest) ds) (hb : Bi C (.builtin id) (d₀ :: ds) d)
    (hs : starEach (e :: rest) C.env = (false, eval e C.env) :: starEach rest C.env := by rfl) (hplain : (backTo pos (starEach rest C.env)).any (·.1) = false := by rfl)
    (he : eval (.Call (.Attribute o name apos) (e :: rest) [] pos) C.env = (do
      let ov ← eval o C.env
      standAt apos.atName
      let (f, first) ← holding [ov] (getMethod ov name pl)
      callWith pos f first (backTo pos (starEach (e :: rest) C.env)) []) := by rfl) : Ev C (.Call (.Attribute o name apos) (e :: rest) [] pos) d := fun s ok =>
  MethodCall_ (ho.use ok fun v s₁ k₁ o₁ r₁ => hm s₁ v pl _ _ o₁ r₁ (callWith_method1 (wp_useT (ha s₁ pos o₁) fun vs s₂ ht q =>
    wp_use (hb s₂ (v :: vs) (o₁.keepsS q.1 ht) (.cons (r₁.keeps (kp_heap q.1)) q.2)) fun x s₃ r => ⟨kp_trans k₁ (kp_trans q.1 r.1), r.2⟩) hs hplain)) he

theorem GMeth.str {x : Str} {name : Str} {id : String} (slot : PySem.Slot "str" name id) (ty : typeOf (.builtin id) = pure (.type "method_descriptor")) : GMeth C (.str x) name id := by
  rintro s _ pl Q E o ⟨⟩ h
  exact GM.of _ (typeIs_str _ _ _) slot ty GM.noRef h
theorem GMeth.list {xs : List PyData} {name : Str} {id : String} (slot : PySem.Slot "list" name id) (ty : typeOf (.builtin id) = pure (.type "method_descriptor")) : GMeth C (.list xs) name id := by
  rintro s _ pl Q E o ⟨⟩ h
  rename_i a vs hl hw hr
  obtain ⟨n, e⟩ := hl
  exact getMethod_builtin ⟨_, e, rfl⟩ PySem.F.plainAttrs_list slot ty (fun a e' => by cases e'; exact ⟨_, e, rfl⟩) h

/-! ### of str -/
open Builtin Builtin.Str in
def findIn (x y : Str) (i j : Int) : Int := match occurrences x y (fromIndex x.length i) (min (fromIndex x.length j) x.length) 1 with | k :: _ => (k : Int) | [] => -1
open Builtin Builtin.Str in
def rfindIn (x y : Str) (i j : Int) : Int := match lastOccurrence x y (fromIndex x.length i) (min (fromIndex x.length j) x.length) with | some k => (k : Int) | none => -1

theorem Bi.find {x y : Str} : Bi C (.builtin "str.find") [.str x, .str y] (.int (Txt.find x y)) := by
  rintro s _ o (_ | ⟨⟨⟩, _ | ⟨⟨⟩, ⟨⟩⟩⟩); exact SC.find ⟨kp_tok _ _, .int _ _⟩
open Builtin Builtin.Str in
theorem gives_find4 (x y : Str) (i j : Int) (t u v v' : Tok) : Gives («str.find» ⟨[.str x t, .str y u, .int i v, .int j v'], []⟩) (.int (findIn x y i j)) := by
  show Gives (match occurrences x y (fromIndex x.length i) (min (fromIndex x.length j) x.length) 1 with | k :: _ => retInt k | [] => (do rule "str.find.not-found"; retInt (-1))) _
  unfold findIn
  cases occurrences x y (fromIndex x.length i) (min (fromIndex x.length j) x.length) 1 with
  | nil => exact .rule (.of_eq rfl)
  | cons k _ => exact .of_eq rfl
open Builtin Builtin.Str in
theorem gives_rfind4 (x y : Str) (i j : Int) (t u v v' : Tok) : Gives («str.rfind» ⟨[.str x t, .str y u, .int i v, .int j v'], []⟩) (.int (rfindIn x y i j)) := by
  show Gives (match lastOccurrence x y (fromIndex x.length i) (min (fromIndex x.length j) x.length) with | some k => retInt k | none => (do rule "str.rfind.not-found"; retInt (-1))) _
  unfold rfindIn
  cases lastOccurrence x y (fromIndex x.length i) (min (fromIndex x.length j) x.length) with
  | none => exact .rule (.of_eq rfl)
  | some k => exact .of_eq rfl
theorem Bi.find4 {x y : Str} {i j : Int} : Bi C (.builtin "str.find") [.str x, .str y, .int i, .int j] (.int (findIn x y i j)) := by
  rintro s _ o (_ | ⟨⟨⟩, _ | ⟨⟨⟩, _ | ⟨⟨⟩, _ | ⟨⟨⟩, ⟨⟩⟩⟩⟩⟩)
  exact call_gives F.slot_str_find (typeIs_str _ _ _) F.entry_str_find (F.args_str_find_4 _ _ _ _) (gives_find4 x y i j _ _ _ _) ⟨kp_tok _ _, .int _ _⟩
theorem Bi.rfind4 {x y : Str} {i j : Int} : Bi C (.builtin "str.rfind") [.str x, .str y, .int i, .int j] (.int (rfindIn x y i j)) := by
  rintro s _ o (_ | ⟨⟨⟩, _ | ⟨⟨⟩, _ | ⟨⟨⟩, _ | ⟨⟨⟩, ⟨⟩⟩⟩⟩⟩)
  exact call_gives F.slot_str_rfind (typeIs_str _ _ _) F.entry_str_rfind (F.args_str_rfind_4 _ _ _ _) (gives_rfind4 x y i j _ _ _ _) ⟨kp_tok _ _, .int _ _⟩
theorem Bi.startswith {x y : Str} : Bi C (.builtin "str.startswith") [.str x, .str y] (.bool (Txt.startswith x y)) := by
  rintro s _ o (_ | ⟨⟨⟩, _ | ⟨⟨⟩, ⟨⟩⟩⟩); exact SC.startswith ⟨kp_refl _, .bool _⟩
theorem Bi.lstrip {x y : Str} (hsz : x.length ≤ sizeLine) : Bi C (.builtin "str.lstrip") [.str x, .str y] (.str (Txt.lstripChars x y)) := by
  rintro s _ o (_ | ⟨⟨⟩, _ | ⟨⟨⟩, ⟨⟩⟩⟩); exact SC.lstripChars (fun t' k => ⟨kp_tok _ _, .str _ _⟩) hsz
/-- text.replace with two written signs -/
theorem Ev.replaceC {o apos y z ky py kz pz pos pl x} (ho : Ev C o (.str x)) (hyz : (y == z) = false) (hb : x.length + (x.length + 1) * z.length ≤ 16777216)
    (he : eval (.Call (.Attribute o "replace" apos) [.Constant (.str y) ky py, .Constant (.str z) kz pz] [] pos) C.env = (do
      let ov ← eval o C.env
      standAt apos.atName
      let (f, first) ← holding [ov] (getMethod ov "replace" pl)
      callWith pos f first (backTo pos (starEach [.Constant (.str y) ky py, .Constant (.str z) kz pz] C.env)) []) := by rfl) : Ev C (.Call (.Attribute o "replace" apos) [.Constant (.str y) ky py, .Constant (.str z) kz pz] [] pos) (.str (Txt.replace x y z)) := fun s ok =>
  MethodCall_ (ho.use ok fun v s₁ k₁ o₁ r₁ => by
    cases r₁
    refine GM.replace (callWith_method1 (args_cons (Constant_str (args_cons (Constant_str (args_nil ?_))))))
    have h1 := o₁.tok
    exact SC.replace (by show s₁.toks ≠ 0; omega) (by show s₁.toks + 1 ≠ 0; omega) (by show s₁.toks ≠ s₁.toks + 1; omega) hyz hb fun t' k => ⟨kp_trans k₁ (kp_tok _ _), .str _ _⟩) he

/-! ### len -/
theorem Bi.len_str {x : Str} (h : (x.length : Int) < 2 ^ 63) : Bi C (.builtin "len") [.str x] (.int x.length) := by
  rintro s _ o (_ | ⟨⟨⟩, ⟨⟩⟩); exact PyProof.Rows.len_str (by omega) ⟨kp_tok _ _, .int _ _⟩
theorem Bi.len_list {xs : List PyData} (h : (xs.length : Int) < 2 ^ 63) : Bi C (.builtin "len") [.list xs] (.int xs.length) := by
  rintro s _ o (_ | ⟨⟨⟩, ⟨⟩⟩)
  rename_i a vs hl hw hr
  have e := hr.length
  refine call_len_list hl.isList (by simp; omega) ⟨kp_tok _ _, ?_⟩
  rw [show ((List.toArray vs).size : Int) = xs.length by simp [e]]
  exact .int _ _
theorem Ev.len_list {x p y py pos l} (hx : C.env.kindOf x = some .globalImplicit) (g : GV C x (.builtin "len")) (hv : C.γ.lookup y = some (.ow l) ∨ C.γ.lookup y = some (.ro l)) (h : (l.length : Int) < 2 ^ 63)
    (hd : (x == ("__debug__" : Str)) = false := by decide) (hdy : (y == ("__debug__" : Str)) = false := by decide) (hn : (y == ("__classdict__" : Str)) = false := by decide)
    (hc : eval (.Call (.Name x p) [.Name y py] [] pos) C.env = (do callWith pos (← eval (.Name x p) C.env) [] (backTo pos (starEach [.Name y py] C.env)) (backToKw pos (keywordEach [] C.env))) := by rfl) : Ev C (.Call (.Name x p) [.Name y py] [] pos) (.int l.length) := fun s o => by
  have : ∃ a vs, Bound C.env s.heap y (.ref a) ∧ s.heap.IsList a (List.toArray vs) ∧ RepL C.W s.heap vs l := by
    rcases hv with hv | hv
    · obtain ⟨a, vs, b, hl, hr⟩ := o.var y _ hv; exact ⟨a, vs, b, hl.isList, hr⟩
    · obtain ⟨a, vs, b, hl, hr, _⟩ := o.var y _ hv; exact ⟨a, vs, b, hl, hr⟩
  obtain ⟨a, vs, b, hl, hr⟩ := this
  refine Call_ (load_glob o hx g (callWith_builtin1 (args_cons (wpAny_Name (load_bound o.kind b (args_nil ?_) hn) hdy))) hd) hc
  have e := hr.length
  refine call_len_list hl (by simp; omega) ⟨kp_tok _ _, ?_⟩
  rw [show ((List.toArray vs).size : Int) = l.length by simp [e]]
  exact .int _ _

end
end Mine
end

section
open PySem PySem.Calls PySem.W PyProof.Rows
set_option maxRecDepth 100000
set_option linter.unusedVariables false
namespace Mine

abbrev dInts (l : List Int) : PyData := .list (l.map PyData.int)
abbrev dStrs (l : List Str) : PyData := .list (l.map PyData.str)

theorem RepL.toInts {W : Addr → Prop} {h : Heap} : ∀ {vs : List Value} {ns : List Int}, RepL W h vs (ns.map PyData.int) → IntsAre vs ns
  | _, [], r => by cases r; exact .nil
  | _, n :: ns, r => by
    rw [List.map_cons] at r
    cases r with
    | cons a b => cases a; exact .cons _ _ (RepL.toInts b)
theorem RepL.toStrs {W : Addr → Prop} {h : Heap} : ∀ {vs : List Value} {ns : List Str}, RepL W h vs (ns.map PyData.str) → ∃ l : List (Str × Tok), vs = strValues l ∧ l.map (·.1) = ns
  | _, [], r => by cases r; exact ⟨[], rfl, rfl⟩
  | _, n :: ns, r => by
    rw [List.map_cons] at r
    cases r with
    | cons a b =>
      cases a
      rename_i vs t
      obtain ⟨l, rfl, rfl⟩ := RepL.toStrs b
      exact ⟨(n, t) :: l, rfl, rfl⟩
theorem RepL.ofStrs {W : Addr → Prop} {h : Heap} : ∀ {l : List (Str × Tok)} {ns : List Str}, l.map (·.1) = ns → RepL W h (strValues l) (ns.map PyData.str)
  | [], _, rfl => .nil
  | (x, t) :: l, _, rfl => .cons (.str x t) (RepL.ofStrs (l := l) rfl)
theorem RepL.ofInts {W : Addr → Prop} {h : Heap} : ∀ {vs : List Value} {ns : List Int}, IntsAre vs ns → RepL W h vs (ns.map PyData.int)
  | _, _, .nil => .nil
  | _, _, .cons n t r => .cons (.int n t) (RepL.ofInts r)

section
variable {C : Cx}

theorem wp_add_list {s : Shared} {a b : Addr} {vs us : List Value} {Q : Value → Shared → Prop} {E : Value → Shared → Prop} (hl : s.heap.IsList a (List.toArray vs)) (hb : s.heap.IsList b (List.toArray us)) (hsz : vs.length + us.length ≤ sizeLine)
    (h : Q (.ref s.heap.objs.size) { s with heap := s.heap.push { cls := .type "list", data := .seq (List.toArray (vs ++ us)) } }) : wpAny (model C.prog C.w) C.A (binaryOp .Add (.ref a) (.ref b)) Q E s := by
  obtain ⟨⟨cls, dd, data, sl⟩, ho, hc, n, hd⟩ := id hl
  obtain ⟨⟨cls2, dd2, data2, sl2⟩, ho2, hc2, n2, hd2⟩ := id hb
  simp only at hc hd hc2 hd2
  subst hc hd hc2 hd2
  have e : List.toArray vs ++ List.toArray us = List.toArray (vs ++ us) := by simp
  refine concat_meets ⟨_, ho, rfl⟩ ⟨_, ho2, rfl⟩ noFill_list_add seq_list_add PySem.F.slot_list_add PySem.F.entry_list_add (PySem.F.args_list_add_2 _ _) (list_addW a b (List.toArray vs) (List.toArray us) n n2 dd dd2 sl sl2 (by simpa using hsz)) ⟨ho, ho2, ?_⟩
  rw [e]
  exact h
theorem Bin.add_list {xs ys} (hsz : xs.length + ys.length ≤ sizeLine) : Bin C .Add (.list xs) (.list ys) (.list (xs ++ ys)) := by
  rintro s _ _ o ⟨⟩ ⟨⟩
  rename_i a vs hl hw hr b us hl' hw' hr'
  exact wp_add_list hl.isList hl'.isList (by rw [hr.length, hr'.length]; exact hsz) ⟨kp_push _ _, new_list o (hr.append hr')⟩
/-- a list that is only read, and another one behind it -/
theorem Ev.add_ro {y py r pos xs ys} (hv : C.γ.lookup y = some (.ro xs)) (hr : Ev C r (.list ys)) (hsz : xs.length + ys.length ≤ sizeLine)
    (hdy : (y == ("__debug__" : Str)) = false := by decide) (hn : (y == ("__classdict__" : Str)) = false := by decide) : Ev C (.BinOp (.Name y py) .Add r pos) (.list (xs ++ ys)) := fun s o => by
  obtain ⟨a, vs, b, hl, hvs, _⟩ := o.var y _ hv
  refine wpAny_BinOp (wpAny_Name (load_bound o.kind b ?_ hn) hdy)
  refine hr.use o fun v₂ s₂ k₂ o₂ r₂ => ?_
  cases r₂
  rename_i b us hl' hw' hr'
  have hl₂ := hl.at fun o e => kp_heap k₂ _ o e
  exact wp_add_list hl₂ hl'.isList (by rw [hvs.length, hr'.length]; exact hsz) ⟨kp_trans k₂ (kp_push _ _), new_list o₂ ((hvs.keeps (kp_heap k₂)).append hr')⟩

theorem wp_mul_list {s : Shared} {a : Addr} {vs : List Value} {x : Int} {u : Tok} {Q : Value → Shared → Prop} {E : Value → Shared → Prop} (hl : s.heap.PlainList a (List.toArray vs)) (hlo : -(2 ^ 63 : Int) ≤ x) (hhi : x < 2 ^ 63) (hsz : vs.length * x.toNat ≤ 2 ^ 24)
    (h : Q (.ref s.heap.objs.size) { s with heap := s.heap.push { cls := .type "list", data := .seq (List.foldl (fun x1 x2 => x1 ++ x2) #[] (List.replicate (if (List.toArray vs).isEmpty = true then 0 else x.toNat) (List.toArray vs))) } }) : wpAny (model C.prog C.w) C.A (binaryOp .Mult (.ref a) (.int x u)) Q E s := by
  obtain ⟨k, hl⟩ := hl
  exact wpAny_binaryOp_repeat_ref (T := "list") (U := "int") (by decide) ⟨_, hl, rfl⟩ (fun s' => typeIs_int s' x u) noFill_list_mul F.fills_int_mul F.slot_int_rmul repeat_list F.slot_int_index.lookup
    (call_meets F.slot_int_rmul (typeIs_int s x u) F.entry_int_rmul (F.args_int_rmul_2 _ _) (int___rmul___int_list x u a (List.toArray vs) k)
      ⟨hl, rfl, ⟨_, hl, rfl⟩, call_meets F.slot_list_mul ⟨_, hl, rfl⟩ F.entry_list_mul (F.args_list_mul_2 _ _)
        (AutoListH.list___mul___list_int_3 a (List.toArray vs) k x u (by simp [Builtin.List.listFitsIndex]; omega) (by simp; omega) (by simp [Builtin.List.listTooLong, sizeLine]; omega))
        ⟨hl, h⟩⟩)
theorem rep_arrays (v : Value) : ∀ (n : Nat) (acc : Array Value), List.foldl (fun x1 x2 => x1 ++ x2) acc (List.replicate n #[v]) = acc ++ (List.replicate n v).toArray
  | 0, acc => by simp
  | n + 1, acc => by rw [List.replicate_succ, List.foldl_cons, rep_arrays v n, List.replicate_succ]; apply Array.ext'; simp
theorem RepL.replicate {W : Addr → Prop} {h : Heap} {v d} (r : Rep W h v d) : ∀ n, RepL W h (List.replicate n v) (List.replicate n d)
  | 0 => .nil
  | n + 1 => .cons r (RepL.replicate r n)
/-- [x] * n -/
theorem Bin.mul_one {d : PyData} {n : Int} (h0 : 0 ≤ n) (hsz : n ≤ 2 ^ 24) : Bin C .Mult (.list [d]) (.int n) (.list (List.replicate n.toNat d)) := by
  rintro s _ _ o ⟨⟩ ⟨⟩
  rename_i a vs hl hw hr t
  cases hr with
  | cons r q =>
    cases q
    rename_i v
    refine wp_mul_list hl (by omega) (by omega) (by simp; omega) ⟨kp_push _ _, ?_⟩
    have e : (List.toArray [v]).isEmpty = false := rfl
    rw [e, if_neg Bool.false_ne_true, show List.toArray [v] = #[v] from rfl, rep_arrays, Array.empty_append]
    exact new_list o (RepL.replicate r _)

/-! ## == -/
theorem Cmp.eq_data {a b : PyData} (ha : SeqAt.shaped a = true) (hb : SeqAt.shaped b = true) (hr : RoomA 1 C.A) : Cmp C .Eq a b (PyData.eqv a b) := by
  intro s v₁ v₂ o r₁ r₂
  obtain ⟨as, p⟩ := r₁.reads
  obtain ⟨bs, q⟩ := r₂.reads
  exact eq_dataH p q ha hb (by have := hr.2.2; show _ < 9900; omega) ⟨kp_refl _, rfl⟩
theorem Cmp.ne_data {a b : PyData} (ha : SeqAt.shaped a = true) (hb : SeqAt.shaped b = true) (hr : RoomA 1 C.A) : Cmp C .NotEq a b (!PyData.eqv a b) := by
  intro s v₁ v₂ o r₁ r₂
  obtain ⟨as, p⟩ := r₁.reads
  obtain ⟨bs, q⟩ := r₂.reads
  exact ne_dataH p q ha hb (by have := hr.2.2; show _ < 9900; omega) ⟨kp_refl _, rfl⟩

/-! ## split, join -/
open Builtin Builtin.Str in
theorem Bi.split {x y : Str} (hy : (y.length == 0) = false) (hsz : x.length ≤ sizeLine) (hsz2 : (partsBetween x (occurrences x y 0 x.length (x.length + 1)) y.length).length ≤ sizeLine) : Bi C (.builtin "str.split") [.str x, .str y] (dStrs (Txt.split x y)) := by
  rintro s _ o (_ | ⟨⟨⟩, _ | ⟨⟨⟩, ⟨⟩⟩⟩)
  rename_i t u
  have fin : ∀ (l : List (Str × Tok)) (tk : Nat), l.map (·.1) = Txt.split x y →
      (fun v s' => Keeps s s' ∧ Rep C.W s'.heap v (dStrs (Txt.split x y))) (Value.ref s.heap.objs.size) { s with toks := tk, heap := s.heap.push { cls := .type "list", data := .seq (strValues l).toArray } } := fun l tk e =>
    ⟨kp_trans (kp_push _ _) (kp_tok _ _), new_list o (RepL.ofStrs e)⟩
  cases h1 : (decide (x.length < y.length) || decide (strKind x < strKind y))
  · cases hf : (occurrences x y 0 x.length (x.length + 1)).isEmpty
    · refine call_meets F.slot_str_split (typeIs_str _ _ _) F.entry_str_split (F.args_str_split_2 _ _) (meets_str_split_sep x y t u h1 hy hf hsz hsz2) ?_
      show wants _ _ _ { s with toks := _, heap := s.heap.push { cls := .type "list", data := .seq (strsFrom s.toks (partsBetween x (occurrences x y 0 x.length (x.length + 1)) y.length)).toArray } }
      rw [strsFrom_eq]
      exact fin (numbered s.toks _) _ ((numbered_texts _ _).trans ((if_neg (ne_true_of_eq_false h1)).trans (if_neg (ne_true_of_eq_false hf))).symm)
    · exact call_meets F.slot_str_split (typeIs_str _ _ _) F.entry_str_split (F.args_str_split_2 _ _) (meets_str_split_not_found x y t u h1 hy hf)
        (fin [(x, t)] s.toks ((if_neg (ne_true_of_eq_false h1)).trans (if_pos hf)).symm)
  · exact call_meets F.slot_str_split (typeIs_str _ _ _) F.entry_str_split (F.args_str_split_2 _ _) (meets_str_split_cannot_occur x y t u h1)
      (fin [(x, t)] s.toks (if_pos h1).symm)
theorem Bi.join {x : Str} {ys : List Str} (hok : JoinOk x ys = true) : Bi C (.builtin "str.join") [.str x, dStrs ys] (.str (Txt.join x ys)) := by
  rintro s _ o (_ | ⟨⟨⟩, _ | ⟨⟨⟩, ⟨⟩⟩⟩)
  rename_i t a vs hl hw hr
  obtain ⟨l, rfl, e⟩ := hr.toStrs
  exact SC.join hl.isList e hok fun t' k => ⟨kp_tok _ _, .str _ _⟩

/-! ## min, sum, index, count -/
theorem Bi.sum {ns : List Int} (hh : C.A.handled = none) : Bi C (.builtin "sum") [dInts ns] (.int ns.sum) := by
  rintro s _ o (_ | ⟨⟨⟩, ⟨⟩⟩)
  rename_i a vs hl hw hr
  have hi := hr.toInts
  have hl' : s.heap.IsList a (List.toArray vs) := hl.isList
  obtain ⟨xs, hxs⟩ := hi.allInts.items
  rw [hxs] at hl'
  refine sum_intListG hh hl' fun h' tk t' hk => ⟨⟨h', tk, rfl, hk⟩, ?_⟩
  have e : preSum (numAt xs) xs.size = ns.sum := by
    have h1 := hi.numsOf
    rw [show vs = (List.toArray vs).toList from rfl, hxs, nums_intItems] at h1
    rw [preSum_eq, List.take_of_length_le (by simp), h1]
  rw [e]
  exact .int _ _
theorem Bi.min2 {a b : Int} (hh : C.A.handled = none) : Bi C (.builtin "min") [.int a, .int b] (.int (if b < a then b else a)) := by
  rintro s _ o (_ | ⟨⟨⟩, _ | ⟨⟨⟩, ⟨⟩⟩⟩)
  refine min_two_ints hh fun h' tk hk => ⟨⟨h', tk, rfl, hk⟩, ?_⟩
  split <;> exact .int _ _
theorem Bi.count {ns : List Int} {k : Int} : Bi C (.builtin "list.count") [dInts ns, .int k] (.int (ns.count k : Nat)) := by
  rintro s _ o (_ | ⟨⟨⟩, _ | ⟨⟨⟩, ⟨⟩⟩⟩)
  rename_i a vs hl hw hr t
  exact count_list_ints hl.isList hr.toInts ⟨kp_tok _ _, .int _ _⟩
theorem Bi.index {ns : List Int} {k : Int} (hlay : PyData.layable0 (.list (ns.map .int)) = true) (hk : k ∈ ns) : Bi C (.builtin "list.index") [dInts ns, .int k] (.int (ns.idxOf k : Nat)) := by
  rintro s _ o (_ | ⟨⟨⟩, _ | ⟨⟨⟩, ⟨⟩⟩⟩)
  rename_i a vs hl hw hr t
  exact index_list_ints hl.isList hr.toInts hlay hk ⟨kp_tok _ _, .int _ _⟩

end
end Mine
end

section
open PySem PySem.Calls PySem.W PyProof.Rows
set_option maxRecDepth 100000
set_option linter.unusedVariables false
namespace Mine

/-! ## storing a name -/
inductive Storable (env : Env) (h : Heap) (x : Str) (a : Addr) : Prop
  | loc {m : Str → Option Value} : env.kindOf x = some .local → a = env.locals → h.Ns env.locals m → Storable env h x a
  | cell {v : Option Value} : env.kindOf x = some .cell → env.cells.lookup x = some a → h.IsCell a v → Storable env h x a

theorem Storable.at {env : Env} {h h' : Heap} {x : Str} {a : Addr} (q : Storable env h x a) (hk : ∀ o, h.get? a = some o → h'.get? a = some o) : Storable env h' x a := by
  cases q with
  | loc p e n => subst e; exact .loc p rfl (n.at' hk)
  | cell p e n => obtain ⟨o, ho, hd⟩ := n; exact .cell p e ⟨o, hk o ho, hd⟩
theorem Storable.some {env : Env} {h : Heap} {x : Str} {a : Addr} (q : Storable env h x a) : ∃ o, h.get? a = some o := by
  cases q with
  | loc p e n => obtain ⟨o, _, _, ho, _⟩ := n; exact ⟨o, e ▸ ho⟩
  | cell p e n => obtain ⟨o, ho, _⟩ := n; exact ⟨o, ho⟩

theorem wp_store {M : Model} {A : Around} {E : Value → Shared → Prop} {s : Shared} {env : Env} {x : Str} {a : Addr} {v : Value} {Q : Unit → Shared → Prop} (wf : EnvWf env) (hk : env.scope.kind = .function) (hx : Storable env s.heap x a)
    (h : ∀ h' tk, Heap.SameBut a s.heap h' → Storable env h' x a → Bound env h' x v → (∀ y u, y ≠ x → Bound env s.heap y u → Bound env h' y u) → Q () { s with heap := h', toks := tk }) : wpAny M A (storeName env x v) Q E s := by
  cases hx with
  | loc hl e hn =>
    subst e
    rename_i m
    refine wpAny_storeName_local hl hn (fun h' hn' hs' => h h' _ hs' (.loc hl rfl hn') (.loc hl hn' (by simp)) fun y u hy b => ?_) (by rw [hk]; rfl)
    cases b with
    | loc p q r =>
      refine .loc p hn' ?_
      rw [if_neg hy, hn.agree q]; exact r
    | cell p q r => exact .cell p q (r.sameBut hs' (wf.ne _ _ q))
    | free p q r => exact .free p q (r.sameBut hs' (wf.ne _ _ q))
  | cell hl e hn =>
    refine wpAny_storeName_cell hk hl e hn fun h' hn' hs' => h h' s.toks hs' (.cell hl e hn') (.cell hl e hn') fun y u hy b => ?_
    cases b with
    | loc p q r => exact .loc p (q.sameBut hs' (Ne.symm (wf.ne _ _ e))) r
    | cell p q r => exact .cell p q (r.sameBut hs' fun e' => hy (wf.inj _ _ _ (e' ▸ q) e))
    | free p q r => exact .free p q (r.sameBut hs' fun e' => hy (wf.inj _ _ _ (e' ▸ q) e))

section
variable {C : Cx}

/-! ## what is gone through -/
structure ItAt (C : Cx) (s s₂ : Shared) (I : Addr) (fp wr : List Addr) (ds : List PyData) (P : Nat → Value → Prop) (St : Nat → Heap → Prop) : Prop where
  walks : Walks C.prog C.w C.A I fp wr ds.length P St
  start : St 0 s₂.heap
  low : ∀ b ∈ fp, b < s₂.heap.objs.size
  new : ∀ b ∈ wr, s.heap.get? b = none
  rep : ∀ i v, P i v → i < ds.length → ∀ h', (∀ b o, ¬ C.W b → b ∉ wr → s₂.heap.get? b = some o → h'.get? b = some o) → ∃ d, ds[i]? = some d ∧ Rep C.W h' v d
  keeps : Keeps s s₂
  ex : ∀ i h, St i h → ∀ b ∈ wr, ∃ o, h.get? b = some o ∧ ∃ vs, o.data = .fields vs
  exf : ∀ i h, St i h → ∀ b ∈ fp, ∃ o, h.get? b = some o
  nW : ∀ b ∈ fp, ¬ C.W b
def It (C : Cx) (e : PySem.Expr) (ds : List PyData) : Prop :=
  ∀ s : Shared, Ok C s → wpAny (model C.prog C.w) C.A (eval e C.env) (fun xv s₁ => wpAny (model C.prog C.w) C.A (pyIter xv) (fun it s₂ => ∃ I fp wr P St, it = .ref I ∧ ItAt C s s₂ I fp wr ds P St) (fun _ _ => False) s₁) (fun _ _ => False) s

theorem It.list {e ds} (h : Ev C e (.list ds)) (hh : C.A.handled = none) : It C e ds := fun s o =>
  h.use o fun v s₁ k₁ o₁ r₁ => by
    cases r₁
    rename_i a vs hl hw hr
    have hL := hl.isList
    refine wpAny_pyIter_list hL ?_
    have hne : a ≠ s₁.heap.objs.size := by obtain ⟨o', ho, _⟩ := hL; exact Nat.ne_of_lt (Heap.lt_size ho)
    have W := Walks.list (prog := C.prog) (w := C.w) (A := C.A) hh s₁.heap.objs.size a hne (List.toArray vs)
    have e : (List.toArray vs).size = ds.length := by simp [hr.length]
    rw [e] at W
    have exf : ∀ i h, (Heap.IsListIter h s₁.heap.objs.size a i ∧ h.IsList a (List.toArray vs)) → ∀ b ∈ [s₁.heap.objs.size, a], ∃ o, h.get? b = some o := fun i h st b hb => by
      rcases List.mem_cons.mp hb with rfl | hb
      · obtain ⟨o', ho, _⟩ := st.1; exact ⟨o', ho⟩
      · rcases List.mem_cons.mp hb with rfl | hb
        · obtain ⟨o', ho, _⟩ := st.2; exact ⟨o', ho⟩
        · cases hb
    have nWf : ∀ b ∈ [s₁.heap.objs.size, a], ¬ C.W b := fun b hb => by
      rcases List.mem_cons.mp hb with rfl | hb
      · exact o₁.notW (fresh_none (Nat.le_refl _))
      · rcases List.mem_cons.mp hb with rfl | hb
        · exact hw
        · cases hb
    refine ⟨_, [s₁.heap.objs.size, a], [s₁.heap.objs.size], _, _, rfl, W, ⟨⟨_, Heap.get?_push_size _ rfl, rfl, rfl⟩, hL.push _⟩, ?_, ?_, ?_, kp_trans k₁ (kp_push _ _), fun i h st b hb => by simp at hb; subst hb; obtain ⟨o', ho, _, hd⟩ := st.1; exact ⟨o', ho, _, hd⟩, exf, nWf⟩
    · intro b hb
      show b < (s₁.heap.push _).objs.size
      rw [Heap.size_push]
      obtain ⟨o', ho, _⟩ := hL
      have := Heap.lt_size ho
      rcases List.mem_cons.mp hb with rfl | hb
      · exact Nat.lt_succ_self _
      · rcases List.mem_cons.mp hb with rfl | hb
        · exact Nat.lt_succ_of_lt this
        · cases hb
    · intro b hb
      simp at hb; subst hb
      cases q : s.heap.get? s₁.heap.objs.size with
      | none => rfl
      | some o' => exact absurd (Heap.lt_size (kp_heap k₁ _ _ q)) (Nat.lt_irrefl _)
    · intro i v hv hi h' hk
      have hv' : vs[i]? = some v := by simpa using hv
      obtain ⟨d, hd, rd⟩ := hr.get' hv'
      refine ⟨d, hd, rd.move (fun b o' hb e' => hk b o' hb ?_ (Heap.get?_push_of_some _ e')) fun _ n _ => n⟩
      intro hm; simp at hm; subst hm
      exact absurd (Heap.lt_size e') (Nat.lt_irrefl _)

theorem it_range {s s₁ : Shared} {r : Addr} {a b : Int} {n : Nat} {t u v : Tok} (o₁ : Ok C s₁) (hh : C.A.handled = none) (k₁ : Keeps s s₁) (hr : IsRange s₁.heap r a b 1 t u v) (hsm : Builtin.Range.small a b 1 = true) (hn : Builtin.Range.rangeSize a b 1 = ((n : Nat) : Int)) :
    wpAny (model C.prog C.w) C.A (pyIter (.ref r)) (fun it s₂ => ∃ I fp wr P St, it = .ref I ∧ ItAt C s s₂ I fp wr ((List.range n).map fun i : Nat => PyData.int (a + i)) P St) (fun _ _ => False) s₁ := by
  refine wpAny_pyIter_range hr hsm ?_
  have W := Walks.range (prog := C.prog) (w := C.w) (A := C.A) hh s₁.heap.objs.size a 1 n
  have e : n = ((List.range n).map fun i : Nat => PyData.int (a + i)).length := by simp
  rw [e] at W
  refine ⟨_, [s₁.heap.objs.size], [s₁.heap.objs.size], _, _, rfl, W, ?_, ?_, ?_, ?_, kp_trans k₁ (kp_push _ _), fun i h st b hb => by simp at hb; subst hb; exact ⟨_, st, _, rfl⟩, fun i h st b hb => by simp at hb; subst hb; exact ⟨_, st⟩, fun b hb => by simp at hb; subst hb; exact o₁.notW (fresh_none (Nat.le_refl _))⟩
  · show (s₁.heap.push _).get? _ = some _
    have := Heap.get?_push_size s₁.heap (o := { cls := .type "range_iterator", data := .fields #[rawInt a, rawInt (Builtin.Range.rangeSize a b 1), rawInt 1] }) rfl
    rw [this, hn]
    simp
  · intro b hb
    simp at hb; subst hb
    show _ < (s₁.heap.push _).objs.size
    rw [Heap.size_push]; omega
  · intro b hb
    simp at hb; subst hb
    cases q : s.heap.get? s₁.heap.objs.size with
    | none => rfl
    | some o' => exact absurd (Heap.lt_size (kp_heap k₁ _ _ q)) (Nat.lt_irrefl _)
  · rintro i _ ⟨t', rfl⟩ hi h' hk
    simp at hi
    refine ⟨.int (a + i), by simp [hi], ?_⟩
    rw [Int.mul_one]
    exact .int _ _

theorem It.range1 {x p e pos} {n : Nat} (hx : C.env.kindOf x = some .globalImplicit) (g : GV C x (.type "range")) (he : Ev C e (.int n)) (hn : (n : Int) < 2 ^ 62) (hh : C.A.handled = none)
    (hd : (x == ("__debug__" : Str)) = false := by decide) (hs : starEach [e] C.env = [(false, eval e C.env)] := by rfl)
    (hc : eval (.Call (.Name x p) [e] [] pos) C.env = (do callWith pos (← eval (.Name x p) C.env) [] (backTo pos (starEach [e] C.env)) (backToKw pos (keywordEach [] C.env))) := by rfl) :
    It C (.Call (.Name x p) [e] [] pos) ((List.range n).map fun i : Nat => PyData.int i) := fun s o => by
  refine Call_ (load_glob o hx g (callWith_type1 (args_cons (he.use o fun v s₁ k₁ o₁ r₁ => args_nil ?_) hs) hs rfl) hd) hc
  cases r₁
  rename_i t
  refine call_range_1 ?_
  have h := it_range (C := C) (s := s) (s₁ := { s₁ with heap := s₁.heap.push { cls := .type "range", data := .fields #[.int 0 s₁.toks, .int n t, .int 1 (s₁.toks + 1)] }, toks := s₁.toks + 1 + 1 }) (n := n) (o₁.keepsS (kp_trans (kp_push _ _) (kp_tok _ _)) (by show s₁.toks ≤ s₁.toks + 1 + 1; omega)) hh
    (kp_trans k₁ (kp_trans (kp_push _ _) (kp_tok _ _))) (IsRange.new ..) (small_one (by decide) (by decide) (by omega) hn) (by rw [rangeSize_one]; split <;> omega)
  simpa using h
theorem It.range2 {x p e e' pos} {a b : Int} {n : Nat} (hx : C.env.kindOf x = some .globalImplicit) (g : GV C x (.type "range")) (he : Ev C e (.int a)) (he' : Ev C e' (.int b)) (ha : -(2 ^ 62) ≤ a) (ha' : a < 2 ^ 62) (hb : -(2 ^ 62) ≤ b) (hb' : b < 2 ^ 62)
    (hn : b - a = n) (hh : C.A.handled = none)
    (hd : (x == ("__debug__" : Str)) = false := by decide) (hs : starEach [e, e'] C.env = [(false, eval e C.env), (false, eval e' C.env)] := by rfl) (hs' : starEach [e'] C.env = [(false, eval e' C.env)] := by rfl)
    (hc : eval (.Call (.Name x p) [e, e'] [] pos) C.env = (do callWith pos (← eval (.Name x p) C.env) [] (backTo pos (starEach [e, e'] C.env)) (backToKw pos (keywordEach [] C.env))) := by rfl) :
    It C (.Call (.Name x p) [e, e'] [] pos) ((List.range n).map fun i : Nat => PyData.int (a + i)) := fun s o => by
  refine Call_ (load_glob o hx g (callWith_type1 (args_cons (he.use o fun v s₁ k₁ o₁ r₁ => args_cons (he'.use o₁ fun v' s₂ k₂ o₂ r₂ => args_nil ?_) hs') (by rw [hs, hs'])) (by rw [hs, hs']) (by rw [hs']; rfl)) hd) hc
  cases r₁
  cases r₂
  rename_i t t'
  refine call_range_2 ?_
  exact it_range (C := C) (s := s) (s₁ := { s₂ with heap := s₂.heap.push { cls := .type "range", data := .fields #[.int a t, .int b t', .int 1 s₂.toks] }, toks := s₂.toks + 1 }) (n := n) (o₂.keepsS (kp_trans (kp_push _ _) (kp_tok _ _)) (by show s₂.toks ≤ s₂.toks + 1; omega)) hh
    (kp_trans k₁ (kp_trans k₂ (kp_trans (kp_push _ _) (kp_tok _ _)))) (IsRange.new ..) (small_one ha ha' hb hb') (by rw [rangeSize_one]; split <;> omega)

end
end Mine
end

section
open PySem PySem.Calls PySem.W PyProof.Rows
set_option maxRecDepth 100000
set_option linter.unusedVariables false
namespace Mine

/-! ## the frame of a comprehension -/
def closOf (scope : Scope) (env : Env) : List (Str × Addr) :=
  scope.names.foldl (fun cs p => if p.2 == .free then (p.1, (env.cells.lookup p.1).getD 0) :: cs else cs) []
def freeOk (scope : Scope) (env : Env) : Bool :=
  scope.names.all fun p => p.2 != .free || ((env.cells.lookup p.1).isSome && (env.kindOf p.1 == some .cell || env.kindOf p.1 == some .free))

theorem clos_go (env : Env) : ∀ (names : List (Str × NameKind)) (acc : List (Str × Addr)),
    (names.all fun p => p.2 != .free || ((env.cells.lookup p.1).isSome && (env.kindOf p.1 == some .cell || env.kindOf p.1 == some .free))) = true →
    (forIn names acc fun (p : Str × NameKind) (cs : List (Str × Addr)) => (if p.2 == .free then (do let a ← cellOf env p.1; pure (ForInStep.yield ((p.1, a) :: cs))) else pure (ForInStep.yield cs) : Sem (ForInStep (List (Str × Addr))))) =
      (pure (names.foldl (fun cs p => if p.2 == .free then (p.1, (env.cells.lookup p.1).getD 0) :: cs else cs) acc) : Sem (List (Str × Addr)))
  | [], acc, _ => rfl
  | (n, k) :: r, acc, h => by
    rw [List.all_cons, Bool.and_eq_true] at h
    rw [List.forIn_cons, List.foldl_cons]
    cases hk : k == NameKind.free with
    | false =>
      simp only [hk, Bool.false_eq_true, if_false, pure_bind]
      exact clos_go env r acc h.2
    | true =>
      have h1 := h.1
      have hne : (k != NameKind.free) = false := by simp [bne, hk]
      rw [hne, Bool.false_or, Bool.and_eq_true] at h1
      obtain ⟨c, hc⟩ := Option.isSome_iff_exists.mp h1.1
      have hcell : cellOf env n = pure c := by unfold cellOf; rw [hc]
      simp only [hk, if_true, hcell, pure_bind, hc, Option.getD_some]
      exact clos_go env r _ h.2
theorem closureFor_of {scope : Scope} {env : Env} (h : freeOk scope env = true) : closureFor scope env = pure (closOf scope env) := by
  unfold closureFor closOf
  have := clos_go env scope.names [] h
  simp only [] at this ⊢
  first
    | (rw [this]; rfl)
    | (refine Eq.trans ?_ this; rfl)
    | (refine Eq.trans (congrArg (· >>= fun cs => pure cs) ?_) ?_)

theorem clos_look (env : Env) (y : Str) : ∀ (names : List (Str × NameKind)) (acc : List (Str × Addr)),
    (names.foldl (fun cs p => if p.2 == .free then (p.1, (env.cells.lookup p.1).getD 0) :: cs else cs) acc).lookup y = (if (y, NameKind.free) ∈ names then some ((env.cells.lookup y).getD 0) else acc.lookup y)
  | [], acc => by simp
  | (n, k) :: r, acc => by
    rw [List.foldl_cons, clos_look env y r]
    by_cases h : (y, NameKind.free) ∈ r
    · rw [if_pos h, if_pos (List.mem_cons_of_mem _ h)]
    · rw [if_neg h]
      by_cases hk : k = .free
      · subst hk
        simp only [beq_self_eq_true, if_true, List.lookup_cons]
        by_cases hy : y = n
        · subst hy; simp
        · have : (y == n) = false := beq_eq_false_iff_ne.mpr hy
          rw [this, if_neg (by intro q; rcases List.mem_cons.mp q with q | q; exact hy (Prod.mk.inj q).1; exact h q)]
      · have : (k == NameKind.free) = false := beq_eq_false_iff_ne.mpr hk
        simp only [this, Bool.false_eq_true, if_false]
        rw [if_neg (by intro q; rcases List.mem_cons.mp q with q | q; exact hk (Prod.mk.inj q).2.symm; exact h q)]

theorem freeOk_get {scope : Scope} {env : Env} (h : freeOk scope env = true) {y : Str} (hy : (y, NameKind.free) ∈ scope.names) :
    ∃ c, env.cells.lookup y = some c ∧ (closOf scope env).lookup y = some c ∧ (env.kindOf y = some .cell ∨ env.kindOf y = some .free) := by
  have h1 := List.all_eq_true.mp h _ hy
  simp only [bne_self_eq_false, Bool.false_or, Bool.and_eq_true, Bool.or_eq_true, beq_iff_eq] at h1
  obtain ⟨c, hc⟩ := Option.isSome_iff_exists.mp h1.1
  refine ⟨c, hc, ?_, h1.2⟩
  unfold closOf
  rw [clos_look, if_pos hy, hc]; rfl
theorem closOf_back {scope : Scope} {env : Env} (h : freeOk scope env = true) {y : Str} {c : Addr} (hy : (closOf scope env).lookup y = some c) : env.cells.lookup y = some c := by
  have hm : (y, NameKind.free) ∈ scope.names := by
    unfold closOf at hy
    rw [clos_look] at hy
    by_cases q : (y, NameKind.free) ∈ scope.names
    · exact q
    · rw [if_neg q] at hy; cases hy
  obtain ⟨c', h1, h2, _⟩ := freeOk_get h hm
  rw [h2] at hy; cases hy; exact h1

theorem relabel_free {env : Env} (hk : env.scope.kind = .function) : ∀ {names : List (Str × NameKind)} {x : Str}, names.lookup x = some .free →
    (names.map fun (n, k) => if (k == NameKind.free && env.scope.kind == .function && env.kindOf n == some .cell) then (n, NameKind.cell) else (n, k)).lookup x = some (if env.kindOf x = some .cell then .cell else .free)
  | [], _, h => by simp at h
  | (n, k) :: r, x, h => by
    have ih := @relabel_free env hk r x
    show List.lookup x ((if (k == NameKind.free && env.scope.kind == .function && env.kindOf n == some .cell) = true then (n, NameKind.cell) else (n, k)) :: _) = _
    cases hx : x == n with
    | true =>
      simp only [List.lookup_cons, hx] at h
      cases h
      have e : x = n := beq_iff_eq.mp hx
      subst e
      by_cases hc : env.kindOf x = some .cell
      · simp [List.lookup_cons, hk, hc]
      · have : (env.kindOf x == some NameKind.cell) = false := beq_eq_false_iff_ne.mpr hc
        simp [List.lookup_cons, hk, hc, this]
    | false =>
      simp only [List.lookup_cons, hx] at h
      by_cases hc : (k == NameKind.free && env.scope.kind == .function && env.kindOf n == some .cell) = true
      · rw [if_pos hc]; simp only [List.lookup_cons, hx]; exact ih h
      · rw [if_neg hc]; simp only [List.lookup_cons, hx]; exact ih h

theorem lookup_mem {α β : Type} [BEq α] [LawfulBEq α] : ∀ {l : List (α × β)} {n : α} {c : β}, l.lookup n = some c → (n, c) ∈ l
  | (k, v) :: r, n, c, h => by
    rw [List.lookup_cons] at h
    cases hb : n == k with
    | true => rw [hb] at h; cases h; rw [beq_iff_eq.mp hb]; exact List.mem_cons_self
    | false => rw [hb] at h; exact List.mem_cons_of_mem _ (lookup_mem h)

def compCx (C : Cx) (scope : Scope) (W' : Addr → Prop) (c : Addr) (x : Str) (d : PyData) : Cx :=
  { C with env := compEnvC scope (closOf scope C.env) c C.env, W := W', γ := (x, .sh d) :: C.γ.filter fun p => scope.names.lookup p.1 == some .free }

theorem bound_in {scope : Scope} {env : Env} {c : Addr} {h : Heap} {y : Str} {v : Value} (hk : env.scope.kind = .function) (hf : freeOk scope env = true) (hy : scope.names.lookup y = some .free) (b : Bound env h y v) : Bound (compEnvC scope (closOf scope env) c env) h y v := by
  obtain ⟨a, h1, h2, h3⟩ := freeOk_get hf (lookup_mem hy)
  have e := relabel_free hk hy
  cases b with
  | loc p q r => rw [p] at h3; rcases h3 with h3 | h3 <;> cases h3
  | cell p q r =>
    rw [h1] at q; cases q
    rw [p, if_pos rfl] at e
    exact .cell e h2 r
  | free p q r =>
    rw [h1] at q; cases q
    rw [p, if_neg (by simp)] at e
    exact .free e h2 r

theorem lookup_filter {β : Type} (p : Str × β → Bool) : ∀ {l : List (Str × β)} {y : Str} {c : β}, (∀ c, p (y, c) = p (y, c)) → (l.filter p).lookup y = some c → (∀ a b, p (y, a) = p (y, b)) → l.lookup y = some c ∧ p (y, c) = true
  | [], _, _, _, h, _ => by simp at h
  | (k, v) :: r, y, c, hh, h, hp => by
    by_cases hk : p (k, v) = true
    · rw [List.filter_cons_of_pos hk, List.lookup_cons] at h
      rw [List.lookup_cons]
      cases hb : y == k with
      | true => rw [hb] at h; cases h; have := beq_iff_eq.mp hb; subst this; exact ⟨rfl, hk⟩
      | false => rw [hb] at h; exact lookup_filter p hh h hp
    · rw [List.filter_cons_of_neg hk] at h
      have := lookup_filter p hh h hp
      rw [List.lookup_cons]
      cases hb : y == k with
      | true => have e := beq_iff_eq.mp hb; subst e; rw [hp v c] at hk; exact absurd this.2 hk
      | false => exact this

section
variable {C : Cx}
def TrL (C : Cx) (ifs : List PySem.Expr) (b : Bool) : Prop :=
  ∀ s : Shared, Ok C s → wpAny (model C.prog C.w) C.A (forIn ifs true fun c r => if r = true then do let ok ← isTrue c C.env (eval c C.env); pure (ForInStep.yield ok) else pure (ForInStep.yield r)) (fun v s' => Keeps s s' ∧ v = b) (fun _ _ => False) s
theorem TrL.nil : TrL C [] true := fun s o => by rw [List.forIn_nil]; exact wpAny_pure ⟨kp_refl _, rfl⟩
theorem TrL.one {e b} (h : Tr C e b) : TrL C [e] b := fun s o => by
  rw [List.forIn_cons]
  simp only [if_true]
  refine wpAny_bind (wpAny_bind (h.use o fun s₁ k₁ o₁ => wpAny_pure ?_))
  simp only [List.forIn_nil]
  exact wpAny_pure ⟨k₁, rfl⟩

/-- what a comprehension leaves -/
structure CompEnd (C : Cx) (s : Shared) (D L : Addr) (ds : List PyData) (s' : Shared) : Prop where
  keeps : Keeps s s'
  newD : s.heap.get? D = none
  newL : s.heap.get? L = none
  ne : D ≠ L
  ns : ∃ m, s'.heap.Ns L m
  out : ∃ vs, s'.heap.PlainList D (List.toArray vs) ∧ RepL (fun a => C.W a ∨ a = D ∨ a = L) s'.heap vs ds

theorem comp_core {α : Type} {elt iter : PySem.Expr} {x : Str} {px : Pos} {ifs : List PySem.Expr} {scope : Scope} {pos pos' : Pos} {ys : List α} {g f : α → PyData} {p : α → Bool} {use : Option (Value → Sem Unit)} {Q : Value → Shared → Prop} {E : Value → Shared → Prop} {s : Shared}
    (o : Ok C s) (hit : It C iter (ys.map g)) (hf : freeOk scope C.env = true) (hkind : scope.kind = .function) (hnames : ∀ x ∈ scope.names, x.2 = .local → scope.names.lookup x.1 = some .local) (hx : scope.names.lookup x = some .local)
    (hcell : ∀ y ∈ scope.names, y.2 ≠ .cell) (hsz : ys.length ≤ sizeLine)
    (htest : ∀ a ∈ ys, ∀ W' c, TrL (compCx C scope W' c x (g a)) ifs (p a)) (helt : ∀ a ∈ ys, p a = true → ∀ W' c, Ev (compCx C scope W' c x (g a)) elt (f a))
    (hs : ∀ x, foldedSetIterable iter C.env x = pure x)
    (hend : ∀ D L s', s.toks ≤ s'.toks → CompEnd C s D L ((ys.filter p).map f) s' → compPost (model C.prog C.w) C.A E use Q (.ref D) L (.ok .next) s') :
    wpAny (model C.prog C.w) C.A (comprehension (.ListComp elt [⟨.Name x px, iter, ifs, 0⟩] scope pos) scope C.env pos' (newList []) false (eval iter C.env) use) Q E s := by
  refine wpAny_comprehension_free rfl hs (closureFor_of hf) hkind hnames ?_
  refine wp_useT (hit s o) fun xv s₁ ht₁ h₁ => wp_useT h₁ fun it s₂ ht₂ h₂ => ?_
  obtain ⟨I, fp, wr, P, St, rfl, T⟩ := h₂
  have o₂ : Ok C s₂ := o.keepsS T.keeps (Nat.le_trans ht₁ ht₂)
  refine wpAny_newList ?_ (by decide)
  refine wpAny_newFunctionEnv hcell (by intro y hy; simp at hy) (fun h₁ hns₁ hsb₁ => ?_) hkind
  dsimp only at hns₁ hsb₁ ⊢
  generalize hD : s₂.heap.objs.size = D at hns₁ hsb₁ ⊢
  generalize hL : (s₂.heap.push { cls := .type "list", data := .seq ([] : List Value).toArray }).objs.size = L at hns₁ hsb₁ ⊢
  have hLD : L = D + 1 := by rw [← hL, ← hD]; exact Heap.size_push ..
  have hDL : D ≠ L := by rw [hLD]; exact Nat.ne_of_lt (Nat.lt_succ_self _)
  have nD : s₂.heap.get? D = none := fresh_none (Nat.le_of_eq hD)
  have nL : s₂.heap.get? L = none := fresh_none (by rw [hLD, ← hD]; exact Nat.le_succ _)
  have old : ∀ b o, s₂.heap.get? b = some o → h₁.get? b = some o := fun b o' e => by
    have hb := Heap.lt_size e
    have hbL : b ≠ L := by rw [hLD, ← hD]; exact Nat.ne_of_lt (Nat.lt_succ_of_lt hb)
    exact hsb₁.extBut b o' hbL (Heap.get?_push_of_some _ (Heap.get?_push_of_some _ e))
  have accD : h₁.PlainList D #[] := ⟨_, hsb₁.extBut _ _ hDL (Heap.get?_push_of_some _ (by rw [← hD]; exact Heap.get?_push_size _ rfl))⟩
  have hDf : D ∉ fp := fun hm => by have := T.low _ hm; rw [hD] at this; exact Nat.lt_irrefl _ this
  have hLf : L ∉ fp := fun hm => by have := T.low _ hm; rw [hD, hLD] at this; exact absurd this (Nat.not_lt.mpr (Nat.le_succ _))
  have hDw : D ∉ wr := fun h => hDf (T.walks.sub _ h)
  have hLw : L ∉ wr := fun h => hLf (T.walks.sub _ h)
  let W' : Addr → Prop := fun a => C.W a ∨ a = D ∨ a = L ∨ a ∈ wr
  let cenv := compEnvC scope (closOf scope C.env) L C.env
  have hxk : cenv.kindOf x = some .local := lookup_relabel_local hx
  have wfc : EnvWf cenv := ⟨fun y c hy => by
      have h1 := closOf_back hf hy
      intro e
      have e' : c = L := e
      obtain ⟨o', ho⟩ := o₂.cex y c h1
      rw [e', nL] at ho; exact absurd ho (by simp), fun y z c hy hz => o.wf.inj y z c (closOf_back hf hy) (closOf_back hf hz)⟩
  -- what holds between the turns
  let Inv : Nat → Shared → Prop := fun k s' => ∃ i h' tk vs m, s' = { s₂ with heap := h', toks := tk } ∧ s₂.toks ≤ tk ∧ i ≤ ys.length ∧ k = ys.length + 1 - i ∧ St i h' ∧ h'.Ns L m ∧ h'.PlainList D (List.toArray vs) ∧
    RepL W' h' vs (((ys.take i).filter p).map f) ∧ vs.length ≤ i ∧ (∀ b o, b ≠ L → b ∉ wr → b ≠ D → s₂.heap.get? b = some o → h'.get? b = some o)
  have loop : ∀ s₃ : Shared, s₃ = { s₂ with heap := h₁, toks := s₂.toks + ([] : List (Str × Value)).length } →
      codeAny (model C.prog C.w) C.A (.compLoop (.ListComp elt [⟨.Name x px, iter, ifs, 0⟩] scope pos) 0 (.ref I) (.ref D) cenv) (compPost (model C.prog C.w) C.A E use Q (.ref D) L) s₃ := by
    rintro s₃ rfl
    refine codeAny_compLoop_tests Inv ?_ (ys.length + 1) ⟨0, h₁, s₂.toks, [], _, rfl, Nat.le_refl _, Nat.zero_le _, rfl, T.walks.frame _ _ _ T.start fun b _ o' e => old b o' e, hns₁, accD, by simpa using RepL.nil, by simp, fun b o' _ _ _ e => old b o' e⟩
    rintro k s' ⟨i, h', tk, vs, m, rfl, htk, hi, rfl, hst, hns, hacc, hrep, hlen, hkp⟩
    have lenE : (ys.map g).length = ys.length := List.length_map ..
    by_cases hlt : i < ys.length
    · have ha : ys[i]? = some ys[i] := List.getElem?_eq_getElem hlt
      refine wpAny_with_toks (n := s₂.toks) htk (T.walks.item i _ _ _ (by rw [lenE]; exact hlt) hst fun v h₂ tk₂ hP hst₂ hk₂ htk₂ => ?_)
      have e1 : (ys.take (i + 1)).filter p = (ys.take i).filter p ++ (if p ys[i] = true then [ys[i]] else []) := by
        rw [List.take_add_one, ha, List.filter_append]
        by_cases hp : p ys[i] = true <;> simp [hp]
      refine wpAny_with_toks (n := s₂.toks) htk₂ (wpAny_assign_Name (wp_store (a := L) wfc (by simp [cenv, compEnvC, relabel, hkind]) (.loc hxk rfl (hns.at' fun o' e => hk₂ _ o' hLw e)) fun h₃ tk₃ hsb₃ hsto hbx hby htk₃ => ?_))
      have k₃ : ∀ b o, b ≠ L → b ∉ wr → b ≠ D → s₂.heap.get? b = some o → h₃.get? b = some o := fun b o' hbL hbw hbD e => hsb₃.extBut b o' hbL (hk₂ b o' hbw (hkp b o' hbL hbw hbD e))
      have hst₃ : St (i + 1) h₃ := T.walks.frame _ _ _ hst₂ fun b hb o' e => hsb₃.extBut b o' (fun q => hLf (q ▸ hb)) e
      have hacc₃ : h₃.PlainList D (List.toArray vs) := hacc.at fun o' e => hsb₃.extBut _ o' hDL (hk₂ _ o' hDw e)
      have hrep₃ : RepL W' h₃ vs (((ys.take i).filter p).map f) := hrep.move (fun b o' hb e => by
        have hbL : b ≠ L := fun q => hb (.inr (.inr (.inl q)))
        have hbw : b ∉ wr := fun q => hb (.inr (.inr (.inr q)))
        exact hsb₃.extBut b o' hbL (hk₂ b o' hbw e)) fun _ n _ => n
      have hns₃ : ∃ m, h₃.Ns L m := by
        cases hsto with
        | loc p q r => exact ⟨_, r⟩
        | cell p q r => rw [hxk] at p; cases p
      obtain ⟨m₃, hns₃⟩ := hns₃
      have kS : ∀ b o, s.heap.get? b = some o → h₃.get? b = some o := fun b o' e => by
        have e2 := kp_heap T.keeps _ _ e
        exact k₃ b o' (fun q => by rw [q, nL] at e2; cases e2) (fun q => by rw [T.new b q] at e; cases e) (fun q => by rw [q, nD] at e2; cases e2) e2
      have nW : ∀ a, ¬ C.W a → (∃ o, s.heap.get? a = some o) → ¬ W' a := fun a hn ⟨o', e⟩ hw => by
        have e2 := kp_heap T.keeps _ _ e
        rcases hw with hw | hw | hw | hw
        · exact hn hw
        · rw [hw, nD] at e2; cases e2
        · rw [hw, nL] at e2; cases e2
        · rw [T.new a hw] at e; cases e
      have rv : Rep W' h₃ v (g ys[i]) := by
        obtain ⟨d, hd, rd⟩ := T.rep i v hP (by rw [lenE]; exact hlt) (hideAll h₃ (D :: L :: wr)) fun b o' hb hbw e => by
          have hbL : b ≠ L := fun q => by rw [q, nL] at e; cases e
          have hbD : b ≠ D := fun q => by rw [q, nD] at e; cases e
          exact hideAll_get _ (k₃ b o' hbL hbw hbD e) (by simp [hbL, hbD, hbw])
        rw [List.getElem?_map, ha] at hd
        have hd' : g ys[i] = d := by simpa using hd
        subst hd'
        refine rd.move (fun b o' _ e => of_hideAll _ e) fun a hn ⟨o', e⟩ hw => ?_
        rcases hw with hw | hw | hw | hw
        · exact hn hw
        · rw [hideAll_none _ (by simp [hw])] at e; cases e
        · rw [hideAll_none _ (by simp [hw])] at e; cases e
        · rw [hideAll_none _ (by simp [hw])] at e; cases e
      have o₃ : Ok (compCx C scope W' L x (g ys[i])) { s₂ with heap := h₃, toks := tk₃ } := by
        refine ⟨wfc, fun y c hy => ?_, o.g.keeps kS, fun a hw => ?_, ?_, o.glob, o.bui, Nat.le_trans o₂.tok htk₃, fun y sl hy => ?_⟩
        · obtain ⟨o', e⟩ := o.cex y c (closOf_back hf hy); exact ⟨o', kS _ _ e⟩
        · rcases hw with hw | hw | hw | hw
          · obtain ⟨o', e⟩ := o.wlt a hw; exact ⟨o', kS _ _ e⟩
          · obtain ⟨n, e⟩ := hacc₃; exact ⟨_, hw ▸ e⟩
          · obtain ⟨o', _, _, e, _⟩ := hns₃; exact ⟨_, hw ▸ e⟩
          · obtain ⟨o', e, _⟩ := T.ex _ _ hst₃ a hw; exact ⟨o', e⟩
        · show (relabel scope C.env).kind = _; exact hkind
        · by_cases hyx : y = x
          · subst hyx
            have : List.lookup y ((y, Slot.sh (g ys[i])) :: C.γ.filter fun p => scope.names.lookup p.1 == some .free) = some sl := hy
            simp at this
            subst this
            exact ⟨v, hbx, rv⟩
          · have h5 : List.lookup y ((x, Slot.sh (g ys[i])) :: C.γ.filter fun p => scope.names.lookup p.1 == some .free) = some sl := hy
            have : (y == x) = false := beq_eq_false_iff_ne.mpr hyx
            rw [List.lookup_cons, this] at h5
            have h6 := lookup_filter (fun p => scope.names.lookup p.1 == some NameKind.free) (fun _ => rfl) h5 (fun _ _ => rfl)
            have hfree : scope.names.lookup y = some .free := beq_iff_eq.mp h6.2
            have hb : ∀ u, Bound C.env s.heap y u → Bound cenv h₃ y u := fun u b => bound_in o.kind hf hfree (b.keeps kS)
            have sv := o.var y sl h6.1
            cases sl with
            | sh d => obtain ⟨u, b, r⟩ := sv; exact ⟨u, hb u b, r.move (fun b o' _ e => kS b o' e) nW⟩
            | ow l => obtain ⟨a, us, b, q, r⟩ := sv; exact ⟨a, us, hb _ b, q.at fun o' e => kS _ o' e, r.move (fun b o' _ e => kS b o' e) nW⟩
            | ro l => obtain ⟨a, us, b, q, r, w⟩ := sv; exact ⟨a, us, hb _ b, q.at fun o' e => kS _ o' e, r.move (fun b o' _ e => kS b o' e) nW, nW a w (let ⟨o', ho, _⟩ := q; ⟨o', ho⟩)⟩
      refine wp_useT (htest ys[i] (List.getElem_mem hlt) W' L _ o₃) fun ok s₄ ht₄ q₄ => ?_
      obtain ⟨K₄, rfl⟩ := q₄
      have o₄ := o₃.keepsS K₄ ht₄
      cases hp : p ys[i] with
      | false =>
        simp only [Bool.false_eq_true, if_false]
        obtain ⟨h₄, tk₄, rfl, hk₄⟩ := K₄
        refine ⟨ys.length + 1 - (i + 1), by omega, i + 1, h₄, tk₄, vs, m₃, rfl, Nat.le_trans htk₃ ht₄, hlt, rfl, T.walks.frame _ _ _ hst₃ fun b _ o' e => hk₄ b o' e, hns₃.keeps hk₄, hacc₃.at fun o' e => hk₄ _ o' e, ?_, Nat.le_succ_of_le hlen, fun b o' h1 h2 h3 e => hk₄ b o' (k₃ b o' h1 h2 h3 e)⟩
        rw [e1, hp]
        simpa using hrep₃.keeps hk₄
      | true =>
        simp only [if_true]
        refine wp_useT (helt ys[i] (List.getElem_mem hlt) hp W' L _ o₄) fun y s₅ ht₅ q₅ => ?_
        obtain ⟨K₅, r₅⟩ := q₅
        have K := kp_trans K₄ K₅
        obtain ⟨h₅, tk₅, rfl, hk₅⟩ := K
        refine wpAny_list_append_plain (hacc₃.at fun o' e => hk₅ _ o' e) (fun h₆ hp₆ hsb₆ => ?_) (by simp; omega)
        refine ⟨ys.length + 1 - (i + 1), by omega, i + 1, h₆, tk₅, vs ++ [y], m₃, rfl, Nat.le_trans htk₃ (Nat.le_trans ht₄ ht₅), hlt, rfl, T.walks.frame _ _ _ hst₃ fun b hb o' e => hsb₆.extBut b o' (fun q => hDf (q ▸ hb)) (hk₅ b o' e),
          (hns₃.keeps hk₅).sameBut hsb₆ (Ne.symm hDL), by simpa using hp₆, ?_, by simp; omega, fun b o' h1 h2 h3 e => hsb₆.extBut b o' h3 (hk₅ b o' (k₃ b o' h1 h2 h3 e))⟩
        rw [e1, hp, if_pos rfl, List.map_append]
        have up : ∀ b o', ¬ W' b → h₅.get? b = some o' → h₆.get? b = some o' := fun b o' hb e => hsb₆.extBut b o' (fun q => hb (.inr (.inl q))) e
        exact RepL.snoc ((hrep₃.keeps hk₅).move up fun _ n _ => n) (Rep.move up (fun _ n _ => n) r₅)
    · have hin : i = ys.length := by omega
      subst hin
      refine wpAny_with_toks (n := s₂.toks) htk (T.walks.done _ _ _ (by rw [lenE]; exact hst) fun h₂ tk₂ hk₂ htk₂ => ?_)
      refine hend D L _ (Nat.le_trans ht₁ (Nat.le_trans ht₂ htk₂)) ⟨?_, ?_, ?_, hDL, ⟨m, hns.at' fun o' e => hk₂ _ o' hLw e⟩, vs, hacc.at fun o' e => hk₂ _ o' hDw e, ?_⟩
      · obtain ⟨h₀, t₀, e₀, k₀⟩ := T.keeps
        refine ⟨h₂, tk₂, by rw [e₀], fun b o' e => ?_⟩
        have e2 : s₂.heap.get? b = some o' := by rw [e₀]; exact k₀ b o' e
        have hbw : b ∉ wr := fun q => by rw [T.new b q] at e; cases e
        exact hk₂ b o' hbw (hkp b o' (fun q => by rw [q, nL] at e2; cases e2) hbw (fun q => by rw [q, nD] at e2; cases e2) e2)
      · cases q : s.heap.get? D with
        | none => rfl
        | some o' => rw [kp_heap T.keeps _ _ q] at nD; cases nD
      · cases q : s.heap.get? L with
        | none => rfl
        | some o' => rw [kp_heap T.keeps _ _ q] at nL; cases nL
      · have : RepL W' h₂ vs ((ys.filter p).map f) := by
          have := hrep.move (W' := W') (h' := h₂) (fun b o' hb e => hk₂ b o' (fun q => hb (.inr (.inr (.inr q)))) e) fun _ n _ => n
          rwa [List.take_of_length_le (Nat.le_refl _)] at this
        exact this.less fun a q => by
          rcases q with q | q | q
          · exact .inl q
          · exact .inr (.inl q)
          · exact .inr (.inr (.inl q))
  exact codeAny_compStart_list (loop _ rfl) (T.walks.self 0 _ _ _ (T.walks.frame _ _ _ T.start fun b _ o' e => old b o' e) (loop _ rfl))
end
end Mine
end

section
open PySem PySem.Calls PySem.W PyProof.Rows
set_option maxRecDepth 100000
set_option linter.unusedVariables false
namespace Mine

section
variable {C : Cx}
/-- an expression that makes a new list -/
def EvN (C : Cx) (e : PySem.Expr) (ds : List PyData) : Prop :=
  ∀ s : Shared, Ok C s → wpAny (model C.prog C.w) C.A (eval e C.env) (fun v s' => ∃ D vs, v = .ref D ∧ Keeps s s' ∧ s.heap.get? D = none ∧ s'.heap.PlainList D (List.toArray vs) ∧ RepL (fun a => C.W a ∨ a = D) s'.heap vs ds) (fun _ _ => False) s
theorem EvN.ev {e ds} (h : EvN C e ds) : Ev C e (.list ds) := fun s o => wp_use (h s o) fun v s' q => by
  obtain ⟨D, vs, rfl, k, n, hp, hr⟩ := q
  exact ⟨k, .list hp (o.notW n) (hr.less fun a q => .inl q)⟩
theorem EvN.comp {α : Type} {elt iter : PySem.Expr} {x : Str} {px : Pos} {ifs : List PySem.Expr} {scope : Scope} {pos : Pos} {ys : List α} {g f : α → PyData} {p : α → Bool}
    (hit : It C iter (ys.map g)) (hsz : ys.length ≤ sizeLine)
    (htest : ∀ a ∈ ys, ∀ W' c, TrL (compCx C scope W' c x (g a)) ifs (p a)) (helt : ∀ a ∈ ys, p a = true → ∀ W' c, Ev (compCx C scope W' c x (g a)) elt (f a))
    (hf : freeOk scope C.env = true := by rfl) (hkind : scope.kind = .function := by rfl) (hnames : ∀ x ∈ scope.names, x.2 = .local → scope.names.lookup x.1 = some .local := by decide) (hx : scope.names.lookup x = some .local := by rfl)
    (hcell : ∀ y ∈ scope.names, y.2 ≠ .cell := by decide) (hs : ∀ x, foldedSetIterable iter C.env x = pure x := by intro _; rfl) :
    EvN C (.ListComp elt [⟨.Name x px, iter, ifs, 0⟩] scope pos) ((ys.filter p).map f) := fun s o => by
  rw [eval_ListComp]
  refine comp_core o hit hf hkind hnames hx hcell hsz htest helt hs (use := none) fun D L s' ht ce => ?_
  obtain ⟨m, hns⟩ := ce.ns
  obtain ⟨vs, hp, hr⟩ := ce.out
  refine ⟨m, hns, fun h' hsb => ⟨D, vs, rfl, ?_, ce.newD, hp.extBut hsb.extBut ce.ne, ?_⟩⟩
  · obtain ⟨h'', tk, rfl, k⟩ := ce.keeps
    refine ⟨h', tk, rfl, fun b o' e => hsb.extBut b o' (fun q => ?_) (k b o' e)⟩
    rw [q, ce.newL] at e; cases e
  · refine (hr.move (W' := fun a => C.W a ∨ a = D ∨ a = L) (h' := h') (fun b o' hb e => hsb.extBut b o' (fun q => hb (.inr (.inr q))) e) fun _ n _ => n).less fun a q => ?_
    rcases q with q | q
    · exact .inl q
    · exact .inr (.inl q)
theorem EvN.listd {es pos ds} (h : EvL C es ds) (hsz : ds.length ≤ sizeLine) : EvN C (.List es pos) ds := fun s o =>
  List_ (wp_useT (h s pos o) fun vs s₁ ht q => wpAny_newList (by
    have nD : s₁.heap.get? s₁.heap.objs.size = none := fresh_none (Nat.le_refl _)
    refine ⟨_, vs, rfl, kp_trans q.1 (kp_push _ _), ?_, ⟨_, Heap.get?_push_size _ rfl⟩, q.2.move (fun b o' _ e => Heap.get?_push_of_some _ e) fun a n ⟨o', e⟩ hw => ?_⟩
    · cases r : s.heap.get? s₁.heap.objs.size with
      | none => rfl
      | some o' => rw [kp_heap q.1 _ _ r] at nD; cases nD
    · rcases hw with hw | hw
      · exact n hw
      · rw [hw, nD] at e; cases e) (by rw [q.2.length]; exact hsz))
theorem EvN.mul_one {e e' pos d} {n : Int} (h : Ev C e (.list [d])) (h' : Ev C e' (.int n)) (h0 : 0 ≤ n) (hsz : n ≤ 2 ^ 24) : EvN C (.BinOp e .Mult e' pos) (List.replicate n.toNat d) := fun s o =>
  wpAny_BinOp (h.use o fun v₁ s₁ k₁ o₁ r₁ => h'.use o₁ fun v₂ s₂ k₂ o₂ r₂ => by
    have r₁' := r₁.keeps (kp_heap k₂)
    cases r₁'
    cases r₂
    rename_i a vs hl hw hr t
    cases hr with
    | cons r q =>
      cases q
      rename_i v
      have nD : s₂.heap.get? s₂.heap.objs.size = none := fresh_none (Nat.le_refl _)
      refine wp_mul_list hl (by omega) (by omega) (by simp; omega) ⟨_, List.replicate n.toNat v, rfl, kp_trans k₁ (kp_trans k₂ (kp_push _ _)), ?_, ?_, ?_⟩
      · cases r : s.heap.get? s₂.heap.objs.size with
        | none => rfl
        | some o' => rw [kp_heap (kp_trans k₁ k₂) _ _ r] at nD; cases nD
      · have e : (List.toArray [v]).isEmpty = false := rfl
        rw [e, if_neg Bool.false_ne_true, show List.toArray [v] = #[v] from rfl, rep_arrays, Array.empty_append]
        exact ⟨_, Heap.get?_push_size _ rfl⟩
      · refine RepL.replicate (r.move (fun b o' _ e => Heap.get?_push_of_some _ e) fun a n ⟨o', e⟩ hw => ?_) _
        rcases hw with hw | hw
        · exact n hw
        · rw [hw, nD] at e; cases e)
end

/-! ## frames -/
structure Fcx where
  prog : Program
  w : World
  K : Frag
  mg : Str → Option Value
  mb : Str → Option Value
  A : Around
  env : Env
  s₀ : Shared
  W₀ : Addr → Prop
@[reducible] def Fcx.cx (F : Fcx) (W : Addr → Prop) (γ : Gam) : Cx := ⟨F.prog, F.w, F.K, F.mg, F.mb, F.A, F.env, W, γ⟩

structure Fs (F : Fcx) (W : Addr → Prop) (own : Str → Addr) (γ : Gam) (s : Shared) : Prop where
  ok : Ok (F.cx W γ) s
  g₀ : GH F.K F.mg F.mb F.s₀.heap
  w₀ : ∀ a, F.W₀ a → ∃ o, F.s₀.heap.get? a = some o
  base : Keeps F.s₀ s
  up : ∀ a, F.W₀ a → W a
  new : ∀ a, W a → F.W₀ a ∨ F.s₀.heap.get? a = none
  locW : W F.env.locals
  locN : F.s₀.heap.get? F.env.locals = none
  ns : ∃ m, s.heap.Ns F.env.locals m
  cel : ∀ x c, F.env.cells.lookup x = some c → W c ∧ F.s₀.heap.get? c = none ∧ ∃ v, s.heap.IsCell c v
  ownB : ∀ x l, γ.lookup x = some (.ow l) → Bound F.env s.heap x (.ref (own x)) ∧ W (own x) ∧ F.s₀.heap.get? (own x) = none
  inj : ∀ x y l l', x ≠ y → γ.lookup x = some (.ow l) → γ.lookup y = some (.ow l') → own x ≠ own y

theorem Bound.same {env : Env} {h : Heap} {x : Str} {u v : Value} (a : Bound env h x u) (b : Bound env h x v) : u = v := by
  have ic : ∀ {c : Addr} {p q : Option Value}, h.IsCell c p → h.IsCell c q → p = q := by
    rintro c p q ⟨o, ho, hd⟩ ⟨o', ho', hd'⟩
    rw [ho] at ho'; cases ho'; rw [hd] at hd'; cases hd'; rfl
  cases a with
  | loc p q r => cases b with
    | loc p' q' r' => rw [q.agree q', r'] at r; cases r; rfl
    | cell p' _ _ => rw [p] at p'; cases p'
    | free p' _ _ => rw [p] at p'; cases p'
  | cell p q r => cases b with
    | loc p' q' r' => rw [p] at p'; cases p'
    | cell p' q' r' => rw [q] at q'; cases q'; exact Option.some.inj (ic r r')
    | free p' _ _ => rw [p] at p'; cases p'
  | free p q r => cases b with
    | loc p' q' r' => rw [p] at p'; cases p'
    | cell p' _ _ => rw [p] at p'; cases p'
    | free p' q' r' => rw [q] at q'; cases q'; exact Option.some.inj (ic r r')
theorem Storable.ne_list {env : Env} {h : Heap} {x : Str} {a b : Addr} {vs : Array Value} (q : Storable env h x a) (hl : h.IsList b vs) : b ≠ a := by
  obtain ⟨o, ho, _, n, hd⟩ := hl
  intro e; subst e
  cases q with
  | loc p e n => subst e; obtain ⟨o', es, ep, ho', hd', _⟩ := n; rw [ho] at ho'; cases ho'; rw [hd] at hd'; cases hd'
  | cell p e n => obtain ⟨o', ho', hd'⟩ := n; rw [ho] at ho'; cases ho'; rw [hd] at hd'; cases hd'

def refAddr : Value → Addr
  | .ref a => a
  | _ => 0
def stOk (env : Env) (x : Str) : Bool := env.kindOf x == some .local || (env.kindOf x == some .cell && (env.cells.lookup x).isSome)

section
variable {F : Fcx} {W : Addr → Prop} {own : Str → Addr} {γ : Gam} {s : Shared}

theorem Fs.keeps {s' : Shared} (fs : Fs F W own γ s) (k : Keeps s s') (ht : s.toks ≤ s'.toks) : Fs F W own γ s' :=
  { fs with
    ok := fs.ok.keepsS k ht
    base := kp_trans fs.base k
    ns := let ⟨m, h⟩ := fs.ns; ⟨m, h.keeps (kp_heap k)⟩
    cel := fun x c h => let ⟨a, b, v, d⟩ := fs.cel x c h; ⟨a, b, v, d.keeps (kp_heap k)⟩
    ownB := fun x l h => let ⟨a, b⟩ := fs.ownB x l h; ⟨a.keeps (kp_heap k), b⟩ }

theorem Fs.storable (fs : Fs F W own γ s) {x : Str} (hx : stOk F.env x = true) : ∃ a, Storable F.env s.heap x a ∧ W a ∧ F.s₀.heap.get? a = none ∧ (a = F.env.locals ∨ ∃ z, F.env.cells.lookup z = some a) := by
  unfold stOk at hx
  simp only [Bool.or_eq_true, beq_iff_eq, Bool.and_eq_true] at hx
  rcases hx with hx | ⟨hx, hc⟩
  · obtain ⟨m, hn⟩ := fs.ns; exact ⟨_, .loc hx rfl hn, fs.locW, fs.locN, .inl rfl⟩
  · obtain ⟨c, hc⟩ := Option.isSome_iff_exists.mp hc
    obtain ⟨a, b, v, d⟩ := fs.cel x c hc
    exact ⟨c, .cell hx hc d, a, b, .inr ⟨x, hc⟩⟩

/-- fewer names known -/
theorem Fs.fewer {γ' : Gam} (fs : Fs F W own γ s) (h : ∀ x sl, γ'.lookup x = some sl → γ.lookup x = some sl) : Fs F W own γ' s :=
  { fs with
    ok := ⟨fs.ok.wf, fs.ok.cex, fs.ok.g, fs.ok.wlt, fs.ok.kind, fs.ok.glob, fs.ok.bui, fs.ok.tok, fun x sl e => by
      have := fs.ok.var x sl (h x sl e)
      cases sl <;> exact this⟩
    ownB := fun x l e => fs.ownB x l (h x _ e)
    inj := fun x y l l' n e e' => fs.inj x y l l' n (h x _ e) (h y _ e') }

/-- a heap that differs at one written place alone -/
theorem Fs.changed {h' : Heap} {tk : Nat} {a : Addr} (fs : Fs F W own γ s) (hW : W a) (hN : F.s₀.heap.get? a = none) (hsb : Heap.SameBut a s.heap h') (hex : ∃ o, h'.get? a = some o) :
    (∀ b o, ¬ W b → s.heap.get? b = some o → h'.get? b = some o) ∧ Keeps F.s₀ { s with heap := h', toks := tk } ∧ (∀ b, (∃ o, s.heap.get? b = some o) → ∃ o, h'.get? b = some o) := by
  refine ⟨fun b o hb e => hsb.extBut b o (fun q => hb (q ▸ hW)) e, ?_, fun b ⟨o, e⟩ => ?_⟩
  · obtain ⟨h₁, t₁, e₁, k₁⟩ := fs.base
    refine ⟨h', tk, by rw [e₁], fun b o e => hsb.extBut b o (fun q => by rw [q, hN] at e; cases e) (kp_heap fs.base b o e)⟩
  · by_cases q : b = a
    · subst q; exact hex
    · exact ⟨o, hsb.extBut b o q e⟩

/-- what the value of a slot is -/
inductive SV (F : Fcx) (W : Addr → Prop) (h : Heap) (v : Value) : Slot → Prop
  | sh {d} : Rep W h v d → SV F W h v (.sh d)
  | ow {a vs l} : v = .ref a → h.PlainList a (List.toArray vs) → RepL W h vs l → W a → F.s₀.heap.get? a = none → SV F W h v (.ow l)

theorem Fs.store {x : Str} {v : Value} {sl : Slot} {Q : Unit → Shared → Prop} {E : Value → Shared → Prop} (fs : Fs F W own γ s) (hx : stOk F.env x = true) (sv : SV F W s.heap v sl)
    (hap : ∀ a l y l', v = .ref a → sl = .ow l → y ≠ x → γ.lookup y = some (.ow l') → own y ≠ a)
    (h : ∀ own' h' tk b, Fs F W own' ((x, sl) :: γ) { s with heap := h', toks := tk } → (∀ y, y ≠ x → own' y = own y) → (∀ a l, v = .ref a → sl = .ow l → own' x = a) → Heap.SameBut b s.heap h' → W b → (∀ c vs, s.heap.IsList c vs → c ≠ b) → (b = F.env.locals ∨ ∃ z, F.env.cells.lookup z = some b) → Q () { s with heap := h', toks := tk }) :
    wpAny (model F.prog F.w) F.A (storeName F.env x v) Q E s := by
  obtain ⟨b, st, hW, hN, hB⟩ := fs.storable hx
  refine wpAny_with_toks (n := s.toks) (Nat.le_refl _) (wp_store fs.ok.wf fs.ok.kind st fun h' tk hsb st' bx by' htk => ?_)
  obtain ⟨kW, kB, kE⟩ := fs.changed (tk := tk) hW hN hsb st'.some
  have neL : ∀ c vs, s.heap.IsList c vs → c ≠ b := fun c vs hl => st.ne_list hl
  have ex : ∀ a, W a → ∃ o, h'.get? a = some o := fun a q => kE a (fs.ok.wlt a q)
  -- the slots
  have nx : ∀ y sl', List.lookup y ((x, sl) :: γ) = some sl' → (y = x ∧ sl' = sl) ∨ (y ≠ x ∧ γ.lookup y = some sl') := fun y sl' e => by
    rw [List.lookup_cons] at e
    cases hb : y == x with
    | true => rw [hb] at e; cases e; exact .inl ⟨beq_iff_eq.mp hb, rfl⟩
    | false => rw [hb] at e; exact .inr ⟨beq_eq_false_iff_ne.mp hb, e⟩
  let own' : Str → Addr := fun y => if y = x then refAddr v else own y
  have ownx : ∀ y, y ≠ x → own' y = own y := fun y hy => if_neg hy
  have var : ∀ y sl', List.lookup y ((x, sl) :: γ) = some sl' → SlotOk (F.cx W ((x, sl) :: γ)) h' y sl' := fun y sl' e => by
    rcases nx y sl' e with ⟨rfl, rfl⟩ | ⟨hy, e⟩
    · cases sv with
      | sh r => exact ⟨v, bx, r.move kW fun _ n _ => n⟩
      | ow ev hp hr hw hn => subst ev; exact ⟨_, _, bx, hp.at fun o e => hsb.extBut _ o (neL _ _ hp.isList) e, hr.move kW fun _ n _ => n⟩
    · have sv' := fs.ok.var y sl' e
      cases sl' with
      | sh d => obtain ⟨u, q, r⟩ := sv'; exact ⟨u, by' y u hy q, r.move kW fun _ n _ => n⟩
      | ow l => obtain ⟨a, us, q, hp, r⟩ := sv'; exact ⟨a, us, by' y _ hy q, hp.at fun o e => hsb.extBut _ o (neL _ _ hp.isList) e, r.move kW fun _ n _ => n⟩
      | ro l => obtain ⟨a, us, q, hp, r, w⟩ := sv'; exact ⟨a, us, by' y _ hy q, hp.at fun o e => hsb.extBut _ o (neL _ _ hp) e, r.move kW fun _ n _ => n, w⟩
  refine h own' h' tk b ⟨⟨fs.ok.wf, fun y c e => ?_, fs.g₀.keeps (kp_heap kB), ex, fs.ok.kind, fs.ok.glob, fs.ok.bui, Nat.le_trans fs.ok.tok htk, var⟩, fs.g₀, fs.w₀, kB, fs.up, fs.new, fs.locW, fs.locN, ?_, ?_, ?_, ?_⟩ ownx ?_ hsb hW neL hB
  · exact kE c (fs.ok.cex y c e)
  · obtain ⟨m, hn⟩ := fs.ns
    cases st with
    | loc p q r => subst q; cases st' with
      | loc p' q' r' => exact ⟨_, r'⟩
      | cell p' q' r' => rw [p] at p'; cases p'
    | cell p q r => exact ⟨m, hn.sameBut hsb (Ne.symm (fs.ok.wf.ne _ _ q))⟩
  · intro y c e
    obtain ⟨p, q, u, r⟩ := fs.cel y c e
    refine ⟨p, q, ?_⟩
    by_cases hcb : c = b
    · subst hcb
      cases st' with
      | loc p' q' r' => subst q'; exact absurd rfl (fs.ok.wf.ne _ _ e)
      | cell p' q' r' => exact ⟨_, r'⟩
    · exact ⟨u, r.sameBut hsb hcb⟩
  · intro y l e
    rcases nx y _ e with ⟨rfl, e'⟩ | ⟨hy, e⟩
    · cases sv with
      | sh r => cases e'
      | ow ev hp hr hw hn => subst ev; simp only [own', if_true, refAddr]; exact ⟨bx, hw, hn⟩
    · rw [ownx y hy]
      obtain ⟨p, q, r⟩ := fs.ownB y l e
      exact ⟨by' y _ hy p, q, r⟩
  · intro y z l l' hyz e e'
    rcases nx y _ e with ⟨rfl, e1⟩ | ⟨hy, e1⟩ <;> rcases nx z _ e' with ⟨rfl, e2⟩ | ⟨hz, e2⟩
    · exact absurd rfl hyz
    · rw [ownx z hz]
      cases sv with
      | sh r => cases e1
      | ow ev hp hr hw hn => subst ev; simp only [own', if_true, refAddr]; exact (hap _ _ z l' rfl rfl hz e2).symm
    · rw [ownx y hy]
      cases sv with
      | sh r => cases e2
      | ow ev hp hr hw hn => subst ev; simp only [own', if_true, refAddr]; exact hap _ _ y l rfl rfl hy e1
    · rw [ownx y hy, ownx z hz]; exact fs.inj y z l l' hyz e1 e2
  · intro a l ev esl; subst ev; simp [own', refAddr]
/-- places that are no one's are written: no list, no tuple, no frame -/
theorem Fs.poke {h' : Heap} {tk : Nat} (fs : Fs F W own γ s) (ht : s.toks ≤ tk) (hseq : ∀ b o xs n, s.heap.get? b = some o → o.data = .seq xs n → h'.get? b = some o)
    (hL : ∀ o, s.heap.get? F.env.locals = some o → h'.get? F.env.locals = some o) (hC : ∀ x c, F.env.cells.lookup x = some c → ∀ o, s.heap.get? c = some o → h'.get? c = some o)
    (hB : ∀ b o, F.s₀.heap.get? b = some o → h'.get? b = some o) (hW : ∀ a, W a → ∃ o, h'.get? a = some o) : Fs F W own γ { s with heap := h', toks := tk } := by
  have kB : Keeps F.s₀ { s with heap := h', toks := tk } := by
    obtain ⟨h₁, t₁, e₁, k₁⟩ := fs.base
    exact ⟨h', tk, by rw [e₁], hB⟩
  have bd : ∀ x u, Bound F.env s.heap x u → Bound F.env h' x u := fun x u b => by
    cases b with
    | loc p q r => exact .loc p (q.at' hL) r
    | cell p q r => obtain ⟨o, e, d⟩ := r; exact .cell p q ⟨o, hC _ _ q o e, d⟩
    | free p q r => obtain ⟨o, e, d⟩ := r; exact .free p q ⟨o, hC _ _ q o e, d⟩
  refine ⟨⟨fs.ok.wf, fun y c e => let ⟨o, h⟩ := fs.ok.cex y c e; ⟨o, hC y c e o h⟩, fs.g₀.keeps hB, hW, fs.ok.kind, fs.ok.glob, fs.ok.bui, Nat.le_trans fs.ok.tok ht, fun y sl e => ?_⟩, fs.g₀, fs.w₀, kB, fs.up, fs.new, fs.locW, fs.locN, ?_, ?_, ?_, fs.inj⟩
  · have sv := fs.ok.var y sl e
    cases sl with
    | sh d => obtain ⟨u, q, r⟩ := sv; exact ⟨u, bd y u q, r.moveS hseq⟩
    | ow l => obtain ⟨c, us, q, ⟨n, hp⟩, r⟩ := sv; exact ⟨c, us, bd y _ q, ⟨n, hseq _ _ _ _ hp rfl⟩, r.moveS hseq⟩
    | ro l => obtain ⟨c, us, q, ⟨o, ho, hc, n, hd⟩, r, w⟩ := sv; exact ⟨c, us, bd y _ q, ⟨o, hseq _ _ _ _ ho hd, hc, n, hd⟩, r.moveS hseq, w⟩
  · obtain ⟨m, hn⟩ := fs.ns; exact ⟨m, hn.at' hL⟩
  · intro x c e
    obtain ⟨p, q, v, o, ho, hd⟩ := fs.cel x c e
    exact ⟨p, q, v, o, hC x c e o ho, hd⟩
  · intro x l e
    obtain ⟨p, q⟩ := fs.ownB x l e
    exact ⟨bd _ _ p, q⟩
end
end Mine
end

section
open PySem PySem.Calls PySem.W PyProof.Rows
set_option maxRecDepth 100000
set_option linter.unusedVariables false
namespace Mine

/-- what a stretch of statements leaves alone -/
structure Go (W : Addr → Prop) (s : Shared) (W' : Addr → Prop) (s' : Shared) : Prop where
  pres : ∀ b o, ¬ W b → s.heap.get? b = some o → s'.heap.get? b = some o
  newW : ∀ a, W' a → W a ∨ s.heap.get? a = none
  ex : ∀ b, (∃ o, s.heap.get? b = some o) → ∃ o, s'.heap.get? b = some o
  same : ∃ h tk, s' = { s with heap := h, toks := tk }
theorem Go.refl {W : Addr → Prop} {s : Shared} : Go W s W s := ⟨fun _ _ _ e => e, fun _ q => .inl q, fun _ e => e, _, _, rfl⟩
theorem Go.ofKeeps {W : Addr → Prop} {s s' : Shared} (k : Keeps s s') : Go W s W s' := by
  obtain ⟨h, t, rfl, k⟩ := k
  exact ⟨fun b o _ e => k b o e, fun _ q => .inl q, fun b ⟨o, e⟩ => ⟨o, k b o e⟩, _, _, rfl⟩
theorem Go.trans {W W' W'' : Addr → Prop} {s s' s'' : Shared} (a : Go W s W' s') (b : Go W' s' W'' s'') : Go W s W'' s'' := by
  refine ⟨fun c o hc e => b.pres c o (fun q => ?_) (a.pres c o hc e), fun c q => ?_, fun c q => b.ex c (a.ex c q), ?_⟩
  · rcases a.newW c q with q | q
    · exact hc q
    · rw [q] at e; cases e
  · rcases b.newW c q with q | q
    · exact a.newW c q
    · refine .inr ?_
      cases r : s.heap.get? c with
      | none => rfl
      | some o => obtain ⟨o', e⟩ := a.ex c ⟨o, r⟩; rw [q] at e; cases e
  · obtain ⟨h, t, rfl⟩ := a.same
    obtain ⟨h', t', rfl⟩ := b.same
    exact ⟨h', t', rfl⟩

inductive Out where
  | next (γ : Gam)
  | ret (d : PyData)

def OutOk (F : Fcx) (W : Addr → Prop) (s : Shared) : Out → Flow → Shared → Prop
  | .next γ, f, s' => f = .next ∧ ∃ W' own, Fs F W' own γ s' ∧ Go W s W' s'
  | .ret d, f, s' => ∃ v, f = .ret v ∧ Keeps F.s₀ s' ∧ Rep F.W₀ s'.heap v d

def Ex (F : Fcx) (γ : Gam) (t : Sem Flow) (P : Out → Prop) : Prop :=
  ∀ W own s, Fs F W own γ s → wpAny (model F.prog F.w) F.A t (fun f s' => ∃ out, P out ∧ OutOk F W s out f s') (fun _ _ => False) s

section
variable {F : Fcx} {γ : Gam} {P : Out → Prop}

theorem Ex.mono {t : Sem Flow} {P' : Out → Prop} (h : Ex F γ t P') (hp : ∀ o, P' o → P o) : Ex F γ t P := fun W own s fs =>
  wp_use (h W own s fs) fun f s' ⟨o, p, q⟩ => ⟨o, hp o p, q⟩
theorem Ex.nil (h : P (.next γ)) : Ex F γ (execs [] F.env) P := fun W own s fs => wpAny_execs_nil ⟨_, h, rfl, W, own, fs, .refl⟩
theorem Ex.cons {st rest} (h : Ex F γ (exec st F.env) (fun out => match out with | .next γ' => Ex F γ' (execs rest F.env) P | .ret d => P (.ret d))) : Ex F γ (execs (st :: rest) F.env) P := fun W own s fs =>
  wpAny_execs_cons (wp_use (h W own s fs) fun f s' ⟨out, p, q⟩ => by
    cases out with
    | next γ' =>
      obtain ⟨rfl, W', own', fs', g⟩ := q
      refine wp_use (p W' own' s' fs') fun f s'' ⟨out, p, q⟩ => ⟨out, p, ?_⟩
      cases out with
      | next γ'' => obtain ⟨e, W'', own'', fs'', g'⟩ := q; exact ⟨e, W'', own'', fs'', g.trans g'⟩
      | ret d => exact q
    | ret d =>
      obtain ⟨v, rfl, q⟩ := q
      exact ⟨_, p, v, rfl, q⟩)
theorem Ex.fewer {γ' : Gam} {t : Sem Flow} (hf : ∀ x sl, γ'.lookup x = some sl → γ.lookup x = some sl) (h : Ex F γ' t P) : Ex F γ t P := fun W own s fs => h W own s (fs.fewer hf)

theorem Go.ofStore {W : Addr → Prop} {s : Shared} {h' : Heap} {tk : Nat} {b : Addr} (hsb : Heap.SameBut b s.heap h') (hW : W b) (ex : ∀ a, (∃ o, s.heap.get? a = some o) → ∃ o, h'.get? a = some o) : Go W s W { s with heap := h', toks := tk } :=
  ⟨fun c o hc e => hsb.extBut c o (fun q => hc (q ▸ hW)) e, fun _ q => .inl q, ex, _, _, rfl⟩

/-! ## simple statements -/
theorem Ex.ret {e pos d} (he : ∀ W, Ev (F.cx W γ) e d) (h : P (.ret d)) : Ex F γ (exec (.Return (some e) pos) F.env) P := fun W own s fs =>
  wpAny_Return_some ((he W).use fs.ok fun v s' k o' r => ⟨_, h, v, rfl, kp_trans fs.base k, r.less fs.up⟩)

theorem Fs.wltS {W own s} (fs : Fs F W own γ s) {h' : Heap} {b : Addr} (hsb : Heap.SameBut b s.heap h') (hb : W b) (hb' : ∀ a, W a → ∃ o, h'.get? a = some o) : ∀ a, (∃ o, s.heap.get? a = some o) → ∃ o, h'.get? a = some o := fun a ⟨o, e⟩ => by
  by_cases q : a = b
  · exact q ▸ hb' b hb
  · exact ⟨o, hsb.extBut a o q e⟩

theorem Ex.assign {x px e pos d} (he : ∀ W, Ev (F.cx W γ) e d) (h : P (.next ((x, .sh d) :: γ))) (hx : stOk F.env x = true := by rfl)
    (hs : swapsWith e (some (.Name x px)) pos.line F.env = pure false := by rfl) : Ex F γ (exec (.Assign [.Name x px] e pos) F.env) P := fun W own s fs =>
  wpAny_Assign_Name (wp_useT (he W s fs.ok) fun v s₁ ht ⟨k, r⟩ => by
    have fs₁ := fs.keeps k ht
    refine fs₁.store hx (.sh r) (fun a l y l' _ e => by cases e) fun own' h' tk b fs₂ _ _ hsb hW _ _ => ?_
    refine ⟨_, h, rfl, W, own', fs₂, (Go.ofKeeps k).trans (Go.ofStore hsb hW (fs₁.wltS hsb hW fs₂.ok.wlt))⟩) hs

/-- what is new may be written -/
theorem Fs.more {W W' : Addr → Prop} {own : Str → Addr} {s : Shared} (fs : Fs F W own γ s) (hup : ∀ a, W a → W' a) (hnew : ∀ a, W' a → W a ∨ ((∃ o, s.heap.get? a = some o) ∧ F.s₀.heap.get? a = none ∧ ∀ x sl, γ.lookup x = some sl → SlotOk (F.cx W' γ) s.heap x sl))
    (hsl : ∀ x sl, γ.lookup x = some sl → SlotOk (F.cx W' γ) s.heap x sl) : Fs F W' own γ s :=
  { fs with
    ok := ⟨fs.ok.wf, fs.ok.cex, fs.ok.g, fun a q => (hnew a q).elim (fs.ok.wlt a) fun r => r.1, fs.ok.kind, fs.ok.glob, fs.ok.bui, fs.ok.tok, hsl⟩
    up := fun a q => hup a (fs.up a q)
    new := fun a q => (hnew a q).elim (fs.new a) fun r => .inr r.2.1
    locW := hup _ fs.locW
    cel := fun x c e => let ⟨p, q⟩ := fs.cel x c e; ⟨hup _ p, q⟩
    ownB := fun x l e => let ⟨p, q, r⟩ := fs.ownB x l e; ⟨p, hup _ q, r⟩ }
/-- the slots that stood before know nothing of a new address -/
theorem SlotOk.grown {W W' : Addr → Prop} {s s' : Shared} {x : Str} {sl : Slot} (q : SlotOk (F.cx W γ) s.heap x sl) (k : Keeps s s') (hnew : ∀ a, W' a → W a ∨ s.heap.get? a = none) : SlotOk (F.cx W' γ) s'.heap x sl := by
  have mv : ∀ a, ¬ W a → (∃ o, s.heap.get? a = some o) → ¬ W' a := fun a n ⟨o, e⟩ hw => by
    rcases hnew a hw with r | r
    · exact n r
    · rw [r] at e; cases e
  cases sl with
  | sh d => obtain ⟨u, b, r⟩ := q; exact ⟨u, b.keeps (kp_heap k), r.move (fun b o _ e => kp_heap k b o e) mv⟩
  | ow l => obtain ⟨a, us, b, p, r⟩ := q; exact ⟨a, us, b.keeps (kp_heap k), p.at fun o e => kp_heap k _ o e, r.move (fun b o _ e => kp_heap k b o e) mv⟩
  | ro l => obtain ⟨a, us, b, p, r, w⟩ := q; exact ⟨a, us, b.keeps (kp_heap k), p.at fun o e => kp_heap k _ o e, r.move (fun b o _ e => kp_heap k b o e) mv, mv a w (let ⟨o', ho, _⟩ := p; ⟨o', ho⟩)⟩

theorem Fs.grow {W W' : Addr → Prop} {own : Str → Addr} {s s' : Shared} (fs : Fs F W own γ s) (k : Keeps s s') (ht : s.toks ≤ s'.toks) (hup : ∀ a, W a → W' a) (hnew : ∀ a, W' a → W a ∨ s.heap.get? a = none) (hex : ∀ a, W' a → ∃ o, s'.heap.get? a = some o) : Fs F W' own γ s' := by
  have fs' := fs.keeps k ht
  have hb : ∀ a, s.heap.get? a = none → F.s₀.heap.get? a = none := fun a n => by
    cases q : F.s₀.heap.get? a with
    | none => rfl
    | some o => rw [kp_heap fs.base _ _ q] at n; cases n
  have hsl : ∀ x sl, γ.lookup x = some sl → SlotOk (F.cx W' γ) s'.heap x sl := fun x sl e => (fs.ok.var x sl e).grown k hnew
  exact fs'.more hup (fun a q => (hnew a q).imp id fun r => ⟨hex a q, hb a r, hsl⟩) hsl

/-- a new list, from now on written by the frame -/
theorem Ex.assignN {x px e pos ds} (he : ∀ W, EvN (F.cx W γ) e ds) (h : P (.next ((x, .ow ds) :: γ))) (hx : stOk F.env x = true := by rfl)
    (hs : swapsWith e (some (.Name x px)) pos.line F.env = pure false := by rfl) : Ex F γ (exec (.Assign [.Name x px] e pos) F.env) P := fun W own s fs =>
  wpAny_Assign_Name (wp_useT (he W s fs.ok) fun v s₁ ht ⟨D, vs, ev, k, nD, hp, hr⟩ => by
    subst ev
    have fs₁ : Fs F (fun a => W a ∨ a = D) own γ s₁ := fs.grow k ht (fun a q => .inl q) (fun a q => q.imp id fun (r : a = D) => r ▸ nD) fun a q => by
      rcases q with q | q
      · obtain ⟨o, e⟩ := fs.ok.wlt a q; exact ⟨o, kp_heap k _ _ e⟩
      · obtain ⟨n, e⟩ := hp; exact ⟨_, q ▸ e⟩
    have nD0 : F.s₀.heap.get? D = none := by
      cases q : F.s₀.heap.get? D with
      | none => rfl
      | some o => rw [kp_heap fs.base _ _ q] at nD; cases nD
    refine fs₁.store hx (.ow rfl hp hr (.inr rfl) nD0) (fun a l y l' ev _ hy e => ?_) fun own' h' tk b fs₂ _ _ hsb hW _ _ => ?_
    · cases ev
      obtain ⟨_, q, _⟩ := fs.ownB y l' e
      obtain ⟨o, e'⟩ := fs.ok.wlt _ q
      intro q'; rw [q', nD] at e'; cases e'
    · refine ⟨_, h, rfl, _, own', fs₂, Go.trans (W' := fun a => W a ∨ a = D) (s' := s₁) ?_ (Go.ofStore hsb hW (fs₁.wltS hsb hW fs₂.ok.wlt))⟩
      have g := Go.ofKeeps (W := W) k
      exact ⟨g.pres, fun a q => q.imp id fun (r : a = D) => r ▸ nD, g.ex, g.same⟩) hs

/-- the frame writes a list no more -/
theorem Ex.freeze {x l} {t : Sem Flow} (hx : γ.lookup x = some (.ow l)) (h : Ex F ((x, .sh (.list l)) :: γ) t P) : Ex F γ t P := fun W own s fs => by
  obtain ⟨hb, hW, hN⟩ := fs.ownB x l hx
  obtain ⟨a, vs, b, hp, hr⟩ := fs.ok.var x _ hx
  cases hb.same b
  have nx : ∀ y sl', List.lookup y ((x, Slot.sh (.list l)) :: γ) = some sl' → (y = x ∧ sl' = .sh (.list l)) ∨ (y ≠ x ∧ γ.lookup y = some sl') := fun y sl' e => by
    rw [List.lookup_cons] at e
    cases hb : y == x with
    | true => rw [hb] at e; cases e; exact .inl ⟨beq_iff_eq.mp hb, rfl⟩
    | false => rw [hb] at e; exact .inr ⟨beq_eq_false_iff_ne.mp hb, e⟩
  -- locals and cells are no lists
  have neL : own x ≠ F.env.locals := fun q => by
    obtain ⟨m, o', es, ep, e1, e2, _⟩ := fs.ns
    obtain ⟨n, e⟩ := hp
    rw [← q, e] at e1; cases e1; cases e2
  have neC : ∀ y c, F.env.cells.lookup y = some c → own x ≠ c := fun y c hy q => by
    obtain ⟨_, _, v, o', e1, e2⟩ := fs.cel y c hy
    obtain ⟨n, e⟩ := hp
    rw [← q, e] at e1; cases e1; cases e2
  have neW₀ : ¬ F.W₀ (own x) := fun q => by
    obtain ⟨o, e⟩ := fs.w₀ _ q
    rw [hN] at e; cases e
  let W' : Addr → Prop := fun c => W c ∧ c ≠ own x
  have fs' : Fs F W' own ((x, .sh (.list l)) :: γ) s := by
    refine ⟨⟨fs.ok.wf, fs.ok.cex, fs.ok.g, fun c q => fs.ok.wlt c q.1, fs.ok.kind, fs.ok.glob, fs.ok.bui, fs.ok.tok, fun y sl' e => ?_⟩, fs.g₀, fs.w₀, fs.base, fun c q => ⟨fs.up c q, fun r => neW₀ (r ▸ q)⟩, fun c q => fs.new c q.1, ⟨fs.locW, fun q => neL q.symm⟩, fs.locN, fs.ns,
      fun y c e => let ⟨p, q⟩ := fs.cel y c e; ⟨⟨p, fun r => neC y c e r.symm⟩, q⟩, fun y l' e => ?_, fun y z l1 l2 hyz e e' => ?_⟩
    · rcases nx y sl' e with ⟨rfl, rfl⟩ | ⟨hy, e⟩
      · exact ⟨_, b, .list hp (fun q => q.2 rfl) (hr.less fun c q => q.1)⟩
      · have sv := fs.ok.var y sl' e
        cases sl' with
        | sh d => obtain ⟨u, q, r⟩ := sv; exact ⟨u, q, r.less fun c q => q.1⟩
        | ow l => obtain ⟨c, us, q, hp, r⟩ := sv; exact ⟨c, us, q, hp, r.less fun c q => q.1⟩
        | ro l => obtain ⟨c, us, q, hp, r, w⟩ := sv; exact ⟨c, us, q, hp, r.less fun c q => q.1, fun q => w q.1⟩
    · rcases nx y _ e with ⟨rfl, e'⟩ | ⟨hy, e⟩
      · cases e'
      · obtain ⟨p, q, r⟩ := fs.ownB y l' e
        exact ⟨p, ⟨q, fun q' => fs.inj y x l' l hy e hx q'⟩, r⟩
    · rcases nx y _ e with ⟨rfl, e1⟩ | ⟨hy, e1⟩
      · cases e1
      · rcases nx z _ e' with ⟨rfl, e2⟩ | ⟨hz, e2⟩
        · cases e2
        · exact fs.inj y z l1 l2 hyz e1 e2
  refine wp_use (h W' own s fs') fun f s' ⟨out, p, q⟩ => ⟨out, p, ?_⟩
  cases out with
  | next γ' =>
    obtain ⟨e, W'', own'', fs'', g⟩ := q
    exact ⟨e, W'', own'', fs'', ⟨fun c o hc e => g.pres c o (fun q => hc q.1) e, fun c q => (g.newW c q).imp (fun r => r.1) id, g.ex, g.same⟩⟩
  | ret d => exact q
end
end Mine
end

section
open PySem PySem.Calls PySem.W PyProof.Rows
set_option maxRecDepth 100000
set_option linter.unusedVariables false
namespace Mine

section
variable {F : Fcx} {γ : Gam} {P : Out → Prop}

/-- x = [.. for ..], the store within the comprehension's own frame -/
theorem Ex.assignC {α : Type} {y : Str} {py : Pos} {elt iter : PySem.Expr} {x : Str} {px : Pos} {ifs : List PySem.Expr} {scope : Scope} {pos spos : Pos} {ys : List α} {g f : α → PyData} {p : α → Bool}
    (hit : ∀ W, It (F.cx W γ) iter (ys.map g)) (hsz : ys.length ≤ sizeLine)
    (htest : ∀ W, ∀ a ∈ ys, ∀ W' c, TrL (compCx (F.cx W γ) scope W' c x (g a)) ifs (p a)) (helt : ∀ W, ∀ a ∈ ys, p a = true → ∀ W' c, Ev (compCx (F.cx W γ) scope W' c x (g a)) elt (f a))
    (h : P (.next ((y, .ow ((ys.filter p).map f)) :: γ)))
    (hsw : swapsWith (.ListComp elt [⟨.Name x px, iter, ifs, 0⟩] scope pos) (some (.Name y py)) spos.line F.env = pure true := by rfl)
    (hy : stOk F.env y = true := by rfl)
    (hf : freeOk scope F.env = true := by rfl) (hkind : scope.kind = .function := by rfl) (hnames : ∀ x ∈ scope.names, x.2 = .local → scope.names.lookup x.1 = some .local := by decide) (hx : scope.names.lookup x = some .local := by rfl)
    (hcell : ∀ y ∈ scope.names, y.2 ≠ .cell := by decide) (hs : ∀ x, foldedSetIterable iter F.env x = pure x := by intro _; rfl) :
    Ex F γ (exec (.Assign [.Name y py] (.ListComp elt [⟨.Name x px, iter, ifs, 0⟩] scope pos) spos) F.env) P := fun W own s fs => by
  rw [exec_Assign_Name_used _ _ _ _ hsw]
  refine wpAny_bind (wpAny_standAt (wpAny_bind ?_))
  show wpAny _ F.A (do let _ ← comprehension (.ListComp elt [⟨.Name x px, iter, ifs, 0⟩] scope pos) scope F.env _ (newList []) false (eval iter F.env) (some (PySem.assign (.Name y py) F.env))) _ _ s
  refine wpAny_bind (wpAny_mono (comp_core (C := F.cx W γ) (use := some (PySem.assign (.Name y py) F.env)) (Q := fun _ s' => ∃ out, P out ∧ OutOk F W s out .next s') (E := fun _ _ => False) fs.ok (hit W) hf hkind hnames hx hcell hsz (htest W) (helt W) hs fun D L s' ht ce => ?_)
    (fun _ s' hq => wpAny_pure (wpAny_pure hq)) fun _ _ e => e)
  obtain ⟨m, hns⟩ := ce.ns
  obtain ⟨vs, hp, hr⟩ := ce.out
  show wpAny _ F.A (PySem.assign (.Name y py) F.env (.ref D)) _ _ _
  have nD0 : F.s₀.heap.get? D = none := by
    cases q : F.s₀.heap.get? D with
    | none => rfl
    | some o => have := ce.newD; rw [kp_heap fs.base _ _ q] at this; cases this
  have exD : ∃ o, s'.heap.get? D = some o := by obtain ⟨n, e⟩ := hp; exact ⟨_, e⟩
  have fs₁ : Fs F (fun a => W a ∨ a = D) own γ s' := fs.grow ce.keeps ht (fun a q => .inl q) (fun a q => q.imp id fun (r : a = D) => r ▸ ce.newD) fun a q => by
    rcases q with q | q
    · obtain ⟨o, e⟩ := fs.ok.wlt a q; exact ⟨o, kp_heap ce.keeps _ _ e⟩
    · exact q ▸ exD
  have hr' : RepL (fun a => W a ∨ a = D) s'.heap vs ((ys.filter p).map f) := hr.less fun a q => by
    rcases q with q | q
    · exact .inl q
    · exact .inr (.inl q)
  refine wpAny_assign_Name (fs₁.store hy (.ow rfl hp hr' (.inr rfl) nD0) (fun a l z l' ev _ hz e => ?_) fun own' h' tk b fs₂ ho1 ho2 hsb hW neL hB => ?_)
  · cases ev
    obtain ⟨_, q, _⟩ := fs.ownB z l' e
    obtain ⟨o, e'⟩ := fs.ok.wlt _ q
    intro q'; rw [q', ce.newD] at e'; cases e'
  · have nL := ce.newL
    have exLoc : ∃ o, s.heap.get? F.env.locals = some o := by obtain ⟨m, o, _, _, e, _⟩ := fs.ns; exact ⟨o, e⟩
    have LneLoc : F.env.locals ≠ L := fun q => by obtain ⟨o, e⟩ := exLoc; rw [q, nL] at e; cases e
    have LneC : ∀ z c, F.env.cells.lookup z = some c → c ≠ L := fun z c hz q => by obtain ⟨o, e⟩ := fs.ok.cex z c hz; rw [q, nL] at e; cases e
    have hLb : L ≠ b := by
      rcases hB with hB | ⟨z, hB⟩
      · exact hB ▸ LneLoc.symm
      · exact (LneC z b hB).symm
    have nL0 : F.s₀.heap.get? L = none := by
      cases q : F.s₀.heap.get? L with
      | none => rfl
      | some o => rw [kp_heap fs.base _ _ q] at nL; cases nL
    have nsL : h'.Ns L m := hns.sameBut hsb hLb
    refine ⟨m, nsL, fun h'' hsb' => ?_⟩
    have neSeq : ∀ c o xs n, h'.get? c = some o → o.data = .seq xs n → c ≠ L := fun c o xs n e hd q => by
      obtain ⟨o', es, ep, e', hd', _⟩ := nsL
      rw [q, e'] at e; cases e; rw [hd] at hd'; cases hd'
    have exW : ∀ a, (W a ∨ a = D) → ∃ o, h''.get? a = some o := fun a q => by
      obtain ⟨o, e⟩ := fs₂.ok.wlt a q
      refine ⟨o, hsb'.extBut a o (fun r => ?_) e⟩
      rcases q with q | q
      · obtain ⟨o', e'⟩ := fs.ok.wlt a q; rw [r, nL] at e'; cases e'
      · exact ce.ne (q.symm.trans r)
    have fs₃ := fs₂.poke (h' := h'') (tk := tk) (Nat.le_refl _) (fun c o xs n e hd => hsb'.extBut c o (neSeq c o xs n e hd) e) (fun o e => hsb'.extBut _ o LneLoc e) (fun z c hz o e => hsb'.extBut _ o (LneC z c hz) e)
      (fun c o e => hsb'.extBut c o (fun q => by rw [q, nL0] at e; cases e) (kp_heap fs₂.base c o e)) exW
    refine ⟨_, h, rfl, _, own', fs₃, ?_⟩
    have g1 : Go W s (fun a => W a ∨ a = D) s' := by
      have g := Go.ofKeeps (W := W) ce.keeps
      exact ⟨g.pres, fun a q => q.imp id fun (r : a = D) => r ▸ ce.newD, g.ex, g.same⟩
    have g2 := g1.trans (Go.ofStore (tk := tk) hsb hW (fs₁.wltS hsb hW fs₂.ok.wlt))
    exact ⟨fun c o hc e => hsb'.extBut c o (fun q => by rw [q, nL] at e; cases e) (g2.pres c o hc e), g2.newW, fun c ⟨o, e⟩ => by
      obtain ⟨o', e'⟩ := g2.ex c ⟨o, e⟩
      exact ⟨o', hsb'.extBut c o' (fun q => by rw [q, nL] at e; cases e) e'⟩, by obtain ⟨h₀, t₀, e₀, _⟩ := ce.keeps; exact ⟨h'', tk, by rw [e₀]⟩⟩
end
end Mine
end

section
open PySem PySem.Calls PySem.W PyProof.Rows
set_option maxRecDepth 100000
set_option linter.unusedVariables false
namespace Mine

section
variable {F : Fcx} {γ : Gam} {P : Out → Prop}

theorem OutOk.pre {W W' : Addr → Prop} {s s₁ s' : Shared} {out : Out} {f : Flow} (g : Go W s W' s₁) (h : OutOk F W' s₁ out f s') : OutOk F W s out f s' := by
  cases out with
  | next γ' => obtain ⟨e, W'', own'', fs'', g'⟩ := h; exact ⟨e, W'', own'', fs'', g.trans g'⟩
  | ret d => exact h

theorem Ex.ifS {t b body orelse pos} (ht : ∀ W, Tr (F.cx W γ) t b) (h1 : b = true → Ex F γ (execs body F.env) P) (h2 : b = false → Ex F γ (execs orelse F.env) P) : Ex F γ (exec (.If t body orelse pos) F.env) P := fun W own s fs =>
  wpAny_If (wp_useT (ht W s fs.ok) fun c s₁ htk ⟨k, e⟩ => by
    subst e
    have fs₁ := fs.keeps k htk
    cases c with
    | true => rw [if_pos rfl]; exact wp_use (h1 rfl W own s₁ fs₁) fun f s' ⟨o, p, q⟩ => ⟨o, p, q.pre (.ofKeeps k)⟩
    | false => rw [if_neg Bool.false_ne_true]; exact wp_use (h2 rfl W own s₁ fs₁) fun f s' ⟨o, p, q⟩ => ⟨o, p, q.pre (.ofKeeps k)⟩)

theorem Ex.whileG {test body pos} (G : Nat → Gam) (n : Nat) (h0 : ∀ y sl, (G 0).lookup y = some sl → γ.lookup y = some sl) (ht : ∀ i, i < n → ∀ W, Tr (F.cx W (G i)) test true) (hf : ∀ W, Tr (F.cx W (G n)) test false)
    (hstep : ∀ i, i < n → Ex F (G i) (execs body F.env) (fun out => ∃ γ', out = .next γ' ∧ ∀ y sl, (G (i + 1)).lookup y = some sl → γ'.lookup y = some sl)) (h : P (.next (G n))) : Ex F γ (exec (.While test body [] pos) F.env) P := fun W own s fs => by
  refine wpAny_While ?_
  refine codeAny_whileLoop (fun k s' => ∃ i W' own', i ≤ n ∧ k = n - i ∧ Fs F W' own' (G i) s' ∧ Go W s W' s') ?_ n ⟨0, W, own, Nat.zero_le _, by omega, fs.fewer h0, .refl⟩
  rintro k s' ⟨i, W', own', hi, rfl, fs', g⟩
  by_cases hlt : i < n
  · refine wp_useT (ht i hlt W' s' fs'.ok) fun c s₁ htk ⟨kp, e⟩ => ?_
    subst e
    rw [if_pos rfl]
    refine wp_use (hstep i hlt W' own' s₁ (fs'.keeps kp htk)) fun f s₂ ⟨out, ⟨γ', eo, hg⟩, q⟩ => ?_
    subst eo
    obtain ⟨rfl, W'', own'', fs'', g'⟩ := q
    exact ⟨n - (i + 1), by omega, i + 1, W'', own'', hlt, rfl, fs''.fewer hg, (g.trans (.ofKeeps kp)).trans g'⟩
  · have e : i = n := by omega
    subst e
    refine wp_useT (hf W' s' fs'.ok) fun c s₁ htk ⟨kp, e⟩ => ?_
    subst e
    rw [if_neg Bool.false_ne_true]
    exact wpAny_execs_nil ⟨_, h, rfl, W', own', fs'.keeps kp htk, g.trans (.ofKeeps kp)⟩

theorem Ex.forI {x px iter body pos} {ks : List Int} (G : Nat → Gam) (hit : ∀ W, It (F.cx W γ) iter (ks.map PyData.int)) (h0 : ∀ y sl, (G 0).lookup y = some sl → γ.lookup y = some sl)
    (hstep : ∀ i k, ks[i]? = some k → Ex F ((x, .sh (.int k)) :: G i) (execs body F.env) (fun out => ∃ γ', out = .next γ' ∧ ∀ y sl, (G (i + 1)).lookup y = some sl → γ'.lookup y = some sl)) (h : P (.next (G ks.length)))
    (hx : stOk F.env x = true := by rfl) (hs : ∀ x, foldedSetIterable iter F.env x = pure x := by intro _; rfl) : Ex F γ (exec (.For (.Name x px) iter body [] pos) F.env) P := fun W own s fs => by
  refine wpAny_For ?_ hs
  refine wp_useT (hit W s fs.ok) fun xv s₁ ht₁ h₁ => wp_useT h₁ fun it s₂ ht₂ h₂ => ?_
  obtain ⟨I, fp, wr, Pv, St, rfl, T⟩ := h₂
  have lenE : (ks.map PyData.int).length = ks.length := List.length_map ..
  have wrN : ∀ b o, s.heap.get? b = some o → b ∉ wr := fun b o e q => by rw [T.new b q] at e; cases e
  refine codeAny_forLoop (fun k s' => ∃ i W' own', i ≤ ks.length ∧ k = ks.length + 1 - i ∧ St i s'.heap ∧ Fs F W' own' (G i) s' ∧ (∀ b ∈ fp, ¬ W' b) ∧ Go W s W' s') ?_ (ks.length + 1)
    ⟨0, W, own, Nat.zero_le _, by omega, T.start, (fs.keeps T.keeps (Nat.le_trans ht₁ ht₂)).fewer h0, T.nW, .ofKeeps T.keeps⟩
  rintro k s' ⟨i, W', own', hi, rfl, hst, fs', nW, g⟩
  -- a turn's look at the source leaves the frame as it was
  have poke : ∀ h' tk, s'.toks ≤ tk → (∀ b o, b ∉ wr → s'.heap.get? b = some o → h'.get? b = some o) → Fs F W' own' (G i) { s' with heap := h', toks := tk } ∧ Go W s W' { s' with heap := h', toks := tk } := fun h' tk htk hk => by
    have nw : ∀ b, W' b → b ∉ wr := fun b q r => nW b (T.walks.sub b r) q
    refine ⟨fs'.poke htk (fun b o xs n e hd => hk b o (fun r => ?_) e) (fun o e => hk _ o (nw _ fs'.locW) e) (fun z c hz o e => hk c o (nw _ (fs'.cel z c hz).1) e) (fun b o e => ?_) fun a q => ?_, ?_⟩
    · obtain ⟨o', e', vs, hd'⟩ := T.ex _ _ hst b r
      rw [e] at e'; cases e'; rw [hd] at hd'; cases hd'
    · exact hk b o (wrN b o (kp_heap fs.base b o e)) (kp_heap fs'.base b o e)
    · obtain ⟨o, e⟩ := fs'.ok.wlt a q; exact ⟨o, hk a o (nw a q) e⟩
    · refine ⟨fun b o hb e => hk b o (wrN b o e) (g.pres b o hb e), g.newW, fun b ⟨o, e⟩ => ?_, ?_⟩
      · obtain ⟨o', e'⟩ := g.ex b ⟨o, e⟩; exact ⟨o', hk b o' (wrN b o e) e'⟩
      · obtain ⟨h₀, t₀, e₀⟩ := g.same; exact ⟨h', tk, by rw [e₀]⟩
  by_cases hlt : i < ks.length
  · have ha : ks[i]? = some ks[i] := List.getElem?_eq_getElem hlt
    refine wpAny_with_toks (n := s'.toks) (Nat.le_refl _) (T.walks.item i _ _ _ (by rw [lenE]; exact hlt) hst fun v h₃ tk₃ hP hst₃ hk₃ htk₃ => ?_)
    obtain ⟨fs₃, g₃⟩ := poke h₃ tk₃ htk₃ hk₃
    obtain ⟨d, hd, rd⟩ := T.rep i v hP (by rw [lenE]; exact hlt) s₂.heap fun b o _ _ e => e
    rw [List.getElem?_map, ha] at hd
    have hd' : PyData.int ks[i] = d := by simpa using hd
    subst hd'
    cases rd
    rename_i t
    refine wpAny_assign_Name (fs₃.store hx (.sh (.int _ _)) (fun a l y l' _ e => by cases e) fun own₄ h₄ tk₄ b fs₄ _ _ hsb hWb _ hB => ?_)
    refine wp_use (hstep i ks[i] ha W' own₄ _ fs₄) fun f s₅ ⟨out, ⟨γ', eo, hg⟩, q⟩ => ?_
    subst eo
    obtain ⟨rfl, W'', own'', fs'', g'⟩ := q
    have nb : ∀ c ∈ fp, c ≠ b := fun c hc q => nW c hc (q ▸ hWb)
    have ex₄ : ∀ a, (∃ o, h₃.get? a = some o) → ∃ o, h₄.get? a = some o := fs₃.wltS hsb hWb fs₄.ok.wlt
    have st₄ : St (i + 1) h₄ := T.walks.frame _ _ _ hst₃ fun c hc o e => hsb.extBut c o (nb c hc) e
    have st₅ : St (i + 1) s₅.heap := T.walks.frame _ _ _ st₄ fun c hc o e => g'.pres c o (nW c hc) e
    refine ⟨ks.length + 1 - (i + 1), by omega, i + 1, W'', own'', hlt, rfl, st₅, fs''.fewer hg, fun c hc q => ?_, (g₃.trans (Go.ofStore (tk := tk₄) hsb hWb ex₄)).trans g'⟩
    rcases g'.newW c q with q | q
    · exact nW c hc q
    · obtain ⟨o, e⟩ := T.exf _ _ st₄ c hc; rw [q] at e; cases e
  · have e : i = ks.length := by omega
    subst e
    refine wpAny_with_toks (n := s'.toks) (Nat.le_refl _) (T.walks.done _ _ _ (by rw [lenE]; exact hst) fun h₃ tk₃ hk₃ htk₃ => ?_)
    obtain ⟨fs₃, g₃⟩ := poke h₃ tk₃ htk₃ hk₃
    exact wpAny_execs_nil ⟨_, h, rfl, W', own', fs₃, g₃⟩

/-! ## writing into an own list -/
theorem Fs.setOwn {W : Addr → Prop} {own : Str → Addr} {s : Shared} {x : Str} {l l' : List PyData} {us : List Value} {h' : Heap} {tk : Nat} (fs : Fs F W own γ s) (hx : γ.lookup x = some (.ow l)) (ht : s.toks ≤ tk) (hsb : Heap.SameBut (own x) s.heap h') (hp : h'.PlainList (own x) (List.toArray us)) (hr : RepL W h' us l') :
    Fs F W own ((x, .ow l') :: γ) { s with heap := h', toks := tk } ∧ Go W s W { s with heap := h', toks := tk } := by
  obtain ⟨hb, hW, hN⟩ := fs.ownB x l hx
  obtain ⟨a, vs, b, hpl, hrl⟩ := fs.ok.var x _ hx
  cases hb.same b
  have hex : ∃ o, h'.get? (own x) = some o := by obtain ⟨n, e⟩ := hp; exact ⟨_, e⟩
  obtain ⟨kW, kB, kE⟩ := fs.changed (tk := tk) hW hN hsb hex
  have neL : F.env.locals ≠ own x := fun q => by
    obtain ⟨m, o', es, ep, e1, e2, _⟩ := fs.ns
    obtain ⟨n, e⟩ := hpl
    rw [q, e] at e1; cases e1; cases e2
  have neC : ∀ y c, F.env.cells.lookup y = some c → c ≠ own x := fun y c hy q => by
    obtain ⟨_, _, v, o', e1, e2⟩ := fs.cel y c hy
    obtain ⟨n, e⟩ := hpl
    rw [q, e] at e1; cases e1; cases e2
  have bd : ∀ y u, Bound F.env s.heap y u → Bound F.env h' y u := fun y u b => by
    cases b with
    | loc p q r => exact .loc p (q.sameBut hsb neL) r
    | cell p q r => exact .cell p q (r.sameBut hsb (neC _ _ q))
    | free p q r => exact .free p q (r.sameBut hsb (neC _ _ q))
  have nx : ∀ y sl', List.lookup y ((x, Slot.ow l') :: γ) = some sl' → (y = x ∧ sl' = .ow l') ∨ (y ≠ x ∧ γ.lookup y = some sl') := fun y sl' e => by
    rw [List.lookup_cons] at e
    cases hb : y == x with
    | true => rw [hb] at e; cases e; exact .inl ⟨beq_iff_eq.mp hb, rfl⟩
    | false => rw [hb] at e; exact .inr ⟨beq_eq_false_iff_ne.mp hb, e⟩
  refine ⟨⟨⟨fs.ok.wf, fun y c e => kE c (fs.ok.cex y c e), fs.g₀.keeps (kp_heap kB), fun a q => kE a (fs.ok.wlt a q), fs.ok.kind, fs.ok.glob, fs.ok.bui, Nat.le_trans fs.ok.tok ht, fun y sl e => ?_⟩, fs.g₀, fs.w₀, kB, fs.up, fs.new, fs.locW, fs.locN, ?_, ?_, ?_, ?_⟩, .ofStore hsb hW kE⟩
  · rcases nx y sl e with ⟨rfl, rfl⟩ | ⟨hy, e⟩
    · exact ⟨_, us, bd _ _ hb, hp, hr⟩
    · have sv := fs.ok.var y sl e
      cases sl with
      | sh d => obtain ⟨u, q, r⟩ := sv; exact ⟨u, bd y u q, r.move kW fun _ n _ => n⟩
      | ow l2 =>
        obtain ⟨c, ws, q, hp2, r⟩ := sv
        have q2 := (fs.ownB y l2 e).1
        cases q2.same q
        exact ⟨_, ws, bd y _ q, hp2.at fun o e' => hsb.extBut _ o (fs.inj y x l2 l hy e hx) e', r.move kW fun _ n _ => n⟩
      | ro l2 =>
        obtain ⟨c, ws, q, hp2, r, w⟩ := sv
        exact ⟨c, ws, bd y _ q, hp2.at fun o e' => hsb.extBut _ o (fun q' => w (q' ▸ hW)) e', r.move kW fun _ n _ => n, w⟩
  · obtain ⟨m, hn⟩ := fs.ns; exact ⟨m, hn.sameBut hsb neL⟩
  · intro z c e
    obtain ⟨p, q, v, r⟩ := fs.cel z c e
    exact ⟨p, q, v, r.sameBut hsb (neC _ _ e)⟩
  · intro y l2 e
    rcases nx y _ e with ⟨rfl, e'⟩ | ⟨hy, e⟩
    · exact ⟨bd _ _ hb, hW, hN⟩
    · obtain ⟨p, q⟩ := fs.ownB y l2 e; exact ⟨bd _ _ p, q⟩
  · intro y z l1 l2 hyz e e'
    have f : ∀ y l1, List.lookup y ((x, Slot.ow l') :: γ) = some (.ow l1) → ∃ l2, γ.lookup y = some (.ow l2) := fun y l1 e => by
      rcases nx y _ e with ⟨rfl, _⟩ | ⟨hy, e⟩
      · exact ⟨l, hx⟩
      · exact ⟨l1, e⟩
    obtain ⟨l3, e3⟩ := f y l1 e
    obtain ⟨l4, e4⟩ := f z l2 e'
    exact fs.inj y z l3 l4 hyz e3 e4
end
end Mine
end

section
open PySem PySem.Calls PySem.W PyProof.Rows
set_option maxRecDepth 100000
set_option linter.unusedVariables false
namespace Mine

section
variable {F : Fcx} {γ : Gam} {P : Out → Prop}

/-! ## append, += -/
theorem Ex.append {x px apos e pos spos pl l d} (hx : γ.lookup x = some (.ow l)) (he : ∀ W, Ev (F.cx W γ) e d) (hsz : l.length ≤ sizeLine) (h : P (.next ((x, .ow (l ++ [d])) :: γ)))
    (hi : interactive F.env = false := by rfl) (hs : starEach [e] F.env = [(false, eval e F.env)] := by rfl)
    (hd : (x == ("__debug__" : Str)) = false := by decide) (hn : (x == ("__classdict__" : Str)) = false := by decide)
    (hm : eval (.Call (.Attribute (.Name x px) "append" apos) [e] [] pos) F.env = (do
      let ov ← eval (.Name x px) F.env
      standAt apos.atName
      let (f, first) ← holding [ov] (getMethod ov "append" pl)
      callWith pos f first (backTo pos (starEach [e] F.env)) []) := by rfl) :
    Ex F γ (exec (.Expr (.Call (.Attribute (.Name x px) "append" apos) [e] [] pos) spos) F.env) P := fun W own s fs => by
  obtain ⟨hb, hW, hN⟩ := fs.ownB x l hx
  obtain ⟨a, vs, b, hpl, hrl⟩ := fs.ok.var x _ hx
  cases hb.same b
  refine wpAny_Expr ?_ hi rfl
  refine MethodCall_ (wpAny_Name (load_bound fs.ok.kind b ?_ hn) hd) hm
  obtain ⟨n, eo⟩ := id hpl
  refine getMethod_list_append eo rfl rfl ?_
  refine callWith_method1 (args_cons (wp_useT (he W s fs.ok) fun v s₁ ht ⟨k, r⟩ => args_nil ?_) hs) hs rfl
  have fs₁ := fs.keeps k ht
  have hpl₁ := hpl.at fun o e => kp_heap k _ o e
  refine wpAny_list_append_plain hpl₁ (fun h' hp' hsb => ?_) (by have := hrl.length; simp; omega)
  have mv : ∀ b o, ¬ W b → s₁.heap.get? b = some o → h'.get? b = some o := fun b o hb' e => hsb.extBut b o (fun q => hb' (q ▸ hW)) e
  have hp'' : h'.PlainList (own x) (List.toArray (vs ++ [v])) := by simpa using hp'
  obtain ⟨fs₂, g⟩ := fs₁.setOwn (tk := s₁.toks) hx (Nat.le_refl _) hsb hp'' (RepL.snoc ((hrl.keeps (kp_heap k)).move mv fun _ n _ => n) (r.move mv fun _ n _ => n))
  exact ⟨_, h, rfl, W, own, fs₂, (Go.ofKeeps k).trans g⟩

def Aug (C : Cx) (op : Operator) (d₁ d₂ d : PyData) : Prop :=
  ∀ (s : Shared) (v₁ v₂ : Value), Ok C s → Rep C.W s.heap v₁ d₁ → Rep C.W s.heap v₂ d₂ → wpAny (model C.prog C.w) C.A (inplaceOp op v₁ v₂) (fun v s' => Keeps s s' ∧ Rep C.W s'.heap v d) (fun _ _ => False) s
theorem Aug.add_int {C : Cx} {a b} : Aug C .Add (.int a) (.int b) (.int (a + b)) := by
  rintro s _ _ _ ⟨⟩ ⟨⟩; exact iadd_int ⟨kp_tok _ _, .int _ _⟩
theorem Aug.sub_int {C : Cx} {a b} : Aug C .Sub (.int a) (.int b) (.int (a - b)) := by
  rintro s _ _ _ ⟨⟩ ⟨⟩; exact isub_int ⟨kp_tok _ _, .int _ _⟩
theorem Ex.aug {x px op e pos d₁ d₂ d} (hl : γ.lookup x = some (.sh d₁)) (he : ∀ W, Ev (F.cx W γ) e d₂) (ha : ∀ W, Aug (F.cx W γ) op d₁ d₂ d) (h : P (.next ((x, .sh d) :: γ))) (hx : stOk F.env x = true := by rfl)
    (hn : (x == ("__classdict__" : Str)) = false := by decide) : Ex F γ (exec (.AugAssign (.Name x px) op e pos) F.env) P := fun W own s fs => by
  obtain ⟨v₁, b, r₁⟩ := fs.ok.var x _ hl
  refine wpAny_AugAssign_Name (load_bound fs.ok.kind b ?_ hn)
  refine wp_useT (he W s fs.ok) fun v₂ s₁ ht ⟨k, r₂⟩ => ?_
  have fs₁ := fs.keeps k ht
  refine wp_useT (ha W s₁ v₁ v₂ fs₁.ok (r₁.keeps (kp_heap k)) r₂) fun v s₂ ht₂ ⟨k₂, r⟩ => ?_
  have fs₂ := fs₁.keeps k₂ ht₂
  refine fs₂.store hx (.sh r) (fun a l y l' _ e => by cases e) fun own' h' tk b fs₃ _ _ hsb hW _ _ => ?_
  exact ⟨_, h, rfl, W, own', fs₃, (Go.ofKeeps (kp_trans k k₂)).trans (Go.ofStore hsb hW (fs₂.wltS hsb hW fs₃.ok.wlt))⟩

/-! ## several targets -/
inductive SVs (F : Fcx) (W W' : Addr → Prop) (h : Heap) : List Value → List Slot → List Addr → Prop
  | nil : SVs F W W' h [] [] []
  | sh {v d vs sls as} : Rep W' h v d → SVs F W W' h vs sls as → SVs F W W' h (v :: vs) (.sh d :: sls) as
  | ow {a us l vs sls as} : h.PlainList a (List.toArray us) → RepL W' h us l → W' a → F.s₀.heap.get? a = none → ¬ W a → SVs F W W' h vs sls as → SVs F W W' h (.ref a :: vs) (.ow l :: sls) (a :: as)

theorem SVs.move {W W' W₁ W₁' : Addr → Prop} {h h' : Heap} (hk : ∀ b o, ¬ W' b → h.get? b = some o → h'.get? b = some o) (hw : ∀ a, ¬ W' a → (∃ o, h.get? a = some o) → ¬ W₁' a) (hup : ∀ a, W' a → W₁' a) (hdn : ∀ a, W₁ a → W a)
    (hl : ∀ c us, h.PlainList c us → W' c → ¬ W c → ∀ o, h.get? c = some o → h'.get? c = some o) : ∀ {vs sls as}, SVs F W W' h vs sls as → SVs F W₁ W₁' h' vs sls as
  | _, _, _, .nil => .nil
  | _, _, _, .sh r q => .sh (r.move hk hw) (q.move hk hw hup hdn hl)
  | _, _, _, .ow p r w n u q => .ow (p.at (hl _ _ p w u)) (r.move hk hw) (hup _ w) n (fun x => u (hdn _ x)) (q.move hk hw hup hdn hl)
theorem SVs.append {W W' : Addr → Prop} {h : Heap} : ∀ {vs sls as us rls bs}, SVs F W W' h vs sls as → SVs F W W' h us rls bs → SVs F W W' h (vs ++ us) (sls ++ rls) (as ++ bs)
  | _, _, _, _, _, _, .nil, q => q
  | _, _, _, _, _, _, .sh r x, q => .sh r (x.append q)
  | _, _, _, _, _, _, .ow p r w n u x, q => .ow p r w n u (x.append q)
theorem SVs.reverse {W W' : Addr → Prop} {h : Heap} : ∀ {vs sls as}, SVs F W W' h vs sls as → SVs F W W' h vs.reverse sls.reverse as.reverse
  | _, _, _, .nil => .nil
  | _, _, _, .sh r x => by simpa using x.reverse.append (.sh r .nil)
  | _, _, _, .ow p r w n u x => by simpa using x.reverse.append (.ow p r w n u .nil)
theorem SVs.notW {W W' : Addr → Prop} {h : Heap} : ∀ {vs sls as}, SVs F W W' h vs sls as → ∀ a ∈ as, ¬ W a
  | _, _, _, .nil, _, hm => nomatch hm
  | _, _, _, .sh r x, a, hm => x.notW a hm
  | _, _, _, .ow p r w n u x, a, hm => by
    rcases List.mem_cons.mp hm with rfl | hm
    · exact u
    · exact x.notW a hm

def EvX (F : Fcx) (γ : Gam) (es : List PySem.Expr) (sls : List Slot) : Prop :=
  ∀ W own s pos, Fs F W own γ s → wpAny (model F.prog F.w) F.A (spliced (backTo pos (starEach es F.env))) (fun vs s' => ∃ W' as, Keeps s s' ∧ (∀ a, W a → W' a) ∧ (∀ a, W' a → W a ∨ s.heap.get? a = none) ∧ (∀ a, W' a → ∃ o, s'.heap.get? a = some o) ∧ as.Nodup ∧ SVs F W W' s'.heap vs sls as) (fun _ _ => False) s
theorem EvX.nil : EvX F γ [] [] := fun W own s pos fs => args_nil ⟨W, [], kp_refl _, fun _ q => q, fun _ q => .inl q, fs.ok.wlt, .nil, .nil⟩
theorem EvX.sh {e rest d sls} (he : ∀ W, Ev (F.cx W γ) e d) (hr : EvX F γ rest sls) (hs : starEach (e :: rest) F.env = (false, eval e F.env) :: starEach rest F.env := by rfl) : EvX F γ (e :: rest) (.sh d :: sls) := fun W own s pos fs =>
  args_cons (wp_useT (he W s fs.ok) fun v s₁ ht ⟨k, r⟩ => wp_use (hr W own s₁ pos (fs.keeps k ht)) fun vs s₂ ⟨W', as, k₂, up, nw, ex, nd, sv⟩ => by
    refine ⟨W', as, kp_trans k k₂, up, fun a q => (nw a q).imp id fun n => ?_, ex, nd, .sh (r.move (fun b o _ e => kp_heap k₂ b o e) fun a n ⟨o, e⟩ hw => ?_) sv⟩
    · cases q' : s.heap.get? a with
      | none => rfl
      | some o => rw [kp_heap k _ _ q'] at n; cases n
    · rcases nw a hw with q | q
      · exact n q
      · rw [q] at e; cases e) hs
theorem EvX.ow {e rest l sls} (he : ∀ W, EvN (F.cx W γ) e l) (hr : EvX F γ rest sls) (hs : starEach (e :: rest) F.env = (false, eval e F.env) :: starEach rest F.env := by rfl) : EvX F γ (e :: rest) (.ow l :: sls) := fun W own s pos fs =>
  args_cons (wp_useT (he W s fs.ok) fun v s₁ ht ⟨D, us, ev, k, nD, hp, hr'⟩ => by
    subst ev
    have exD : ∃ o, s₁.heap.get? D = some o := by obtain ⟨n, e⟩ := hp; exact ⟨_, e⟩
    have fs₁ : Fs F (fun a => W a ∨ a = D) own γ s₁ := fs.grow k ht (fun a q => .inl q) (fun a q => q.imp id fun (r : a = D) => r ▸ nD) fun a q => by
      rcases q with q | q
      · obtain ⟨o, e⟩ := fs.ok.wlt a q; exact ⟨o, kp_heap k _ _ e⟩
      · exact q ▸ exD
    have nW : ¬ W D := fun q => by obtain ⟨o, e⟩ := fs.ok.wlt D q; rw [nD] at e; cases e
    refine wp_use (hr _ own s₁ pos fs₁) fun vs s₂ ⟨W', as, k₂, up, nw, ex, nd, sv⟩ => ?_
    refine ⟨W', D :: as, kp_trans k k₂, fun a q => up a (.inl q), fun a q => ?_, ex, List.nodup_cons.mpr ⟨fun hm => sv.notW D hm (.inr rfl), nd⟩, .ow (hp.at fun o e => kp_heap k₂ _ o e) (hr'.move (fun b o _ e => kp_heap k₂ b o e) fun a n ⟨o, e⟩ hw => ?_) (up D (.inr rfl)) ?_ nW
      (sv.move (fun _ _ _ e => e) (fun _ n _ => n) (fun _ q => q) (fun a q => .inl q) fun _ _ _ _ _ o e => e)⟩
    · rcases nw a q with q | q
      · exact q.imp id fun (r : a = D) => r ▸ nD
      · refine .inr ?_
        cases q' : s.heap.get? a with
        | none => rfl
        | some o => rw [kp_heap k _ _ q'] at q; cases q
    · rcases nw a hw with q | q
      · exact n q
      · rw [q] at e; cases e
    · cases q : F.s₀.heap.get? D with
      | none => rfl
      | some o => rw [kp_heap fs.base _ _ q] at nD; cases nD) hs

def EvT (F : Fcx) (γ : Gam) (e : PySem.Expr) (sls : List Slot) : Prop :=
  ∀ W own s, Fs F W own γ s → wpAny (model F.prog F.w) F.A (eval e F.env) (fun v s' => ∃ t vs W' as, v = .ref t ∧ IsTup s'.heap t (List.toArray vs) ∧ Keeps s s' ∧ (∀ a, W a → W' a) ∧ (∀ a, W' a → W a ∨ s.heap.get? a = none) ∧ (∀ a, W' a → ∃ o, s'.heap.get? a = some o) ∧ as.Nodup ∧ SVs F W W' s'.heap vs sls as) (fun _ _ => False) s
theorem EvT.display {es k pos sls} (h : EvX F γ es sls) (hsz : es.length ≤ 100) (hl : sls.length ≤ 100) : EvT F γ (.Tuple es k pos) sls := fun W own s fs =>
  Tuple_ (wp_use (h W own s pos fs) fun vs s₁ ⟨W', as, k₁, up, nw, ex, nd, sv⟩ => by
    have len : ∀ {vs sls as}, SVs F W W' s₁.heap vs sls as → vs.length = sls.length := by
      intro vs sls as q
      induction q with
      | nil => rfl
      | sh _ _ ih => simp [ih]
      | ow _ _ _ _ _ _ ih => simp [ih]
    refine wpAny_newTuple ⟨_, vs, W', as, rfl, ⟨_, Heap.get?_push_size _ rfl, rfl, _, rfl⟩, kp_trans k₁ (kp_push _ _), up, nw, fun a q => ?_, nd, sv.move (fun b o _ e => Heap.get?_push_of_some _ e) (fun _ n _ => n) (fun _ q => q) (fun _ q => q) fun _ _ _ _ _ o e => Heap.get?_push_of_some _ e⟩ ?_
    · obtain ⟨o, e⟩ := ex a q; exact ⟨o, Heap.get?_push_of_some _ e⟩
    · rw [len sv, sizeLine_eq]; omega)
theorem SVs.ofRepL {W : Addr → Prop} {h : Heap} : ∀ {vs ds}, RepL W h vs ds → SVs F W W h vs (ds.map .sh) []
  | _, _, .nil => .nil
  | _, _, .cons x r => .sh x (SVs.ofRepL r)
theorem EvT.ev {e ds} (h : ∀ W, Ev (F.cx W γ) e (.tuple ds)) : EvT F γ e (ds.map .sh) := fun W own s fs =>
  (h W).use fs.ok fun v s' k o' r => by
    cases r
    rename_i a vs ht hw hr
    refine ⟨a, vs, W, [], rfl, ht, k, fun _ q => q, fun _ q => .inl q, o'.wlt, .nil, .ofRepL hr⟩

def finG : List Str → List Slot → Gam → Gam
  | x :: xs, sl :: sls, γ => finG xs sls ((x, sl) :: γ)
  | _, _, γ => γ

theorem storeAll {W W' : Addr → Prop} : ∀ (L : List (Str × (Value → Sem Unit))) (vs : List Value) (sls : List Slot) (as : List Addr) (γ : Gam) (own : Str → Addr) (s : Shared),
    (∀ p ∈ L, stOk F.env p.1 = true ∧ ∀ v Q E s, wpAny (model F.prog F.w) F.A (storeName F.env p.1 v) Q E s → wpAny (model F.prog F.w) F.A (p.2 v) Q E s) → L.length = sls.length →
    Fs F W' own γ s → SVs F W W' s.heap vs sls as → as.Nodup → (∀ y l, γ.lookup y = some (.ow l) → own y ∉ as) →
    wpAny (model F.prog F.w) F.A (assignInOrder (L.map (·.2)) vs) (fun _ s' => ∃ own', Fs F W' own' (finG (L.map (·.1)) sls γ) s' ∧ Go W' s W' s') (fun _ _ => False) s
  | [], vs, sls, as, γ, own, s, _, hlen, fs, sv, _, _ => by
    cases sls with
    | nil => cases sv; exact wpAny_pure ⟨own, fs, .refl⟩
    | cons _ _ => cases hlen
  | (x, t) :: L, vs, sls, as, γ, own, s, hL, hlen, fs, sv, nd, hown => by
    have hx := hL (x, t) (.head _)
    cases sv with
    | nil => cases hlen
    | sh r q =>
      rename_i v d vs sls
      rw [List.map_cons, assignInOrder]
      refine wpAny_bind (wpAny_holding (hx.2 v _ _ s (fs.store hx.1 (.sh r) (fun a l y l' _ e => by cases e) fun own' h' tk b fs₂ ho1 ho2 hsb hW neL _ => ?_)))
      have q' : SVs F W W' h' vs sls as := q.move (fun c o hc e => hsb.extBut c o (fun e' => hc (e' ▸ hW)) e) (fun _ n _ => n) (fun _ q => q) (fun _ q => q) fun c us hp _ _ o e => hsb.extBut c o (neL _ _ hp.isList) e
      refine wp_use (storeAll L vs sls as _ own' _ (fun p hp => hL p (.tail _ hp)) (by simpa using hlen) fs₂ q' nd fun y l e => ?_) fun _ s' ⟨own'', fs'', g⟩ => ⟨own'', fs'', (Go.ofStore hsb hW (fs.wltS hsb hW fs₂.ok.wlt)).trans g⟩
      rw [List.lookup_cons] at e
      cases hb : y == x with
      | true => rw [hb] at e; cases e
      | false => rw [hb] at e; rw [ho1 y (beq_eq_false_iff_ne.mp hb)]; exact hown y l e
    | ow p r w n u q =>
      rename_i a us l vs sls as
      rw [List.map_cons, assignInOrder]
      have nd' := List.nodup_cons.mp nd
      refine wpAny_bind (wpAny_holding (hx.2 _ _ _ s (fs.store hx.1 (.ow rfl p r w n) (fun a' l' y l'' ev _ hy e => ?_) fun own' h' tk b fs₂ ho1 ho2 hsb hW neL _ => ?_)))
      · cases ev; exact fun q' => hown y l'' e (q' ▸ .head _)
      have q' : SVs F W W' h' vs sls as := q.move (fun c o hc e => hsb.extBut c o (fun e' => hc (e' ▸ hW)) e) (fun _ n _ => n) (fun _ q => q) (fun _ q => q) fun c us hp _ _ o e => hsb.extBut c o (neL _ _ hp.isList) e
      refine wp_use (storeAll L vs sls as _ own' _ (fun p hp => hL p (.tail _ hp)) (by simpa using hlen) fs₂ q' nd'.2 fun y l' e => ?_) fun _ s' ⟨own'', fs'', g⟩ => ⟨own'', fs'', (Go.ofStore hsb hW (fs.wltS hsb hW fs₂.ok.wlt)).trans g⟩
      rw [List.lookup_cons] at e
      cases hb : y == x with
      | true => have := beq_iff_eq.mp hb; subst this; rw [ho2 a l rfl rfl]; exact nd'.1
      | false => rw [hb] at e; rw [ho1 y (beq_eq_false_iff_ne.mp hb)]; exact fun hm => hown y l' e (.tail _ hm)

/-! ### the statements -/
theorem store_fin {W : Addr → Prop} {own : Str → Addr} {s : Shared} {names : List Str} {ts : List (Value → Sem Unit)} {sls : List Slot} {γ' : Gam} (fs : Fs F W own γ s) {s₁ : Shared} {vs : List Value} {W' : Addr → Prop} {as : List Addr} (ht : s.toks ≤ s₁.toks)
    (k : Keeps s s₁) (up : ∀ a, W a → W' a) (nw : ∀ a, W' a → W a ∨ s.heap.get? a = none) (ex : ∀ a, W' a → ∃ o, s₁.heap.get? a = some o) (nd : as.Nodup) (sv : SVs F W W' s₁.heap vs sls as)
    (L : List (Str × (Value → Sem Unit))) (hL : ∀ p ∈ L, stOk F.env p.1 = true ∧ ∀ v Q E s, wpAny (model F.prog F.w) F.A (storeName F.env p.1 v) Q E s → wpAny (model F.prog F.w) F.A (p.2 v) Q E s) (hlen : L.length = sls.length) :
    wpAny (model F.prog F.w) F.A (assignInOrder (L.map (·.2)) vs) (fun _ s' => ∃ own', Fs F W' own' (finG (L.map (·.1)) sls γ) s' ∧ Go W s W' s') (fun _ _ => False) s₁ := by
  have fs₁ : Fs F W' own γ s₁ := fs.grow k ht up nw ex
  refine wp_use (storeAll (W := W) L vs sls as γ own s₁ hL hlen fs₁ sv nd fun y l e hm => sv.notW _ hm (fs.ownB y l e).2.1) fun _ s' ⟨own', fs', g⟩ => ⟨own', fs', ?_⟩
  have g0 := Go.ofKeeps (W := W) k
  exact Go.trans (W' := W') ⟨g0.pres, nw, g0.ex, g0.same⟩ g

theorem assignEach_names (env : Env) : ∀ l : List (Str × Pos), assignEach (l.map fun p => PySem.Expr.Name p.1 p.2) env = l.map fun p => (false, PySem.assign (.Name p.1 p.2) env)
  | [] => rfl
  | x :: r => by
    have := assignEach_names env r
    show (false, PySem.assign (.Name x.1 x.2) env) :: assignEach (r.map fun p => PySem.Expr.Name p.1 p.2) env = _
    rw [this, List.map_cons]
theorem SVs.len {W W' : Addr → Prop} {h : Heap} : ∀ {vs sls as}, SVs F W W' h vs sls as → vs.length = sls.length
  | _, _, _, .nil => rfl
  | _, _, _, .sh _ q => by simp [q.len]
  | _, _, _, .ow _ _ _ _ _ q => by simp [q.len]
theorem Ex.assignT {elts k tpos e pos} {sls : List Slot} (names : List (Str × Pos)) (hn : elts = names.map fun p => PySem.Expr.Name p.1 p.2) (he : EvT F γ e sls) (hlen : names.length = sls.length) (h : P (.next (finG (names.map (·.1)) sls γ))) (hh : F.A.handled = none)
    (hst : (names.all fun p => stOk F.env p.1) = true := by rfl)
    (hs : swapsWithSole [.Tuple elts k tpos] e pos.line F.env = pure false := by rfl) (hw : swappedStores [.Tuple elts k tpos] e F.env = pure none := by rfl) : Ex F γ (exec (.Assign [.Tuple elts k tpos] e pos) F.env) P := fun W own s fs => by
  subst hn
  refine Assign_Tuple ?_ hs hw
  refine wp_useT (he W own s fs) fun v s₁ ht ⟨t, vs, W', as, ev, tp, k₁, up, nw, ex, nd, sv⟩ => ?_
  subst ev
  rw [arm_assign_Tuple]
  refine wpAny_bind (wpAny_standAt ?_)
  rw [assignEach_names]
  refine unpack_tuple hh tp (by simp [sv.len, hlen]) ?_ fun h' he' => ?_
  · rw [List.findIdx?_eq_none_iff]
    intro x hx
    obtain ⟨p, _, rfl⟩ := List.mem_map.mp hx
    rfl
  · have k₂ : Keeps s₁ { s₁ with heap := h' } := ⟨h', s₁.toks, rfl, fun b o e => he' b o (Nat.ne_of_lt (Heap.lt_size e)) e⟩
    have sv' : SVs F W W' h' vs sls as := sv.move (fun b o _ e => kp_heap k₂ b o e) (fun _ n _ => n) (fun _ q => q) (fun _ q => q) fun c _ _ _ _ o e => kp_heap k₂ c o e
    have := store_fin (names := []) (ts := []) (γ' := []) fs (s₁ := { s₁ with heap := h' }) (vs := vs) ht (kp_trans k₁ k₂) up nw (fun a q => let ⟨o, e⟩ := ex a q; ⟨o, kp_heap k₂ _ _ e⟩) nd sv' (names.map fun p => (p.1, PySem.assign (.Name p.1 p.2) F.env)) (fun p hp => by
      obtain ⟨q, hq, rfl⟩ := List.mem_map.mp hp
      exact ⟨List.all_eq_true.mp hst q hq, fun v Q E s h => assign_Name h⟩) (by simpa using hlen)
    simp only [List.map_map] at this ⊢
    refine wp_use this fun _ s' ⟨own', fs', g⟩ => ⟨_, h, rfl, W', own', ?_, g⟩
    exact fs'

theorem Ex.assignTS {elts k tpos e pos} {sls : List Slot} (names : List Str) (he : EvT F γ e sls) (hlen : names.length = sls.length) (h : P (.next (finG names.reverse sls.reverse γ))) (hh : F.A.handled = none)
    (hst : (names.all fun p => stOk F.env p) = true := by rfl)
    (hs : swapsWithSole [.Tuple elts k tpos] e pos.line F.env = pure false := by rfl) (hw : swappedStores [.Tuple elts k tpos] e F.env = pure (some names) := by rfl) : Ex F γ (exec (.Assign [.Tuple elts k tpos] e pos) F.env) P := fun W own s fs => by
  refine Assign_Tuple_swapped ?_ hs hw
  refine wp_useT (he W own s fs) fun v s₁ ht ⟨t, vs, W', as, ev, tp, k₁, up, nw, ex, nd, sv⟩ => ?_
  subst ev
  have e1 : names.length = (List.toArray vs).size := by simp [sv.len, hlen]
  rw [e1]
  refine unpackItems_tuple hh tp fun h' he' => ?_
  have k₂ : Keeps s₁ { s₁ with heap := h' } := ⟨h', s₁.toks, rfl, fun b o e => he' b o (Nat.ne_of_lt (Heap.lt_size e)) e⟩
  have sv' : SVs F W W' h' vs sls as := sv.move (fun b o _ e => kp_heap k₂ b o e) (fun _ n _ => n) (fun _ q => q) (fun _ q => q) fun c _ _ _ _ o e => kp_heap k₂ c o e
  have := store_fin (names := []) (ts := []) (γ' := []) fs (s₁ := { s₁ with heap := h' }) (vs := vs.reverse) ht (kp_trans k₁ k₂) up nw (fun a q => let ⟨o, e⟩ := ex a q; ⟨o, kp_heap k₂ _ _ e⟩) (List.pairwise_reverse.mpr (nd.imp Ne.symm)) sv'.reverse (names.reverse.map fun n => (n, fun v => bindName F.env n v)) (fun p hp => by
    obtain ⟨q, hq, rfl⟩ := List.mem_map.mp hp
    exact ⟨List.all_eq_true.mp hst q (List.mem_reverse.mp hq), fun v Q E s h => bindName_ h⟩) (by simpa using hlen)
  simp only [List.map_map] at this ⊢
  refine wp_use this fun _ s' ⟨own', fs', g⟩ => ⟨_, h, rfl, W', own', ?_, g⟩
  have e2 : List.map ((fun x => x.fst) ∘ fun n => (n, fun v => bindName F.env n v)) names.reverse = names.reverse := by
    rw [show ((fun x : Str × (Value → Sem Unit) => x.fst) ∘ fun n => (n, fun v => bindName F.env n v)) = id from rfl, List.map_id]
  rw [e2] at fs'
  exact fs'

theorem Ex.try_ {body hs₀ hs pos} (h : Ex F γ (execs body F.env) (fun out => match out with | .next γ' => P (.next γ') | .ret d => P (.ret d))) : Ex F γ (exec (.Try body (hs₀ :: hs) [] [] pos) F.env) P := fun W own s fs =>
  wpAny_Try_except (wp_use (h W own s fs) fun f s' ⟨out, p, q⟩ => by
    cases out with
    | next γ' =>
      obtain ⟨rfl, q⟩ := q
      exact wpAny_execs_nil ⟨_, p, rfl, q⟩
    | ret d => obtain ⟨v, rfl, q⟩ := q; exact ⟨_, p, v, rfl, q⟩)
end
end Mine
end

section
open PySem PySem.Calls PySem.W PyProof.Rows
set_option maxRecDepth 100000
set_option linter.unusedVariables false
namespace Mine

theorem RepL.set {W : Addr → Prop} {h : Heap} {v d} (x : Rep W h v d) : ∀ {vs ds} (j : Nat), RepL W h vs ds → RepL W h (vs.set j v) (ds.set j d)
  | _, _, _, .nil => .nil
  | _, _, 0, .cons _ r => .cons x r
  | _, _, j + 1, .cons y r => .cons y (RepL.set x j r)

theorem RepL.two {W : Addr → Prop} {h : Heap} {vs d₁ d₂} (r : RepL W h vs [d₁, d₂]) : ∃ v₁ v₂, vs = [v₁, v₂] ∧ Rep W h v₁ d₁ ∧ Rep W h v₂ d₂ := by
  cases r with
  | cons a q => cases q with
    | cons b q => cases q; exact ⟨_, _, rfl, a, b⟩
theorem Rep.tup {W : Addr → Prop} {h : Heap} {v ds} (r : Rep W h v (.tuple ds)) : ∃ a vs, v = .ref a ∧ IsTup h a (List.toArray vs) ∧ ¬ W a ∧ RepL W h vs ds := by
  cases r with
  | tuple a b c => exact ⟨_, _, rfl, a, b, c⟩

section
variable {F : Fcx} {γ : Gam} {P : Out → Prop}

/-- one store into an own list -/
theorem Fs.setItem {W : Addr → Prop} {own : Str → Addr} {s : Shared} {x : Str} {px : Pos} {i : PySem.Expr} {pos : Pos} {l : List PyData} {k : Int} {v : Value} {d : PyData} {Q : Unit → Shared → Prop} (fs : Fs F W own γ s) (hx : γ.lookup x = some (.ow l)) (hi : ∀ W, Ev (F.cx W γ) i (.int k)) (h0 : 0 ≤ k) (hk : k < l.length) (hlen : l.length ≤ 2 ^ 24)
    (rv : Rep W s.heap v d)
    (h : ∀ s', Fs F W own ((x, .ow (l.set k.toNat d)) :: γ) s' → Go W s W s' → Q () s')
    (hd : (x == ("__debug__" : Str)) = false) (hn : (x == ("__classdict__" : Str)) = false) :
    wpAny (model F.prog F.w) F.A (PySem.assign (.Subscript (.Name x px) i pos) F.env v) Q (fun _ _ => False) s := by
  rw [arm_assign_Subscript]
  obtain ⟨hb, hW, hN⟩ := fs.ownB x l hx
  obtain ⟨a, vs, b, hpl, hrl⟩ := fs.ok.var x _ hx
  cases hb.same b
  refine wpAny_bind (wpAny_holding (wpAny_Name (load_bound fs.ok.kind b ?_ hn) hd))
  refine wpAny_bind (wpAny_holding (wp_useT (hi W s fs.ok) fun iv s₁ ht ⟨k₁, r⟩ => ?_))
  cases r
  rename_i t
  have fs₁ := fs.keeps k₁ ht
  have hpl₁ := hpl.at fun o e => kp_heap k₁ _ o e
  refine wpAny_bind (wpAny_standAt (wpAny_bind (wpAny_holding ?_)))
  obtain ⟨n, eo⟩ := id hpl₁
  have hlv := hrl.length
  refine ki_setAt (n := n) eo h0 (by omega) (by simp; omega) ?_
  have hsb : Heap.SameBut (own x) s₁.heap (s₁.heap.update (own x) (Obj.mapSeq (·.setIfInBounds k.toNat v))) := Heap.SameBut.update ..
  have hp' : (s₁.heap.update (own x) (Obj.mapSeq (·.setIfInBounds k.toNat v))).PlainList (own x) (List.toArray (vs.set k.toNat v)) := by
    refine ⟨n, ?_⟩
    rw [Heap.get?_update_self _ eo rfl]
    simp [Obj.mapSeq]
  have mv : ∀ b o, ¬ W b → s₁.heap.get? b = some o → (s₁.heap.update (own x) (Obj.mapSeq (·.setIfInBounds k.toNat v))).get? b = some o := fun b o hb' e => hsb.extBut b o (fun q => hb' (q ▸ hW)) e
  obtain ⟨fs₂, g⟩ := fs₁.setOwn (tk := s₁.toks) hx (Nat.le_refl _) hsb hp' (RepL.set ((rv.keeps (kp_heap k₁)).move mv fun _ n _ => n) k.toNat ((hrl.keeps (kp_heap k₁)).move mv fun _ n _ => n))
  exact wpAny_release (h _ fs₂ ((Go.ofKeeps k₁).trans g))

/-- x[i], x[j] = e -/
theorem Ex.setTwo {x p1 p2 i j s1 s2 kk tpos e pos l k₁ k₂ d₁ d₂} (hx : γ.lookup x = some (.ow l)) (he : ∀ W, Ev (F.cx W γ) e (.tuple [d₁, d₂])) (hi : ∀ W, Ev (F.cx W γ) i (.int k₁)) (hj : ∀ W, Ev (F.cx W ((x, .ow (l.set k₁.toNat d₁)) :: γ)) j (.int k₂))
    (h0 : 0 ≤ k₁) (h1 : k₁ < l.length) (h2 : 0 ≤ k₂) (h3 : k₂ < l.length) (hlen : l.length ≤ 2 ^ 24) (hh : F.A.handled = none)
    (h : P (.next ((x, .ow ((l.set k₁.toNat d₁).set k₂.toNat d₂)) :: (x, .ow (l.set k₁.toNat d₁)) :: γ)))
    (hd : (x == ("__debug__" : Str)) = false := by decide) (hn : (x == ("__classdict__" : Str)) = false := by decide)
    (hs : swapsWithSole [.Tuple [.Subscript (.Name x p1) i s1, .Subscript (.Name x p2) j s2] kk tpos] e pos.line F.env = pure false := by rfl) (hw : swappedStores [.Tuple [.Subscript (.Name x p1) i s1, .Subscript (.Name x p2) j s2] kk tpos] e F.env = pure none := by rfl) :
    Ex F γ (exec (.Assign [.Tuple [.Subscript (.Name x p1) i s1, .Subscript (.Name x p2) j s2] kk tpos] e pos) F.env) P := fun W own s fs => by
  refine Assign_Tuple ?_ hs hw
  refine wp_useT (he W s fs.ok) fun v s₁ ht ⟨k, r⟩ => ?_
  obtain ⟨a, vs, rfl, tp, _, hr⟩ := r.tup
  obtain ⟨v₁, v₂, rfl, r₁, r₂⟩ := hr.two
  rw [arm_assign_Tuple]
  have fs₁ := fs.keeps k ht
  refine wpAny_bind (wpAny_standAt ?_)
  refine unpack_tuple hh tp rfl rfl fun h' he' => ?_
  have k₂ : Keeps s₁ { s₁ with heap := h' } := ⟨h', s₁.toks, rfl, fun b o e => he' b o (Nat.ne_of_lt (Heap.lt_size e)) e⟩
  have fs₂ := fs₁.keeps k₂ (Nat.le_refl _)
  show wpAny _ _ (assignInOrder [PySem.assign (.Subscript (.Name x p1) i s1) F.env, PySem.assign (.Subscript (.Name x p2) j s2) F.env] [v₁, v₂]) _ _ _
  rw [assignInOrder]
  refine wpAny_bind (wpAny_holding (fs₂.setItem hx hi h0 h1 hlen (r₁.keeps (kp_heap k₂)) (fun s₃ fs₃ g₃ => ?_) hd hn))
  rw [assignInOrder]
  have hx₃ : List.lookup x ((x, Slot.ow (l.set k₁.toNat d₁)) :: γ) = some (.ow (l.set k₁.toNat d₁)) := by simp
  have mv : ∀ b o, ¬ W b → h'.get? b = some o → s₃.heap.get? b = some o := fun b o hb e => g₃.pres b o hb e
  refine wpAny_bind (wpAny_holding (fs₃.setItem hx₃ hj h2 (by simpa using h3) (by simpa using hlen) ((r₂.keeps (kp_heap k₂)).move mv fun _ n _ => n) (fun s₄ fs₄ g₄ => ?_) hd hn))
  exact wpAny_pure ⟨_, h, rfl, W, own, fs₄, (Go.ofKeeps (kp_trans k k₂)).trans (g₃.trans g₄)⟩
end

/-! ## a def's contract out of its body -/
theorem bindL_notin {k : Str → Option NameKind} {x : Str} : ∀ {l : List (Str × Value)} {m : Str → Option Value}, (∀ p ∈ l, p.1 ≠ x) → bindL k l m x = m x
  | [], _, _ => rfl
  | (n, v) :: r, m, h => by
    unfold bindL
    rw [bindL_notin fun p hp => h p (.tail _ hp)]
    have : x ≠ n := fun e => h (n, v) (.head _) e.symm
    by_cases hk : k n = some .local <;> simp [hk, this]
theorem bindL_mem {k : Str → Option NameKind} {x : Str} {v : Value} (hk : k x = some .local) : ∀ {l : List (Str × Value)} {m : Str → Option Value}, (l.map (·.1)).Nodup → (x, v) ∈ l → bindL k l m x = some v
  | (n, u) :: r, m, nd, h => by
    rw [List.map_cons, List.nodup_cons] at nd
    unfold bindL
    rcases List.mem_cons.mp h with e | h
    · cases e
      rw [bindL_notin fun p hp e => nd.1 (List.mem_map.mpr ⟨p, hp, e⟩)]
      simp [hk]
    · exact bindL_mem hk nd.2 h
theorem bindC_notin {k : Str → Option NameKind} {x : Str} : ∀ {l : List (Str × Value)} {m : Str → Option Value}, (∀ p ∈ l, p.1 ≠ x) → bindC k l m x = m x
  | [], _, _ => rfl
  | (n, v) :: r, m, h => by
    unfold bindC
    rw [bindC_notin fun p hp => h p (.tail _ hp)]
    have : x ≠ n := fun e => h (n, v) (.head _) e.symm
    by_cases hk : k n = some .local <;> simp [hk, this]
theorem bindC_mem {k : Str → Option NameKind} {x : Str} {v : Value} (hk : k x ≠ some .local) : ∀ {l : List (Str × Value)} {m : Str → Option Value}, (l.map (·.1)).Nodup → (x, v) ∈ l → bindC k l m x = some v
  | (n, u) :: r, m, nd, h => by
    rw [List.map_cons, List.nodup_cons] at nd
    unfold bindC
    rcases List.mem_cons.mp h with e | h
    · cases e
      rw [bindC_notin fun p hp e => nd.1 (List.mem_map.mpr ⟨p, hp, e⟩)]
      simp [hk]
    · exact bindC_mem hk nd.2 h

theorem zip_slot {W : Addr → Prop} {h : Heap} {x : Str} {sl : Slot} : ∀ {xs : List Str} {vs : List Value} {ds : List PyData}, RepL W h vs ds → (xs.zip (ds.map Slot.sh)).lookup x = some sl → ∃ d v, sl = .sh d ∧ (x, v) ∈ xs.zip vs ∧ Rep W h v d
  | [], _, _, _, e => by simp at e
  | y :: xs, _, _, .nil, e => by simp at e
  | y :: xs, _, _, .cons r q, e => by
    rw [List.map_cons, List.zip_cons_cons, List.lookup_cons] at e
    cases hb : x == y with
    | true => rw [hb] at e; cases e; have := beq_iff_eq.mp hb; subst this; exact ⟨_, _, rfl, .head _, r⟩
    | false => rw [hb] at e; obtain ⟨d, v, e1, e2, e3⟩ := zip_slot q e; exact ⟨d, v, e1, .tail _ e2, e3⟩

/-- the frame's first state -/
theorem fs_start {prog : Program} {w : World} {K : Frag} {mg mb : Str → Option Value} {A : Around} {f : Addr} {fd : FuncData} {s s₁ : Shared} {W : Addr → Prop} {γ : Gam} {binds : List (Str × Value)} (hg : GH K mg mb s.heap) (htk : 1 ≤ s₁.toks) (hw : ∀ a, W a → ∃ o, s.heap.get? a = some o)
    (hglo : fd.globals = mainGlobals) (hbui : fd.builtins = builtinsNs) (hki : fd.scope.kind = .function)
    (I : InCallC s (callEnvC fd s.heap.objs.size f).locals (bindL (callEnvC fd s.heap.objs.size f).kindOf binds fun _ => none) (callEnvC fd s.heap.objs.size f).cells (bindC (callEnvC fd s.heap.objs.size f).kindOf binds fun _ => none) s₁)
    (hγ : ∀ x sl, γ.lookup x = some sl → (∃ d v, sl = .sh d ∧ Bound (callEnvC fd s.heap.objs.size f) s₁.heap x v ∧ Rep W s.heap v d) ∨ (∃ l a vs, sl = .ro l ∧ Bound (callEnvC fd s.heap.objs.size f) s₁.heap x (.ref a) ∧ s.heap.IsList a (List.toArray vs) ∧ RepL W s.heap vs l ∧ ¬ W a)) :
    Fs ⟨prog, w, K, mg, mb, A, callEnvC fd s.heap.objs.size f, s, W⟩ (fun a => W a ∨ a = s.heap.objs.size ∨ ∃ x, (callEnvC fd s.heap.objs.size f).cells.lookup x = some a) (fun _ => 0) γ s₁ := by
  have keep := I.toInCall.keep
  have cN : ∀ x c, (callEnvC fd s.heap.objs.size f).cells.lookup x = some c → s.heap.get? c = none := fun x c e => fresh_none (Nat.le_of_lt (I.above x c (mem_of_lookup e)))
  have LN : s.heap.get? s.heap.objs.size = none := fresh_none (Nat.le_refl _)
  have cE : ∀ x c, (callEnvC fd s.heap.objs.size f).cells.lookup x = some c → ∃ o, s₁.heap.get? c = some o := fun x c e => by obtain ⟨o, ho, _⟩ := I.cell x c e; exact ⟨o, ho⟩
  have mv : ∀ a, ¬ W a → (∃ o, s.heap.get? a = some o) → ¬ (W a ∨ a = s.heap.objs.size ∨ ∃ x, (callEnvC fd s.heap.objs.size f).cells.lookup x = some a) := fun a n ⟨o, e⟩ q => by
    rcases q with q | q | ⟨x, q⟩
    · exact n q
    · rw [q, LN] at e; cases e
    · rw [cN x a q] at e; cases e
  have noOw : ∀ x l, γ.lookup x ≠ some (.ow l) := fun x l e => by
    rcases hγ x _ e with ⟨d, v, q, _⟩ | ⟨l, a, vs, q, _⟩ <;> cases q
  refine ⟨⟨⟨fun x c e => Nat.ne_of_gt (I.above x c (mem_of_lookup e)), fun x y c e e' => name_of_addr I.apart (mem_of_lookup e) (mem_of_lookup e')⟩, cE, hg.keeps keep, fun a q => ?_, hki, hglo, hbui, htk, fun x sl e => ?_⟩, hg, hw, ?_, fun a q => .inl q, fun a q => ?_, .inr (.inl rfl), LN, ⟨_, I.toInCall.ns⟩, fun x c e => ⟨.inr (.inr ⟨x, e⟩), cN x c e, _, I.cell x c e⟩,
    fun x l e => absurd e (noOw x l), fun x y l l' _ e => absurd e (noOw x l)⟩
  · rcases q with q | q | ⟨x, q⟩
    · obtain ⟨o, e⟩ := hw a q; exact ⟨o, keep _ _ e⟩
    · obtain ⟨o, _, _, e, _⟩ := I.toInCall.ns; exact ⟨o, q ▸ e⟩
    · exact cE x a q
  · rcases hγ x sl e with ⟨d, v, rfl, b, r⟩ | ⟨l, a, vs, rfl, b, hl, r, n⟩
    · exact ⟨v, b, r.move (fun b o _ e => keep b o e) mv⟩
    · exact ⟨a, vs, b, hl.at fun o e => keep _ o e, r.move (fun b o _ e => keep b o e) mv, mv a n (let ⟨o, ho, _⟩ := hl; ⟨o, ho⟩)⟩
  · obtain ⟨h', tk, e⟩ := I.toInCall.same
    exact ⟨h', tk, e, fun b o e' => by have := keep b o e'; rw [e] at this; exact this⟩
  · rcases q with q | q | ⟨x, q⟩
    · exact .inl q
    · exact .inr (q ▸ LN)
    · exact .inr (cN x a q)

theorem bound_start {fd : FuncData} {s s₁ : Shared} {f : Addr} {binds : List (Str × Value)} (nd : (binds.map (·.1)).Nodup)
    (I : InCallC s (callEnvC fd s.heap.objs.size f).locals (bindL (callEnvC fd s.heap.objs.size f).kindOf binds fun _ => none) (callEnvC fd s.heap.objs.size f).cells (bindC (callEnvC fd s.heap.objs.size f).kindOf binds fun _ => none) s₁)
    (hkind : ∀ p ∈ binds, fd.scope.names.lookup p.1 = some .local ∨ (fd.scope.names.lookup p.1 = some .cell ∧ ∀ n, ((cellsFrom n fd.scope.names []).lookup p.1).isSome = true)) {x : Str} {v : Value} (hm : (x, v) ∈ binds) :
    Bound (callEnvC fd s.heap.objs.size f) s₁.heap x v := by
  rcases hkind _ hm with hk | ⟨hk, hc⟩
  · exact .loc hk I.toInCall.ns (bindL_mem hk nd hm)
  · obtain ⟨c, hc⟩ := Option.isSome_iff_exists.mp (hc (s.heap.objs.size + 1))
    have hc' : (callEnvC fd s.heap.objs.size f).cells.lookup x = some c := hc
    have := I.cell x c hc'
    rw [bindC_mem (by show fd.scope.names.lookup x ≠ _; rw [hk]; simp) nd hm] at this
    exact .cell hk hc' this

theorem call_cellsT {prog : Program} {w : World} {A : Around} {s : Shared} {R : Result → Shared → Prop} {a : Addr} {o : Obj} {fd : FuncData} {body : List Stmt} {vals : List Value} {binds : List (Str × Value)}
    (hroom : A.depth < recursionLimit) (ho : s.heap.get? a = some o) (hdata : o.data = .func fd) (hlim : s.heap.NoLimit) (hcd : s.heap.CodeRec fd.code fd.qualname)
    (hbody : fd.body = .stmts body) (hbind : bindArgs fd ⟨vals, []⟩ = pure binds) (hclo : fd.closure = [])
    (hkind : ∀ x ∈ binds, fd.scope.names.lookup x.1 = some .local ∨ (fd.scope.names.lookup x.1 = some .cell ∧ ((cellsFrom (s.heap.objs.size + 1) fd.scope.names []).lookup x.1).isSome = true))
    (h : ∀ s₁, s.toks ≤ s₁.toks → InCallC s (callEnvC fd s.heap.objs.size a).locals (bindL (callEnvC fd s.heap.objs.size a).kindOf binds fun _ => none) (callEnvC fd s.heap.objs.size a).cells
        (bindC (callEnvC fd s.heap.objs.size a).kindOf binds fun _ => none) s₁ →
      wpAny (model prog w) (A.deeper (callEnvC fd s.heap.objs.size a)) (execs body (callEnvC fd s.heap.objs.size a)) (fun f s' => R (.ok (.ret (match f with | .ret v => v | _ => .none))) s') (fun _ _ => False) s₁)
    (hco : fd.scope.isCoroutine = false) (hgen : fd.scope.isGenerator = false) (hk : fd.scope.kind = .function) :
    codeAny (model prog w) A (.call (.ref a) ⟨vals, []⟩) R s := by
  refine codeAny_call_function hroom ho hdata hco hgen hbody hcd ?_
  rw [hbind, hclo]
  refine wpAny_pure (wpAny_with_toks (n := s.toks) (Nat.le_refl _) (wpAny_newFunctionEnv_cells hk hkind fun env he s' x ht => ?_))
  subst he
  exact ⟨hlim.keeps x.toInCall.keep, codeAny_func (wp_use (h s' ht x) fun _ _ q => q)⟩

/-- names known less, or otherwise said -/
inductive Fewer (γ : Gam) : Gam → Prop
  | nil : Fewer γ []
  | cons {x sl r} : γ.lookup x = some sl → Fewer γ r → Fewer γ ((x, sl) :: r)
theorem Fewer.get {γ : Gam} : ∀ {γ' : Gam}, Fewer γ γ' → ∀ x sl, γ'.lookup x = some sl → γ.lookup x = some sl
  | _, .nil, _, _, h => by simp at h
  | _, .cons (x := y) e r, x, sl, h => by
    rw [List.lookup_cons] at h
    cases hb : x == y with
    | true => rw [hb] at h; cases h; rw [beq_iff_eq.mp hb]; exact e
    | false => rw [hb] at h; exact r.get x sl h
theorem Fewer.int {γ : Gam} {x : Str} {a b : Int} {r : Gam} (h : γ.lookup x = some (.sh (.int a))) (e : a = b) (q : Fewer γ r) : Fewer γ ((x, .sh (.int b)) :: r) := .cons (e ▸ h) q
theorem Fewer.sh {γ : Gam} {x : Str} {a b : PyData} {r : Gam} (h : γ.lookup x = some (.sh a)) (e : a = b) (q : Fewer γ r) : Fewer γ ((x, .sh b) :: r) := .cons (e ▸ h) q
theorem Fewer.ow {γ : Gam} {x : Str} {a b : List PyData} {r : Gam} (h : γ.lookup x = some (.ow a)) (e : a = b) (q : Fewer γ r) : Fewer γ ((x, .ow b) :: r) := .cons (e ▸ h) q

theorem cells_some {x : Str} : ∀ {names : List (Str × NameKind)} (n : Nat) (acc : List (Str × Addr)), (acc.lookup x).isSome = true ∨ names.lookup x = some .cell → ((cellsFrom n names acc).lookup x).isSome = true
  | [], n, acc, h => by
    rcases h with h | h
    · exact h
    · simp at h
  | (y, k) :: r, n, acc, h => by
    unfold cellsFrom
    by_cases hk : k = .cell
    · subst hk
      simp only [beq_self_eq_true, if_true]
      refine cells_some _ _ ?_
      cases hb : x == y with
      | true => left; simp [List.lookup_cons, hb]
      | false => simpa [List.lookup_cons, hb] using h
    · have : (k == NameKind.cell) = false := beq_eq_false_iff_ne.mpr hk
      simp only [this, Bool.false_eq_true, if_false]
      refine cells_some _ _ ?_
      rcases h with h | h
      · exact .inl h
      · cases hb : x == y with
        | true => rw [List.lookup_cons, hb] at h; cases h; exact absurd rfl hk
        | false => rw [List.lookup_cons, hb] at h; exact .inr h
def kindsOk (scope : Scope) (xs : List Str) : Bool := xs.all fun x => scope.names.lookup x == some .local || scope.names.lookup x == some .cell
theorem kindsOk_get {scope : Scope} {xs : List Str} (h : kindsOk scope xs = true) : ∀ x ∈ xs, scope.names.lookup x = some .local ∨ (scope.names.lookup x = some .cell ∧ ∀ n, ((cellsFrom n scope.names []).lookup x).isSome = true) := fun x hx => by
  have := List.all_eq_true.mp h x hx
  simp only [Bool.or_eq_true, beq_iff_eq] at this
  exact this.imp id fun q => ⟨q, fun n => cells_some n [] (.inr q)⟩

theorem fn_of {prog : Program} {w : World} {K : Frag} {mg mb : Str → Option Value} {n : Nat} {f : Addr} {cls : Value} {od : Option Addr} {osl : Array (Option Value)} {fd : FuncData} {body : List Stmt} {ds : List PyData} {d : PyData} {xs : List Str}
    (hk : K.lookup f = some ⟨cls, od, .func fd, osl⟩) (hcd : codeIn K fd.code fd.qualname = true) (hbody : fd.body = .stmts body) (hclo : fd.closure = []) (hglo : fd.globals = mainGlobals) (hbui : fd.builtins = builtinsNs)
    (hbind : ∀ vs : List Value, vs.length = ds.length → bindArgs fd ⟨vs, []⟩ = pure (xs.zip vs)) (hlen : xs.length = ds.length) (hnd : xs.Nodup)
    (hkind : kindsOk fd.scope xs = true)
    (hco : fd.scope.isCoroutine = false) (hgen : fd.scope.isGenerator = false) (hki : fd.scope.kind = .function)
    (h : ∀ (A : Around) (s₀ : Shared) (W₀ : Addr → Prop) (L : Addr), RoomA n A → Ex ⟨prog, w, K, mg, mb, A, callEnvC fd L f, s₀, W₀⟩ (xs.zip (ds.map Slot.sh)) (execs body (callEnvC fd L f)) (fun out => out = .ret d)) :
    FnOk prog w K mg mb (n + 1) f ds d := by
  intro A s W vs hr hg htk hw hvs
  have hl := hvs.length
  have kz : ∀ p ∈ xs.zip vs, fd.scope.names.lookup p.1 = some .local ∨ (fd.scope.names.lookup p.1 = some .cell ∧ ∀ n, ((cellsFrom n fd.scope.names []).lookup p.1).isSome = true) := fun p hp => kindsOk_get hkind p.1 (List.of_mem_zip hp).1
  refine wpAny_call (call_cellsT (binds := xs.zip vs) (by have := hr.2.1; show _ < 1000; omega) (hg.k _ _ hk) rfl hg.lim (codeRec_of hg.k hcd) hbody (hbind vs hl) hclo (fun x hx => (kz x hx).imp id fun q => ⟨q.1, q.2 _⟩) (fun s₁ ht I => ?_) hco hgen hki)
  have nd : ((xs.zip vs).map (·.1)).Nodup := by rw [List.map_fst_zip (by omega)]; exact hnd
  have fs := fs_start (prog := prog) (w := w) (A := A.deeper (callEnvC fd s.heap.objs.size f)) (γ := xs.zip (ds.map Slot.sh)) hg (Nat.le_trans htk ht) hw hglo hbui hki I fun x sl e => by
    obtain ⟨d, v, rfl, hm, r⟩ := zip_slot hvs e
    exact .inl ⟨d, v, rfl, bound_start nd I kz hm, r⟩
  refine wp_use (h (A.deeper _) s W s.heap.objs.size hr.deeper _ _ s₁ fs) fun fl s' ⟨out, p, q⟩ => ?_
  subst p
  obtain ⟨v, rfl, k, r⟩ := q
  exact ⟨k, r⟩
end Mine
end

section
open PySem PySem.Calls PySem.W PyProof.Rows
set_option maxRecDepth 100000
set_option linter.unusedVariables false
namespace Mine

/-! ## the frame of a comprehension, with a cell or without, one clause or two -/
structure Cc where
  C : Cx
  sB : Shared
  cenv : Env
  D : Addr
  G0 : List (Str × PyData)
/-- what the loops write -/
def Tz (Z : Cc) (a : Addr) : Prop := a = Z.D ∨ a = Z.cenv.locals ∨ (∃ x, Z.cenv.cells.lookup x = some a ∧ Z.sB.heap.get? a = none)
structure CcOk (Z : Cc) : Prop where
  wf : EnvWf Z.cenv
  kind : Z.cenv.scope.kind = .function
  glob : Z.cenv.globals = mainGlobals
  bui : Z.cenv.builtins = builtinsNs
  g : GH Z.C.K Z.C.mg Z.C.mb Z.sB.heap
  tok : 1 ≤ Z.sB.toks
  wltB : ∀ a, Z.C.W a → ∃ o, Z.sB.heap.get? a = some o
  locN : Z.sB.heap.get? Z.cenv.locals = none
  DN : Z.sB.heap.get? Z.D = none
  Dloc : Z.D ≠ Z.cenv.locals
  Dcel : ∀ x c, Z.cenv.cells.lookup x = some c → c ≠ Z.D
  g0 : ∀ y d, Z.G0.lookup y = some d → ∃ v, Bound Z.cenv Z.sB.heap y v ∧ Rep Z.C.W Z.sB.heap v d
structure Cs (Z : Cc) (W : Addr → Prop) (lv : List (Str × PyData)) (ds : List PyData) (s : Shared) : Prop where
  same : ∃ h tk, s = { Z.sB with heap := h, toks := tk }
  keepB : ∀ b o, Z.sB.heap.get? b = some o → s.heap.get? b = some o
  tok : Z.sB.toks ≤ s.toks
  up : ∀ a, Z.C.W a → W a
  new : ∀ a, W a → Z.C.W a ∨ Z.sB.heap.get? a = none
  wlt : ∀ a, W a → ∃ o, s.heap.get? a = some o
  tz : ∀ a, Tz Z a → W a
  ns : ∃ m, s.heap.Ns Z.cenv.locals m
  own : ∀ x c, Z.cenv.cells.lookup x = some c → Z.sB.heap.get? c = none → ∃ v, s.heap.IsCell c v
  acc : ∃ vs, s.heap.PlainList Z.D (List.toArray vs) ∧ RepL W s.heap vs ds
  vars : ∀ y d, lv.lookup y = some d → ∃ v, Bound Z.cenv s.heap y v ∧ Rep W s.heap v d

def shG (l : List (Str × PyData)) : Gam := l.map fun p => (p.1, Slot.sh p.2)
theorem shG_look {y : Str} {sl : Slot} : ∀ {l : List (Str × PyData)}, (shG l).lookup y = some sl → ∃ d, sl = .sh d ∧ l.lookup y = some d
  | [], h => by simp [shG] at h
  | (x, d) :: l, h => by
    have h' : List.lookup y ((x, Slot.sh d) :: shG l) = some sl := h
    rw [List.lookup_cons] at h'
    rw [List.lookup_cons]
    cases hb : y == x with
    | true => rw [hb] at h'; cases h'; exact ⟨d, rfl, rfl⟩
    | false => rw [hb] at h'; exact shG_look h'
theorem look_app {β : Type} {y : Str} {d : β} : ∀ {l l' : List (Str × β)}, (l ++ l').lookup y = some d → l.lookup y = some d ∨ (l.lookup y = none ∧ l'.lookup y = some d)
  | [], _, h => .inr ⟨rfl, h⟩
  | (x, e) :: l, l', h => by
    rw [List.cons_append, List.lookup_cons] at h
    rw [List.lookup_cons]
    cases hb : y == x with
    | true => rw [hb] at h; exact .inl h
    | false => rw [hb] at h; exact look_app h

@[reducible] def Zx (Z : Cc) (W : Addr → Prop) (lv : List (Str × PyData)) : Cx := { Z.C with env := Z.cenv, W := W, γ := shG (lv ++ Z.G0) }

section
variable {Z : Cc} {W : Addr → Prop} {lv : List (Str × PyData)} {ds : List PyData} {s : Shared}

theorem Cs.ok (zk : CcOk Z) (cs : Cs Z W lv ds s) : Ok (Zx Z W lv) s := by
  have nW : ∀ a, ¬ Z.C.W a → (∃ o, Z.sB.heap.get? a = some o) → ¬ W a := fun a hn ⟨o, e⟩ hw => by
    rcases cs.new a hw with q | q
    · exact hn q
    · rw [q] at e; cases e
  refine ⟨zk.wf, fun x c e => ?_, zk.g.keeps cs.keepB, cs.wlt, zk.kind, zk.glob, zk.bui, Nat.le_trans zk.tok cs.tok, fun y sl e => ?_⟩
  · cases q : Z.sB.heap.get? c with
    | some o => exact ⟨o, cs.keepB c o q⟩
    | none => obtain ⟨v, o, h, _⟩ := cs.own x c e q; exact ⟨o, h⟩
  · obtain ⟨d, rfl, e'⟩ := shG_look e
    rcases look_app e' with q | ⟨_, q⟩
    · exact cs.vars y d q
    · obtain ⟨v, b, r⟩ := zk.g0 y d q
      exact ⟨v, b.keeps cs.keepB, r.move (fun b o _ e => cs.keepB b o e) nW⟩

theorem Cs.keeps {s' : Shared} (cs : Cs Z W lv ds s) (k : Keeps s s') (ht : s.toks ≤ s'.toks) : Cs Z W lv ds s' := by
  have kh := kp_heap k
  refine ⟨?_, fun b o e => kh b o (cs.keepB b o e), Nat.le_trans cs.tok ht, cs.up, cs.new, fun a q => let ⟨o, e⟩ := cs.wlt a q; ⟨o, kh a o e⟩, cs.tz, let ⟨m, h⟩ := cs.ns; ⟨m, h.keeps kh⟩, fun x c e q => let ⟨v, h⟩ := cs.own x c e q; ⟨v, h.keeps kh⟩,
    let ⟨vs, p, r⟩ := cs.acc; ⟨vs, p.at fun o e => kh _ o e, r.keeps kh⟩, fun y d e => let ⟨v, b, r⟩ := cs.vars y d e; ⟨v, b.keeps kh, r.keeps kh⟩⟩
  obtain ⟨h, tk, e⟩ := cs.same
  obtain ⟨h', tk', e', _⟩ := k
  exact ⟨h', tk', by rw [e', e]⟩

theorem Cs.fewer {lv' : List (Str × PyData)} (cs : Cs Z W lv ds s) (h : ∀ y d, lv'.lookup y = some d → lv.lookup y = some d) : Cs Z W lv' ds s :=
  { cs with vars := fun y d e => cs.vars y d (h y d e) }

/-- new places may be written from now on -/
theorem Cs.grow {W' : Addr → Prop} {s' : Shared} (cs : Cs Z W lv ds s) (k : Keeps s s') (ht : s.toks ≤ s'.toks) (hup : ∀ a, W a → W' a) (hnew : ∀ a, W' a → W a ∨ s.heap.get? a = none) (hex : ∀ a, W' a → ∃ o, s'.heap.get? a = some o) : Cs Z W' lv ds s' := by
  have cs' := cs.keeps k ht
  have kh := kp_heap k
  have mv : ∀ a, ¬ W a → (∃ o, s.heap.get? a = some o) → ¬ W' a := fun a n ⟨o, e⟩ hw => by
    rcases hnew a hw with r | r
    · exact n r
    · rw [r] at e; cases e
  refine { cs' with up := fun a q => hup a (cs.up a q), new := fun a q => ?_, wlt := hex, tz := fun a q => hup a (cs.tz a q), acc := ?_, vars := fun y d e => ?_ }
  · rcases hnew a q with r | r
    · exact cs.new a r
    · refine .inr ?_
      cases e : Z.sB.heap.get? a with
      | none => rfl
      | some o => rw [cs.keepB a o e] at r; cases r
  · obtain ⟨vs, p, r⟩ := cs.acc
    exact ⟨vs, p.at fun o e => kh _ o e, r.move (fun b o _ e => kh b o e) mv⟩
  · obtain ⟨v, b, r⟩ := cs.vars y d e
    exact ⟨v, b.keeps kh, r.move (fun b o _ e => kh b o e) mv⟩
/-- back to fewer places -/
theorem Cs.back {W' : Addr → Prop} {lv₀ ds₀} {s₀ : Shared} (cs₀ : Cs Z W lv₀ ds₀ s₀) (cs : Cs Z W' lv ds s) (hup : ∀ a, W a → W' a) : Cs Z W lv ds s :=
  { cs with
    up := cs₀.up
    new := cs₀.new
    wlt := fun a q => cs.wlt a (hup a q)
    tz := cs₀.tz
    acc := let ⟨vs, p, r⟩ := cs.acc; ⟨vs, p, r.less hup⟩
    vars := fun y d e => let ⟨v, b, r⟩ := cs.vars y d e; ⟨v, b, r.less hup⟩ }

/-- a heap that differs at places that no one of the frame looks at -/
theorem Cs.pokeB {W₀ : Addr → Prop} {lv₀ ds₀} {s₀ : Shared} {h' : Heap} {tk : Nat} {wr : List Addr} (cs₀ : Cs Z W₀ lv₀ ds₀ s₀) (hup : ∀ a, W₀ a → W a) (hex : ∀ a, W₀ a → a ∈ wr → ∃ o, h'.get? a = some o) (zk : CcOk Z) (cs : Cs Z W lv ds s) (ht : s.toks ≤ tk) (hk : ∀ b o, b ∉ wr → s.heap.get? b = some o → h'.get? b = some o) (hw : ∀ b ∈ wr, W b ∧ ¬ Tz Z b ∧ Z.sB.heap.get? b = none) :
    Cs Z W₀ lv ds { s with heap := h', toks := tk } := by
  have nT : ∀ b, Tz Z b → b ∉ wr := fun b q m => (hw b m).2.1 q
  have nB : ∀ b o, Z.sB.heap.get? b = some o → b ∉ wr := fun b o e m => by rw [(hw b m).2.2] at e; cases e
  have mv : ∀ b o, ¬ W b → s.heap.get? b = some o → h'.get? b = some o := fun b o n e => hk b o (fun m => n (hw b m).1) e
  refine ⟨?_, fun b o e => hk b o (nB b o e) (cs.keepB b o e), Nat.le_trans cs.tok ht, cs₀.up, cs₀.new, fun a q => ?_, cs₀.tz, let ⟨m, h⟩ := cs.ns; ⟨m, h.at' fun o e => hk _ o (nT _ (.inr (.inl rfl))) e⟩, fun x c e q => ?_, ?_, fun y d e => ?_⟩
  · obtain ⟨h, tk', e⟩ := cs.same; exact ⟨h', tk, by rw [e]⟩
  · by_cases m : a ∈ wr
    · exact hex a q m
    · obtain ⟨o, e⟩ := cs.wlt a (hup a q); exact ⟨o, hk a o m e⟩
  · obtain ⟨v, o, e1, e2⟩ := cs.own x c e q
    exact ⟨v, o, hk c o (nT c (.inr (.inr ⟨x, e, q⟩))) e1, e2⟩
  · obtain ⟨vs, p, r⟩ := cs.acc
    exact ⟨vs, p.at fun o e => hk _ o (nT _ (.inl rfl)) e, (r.move (W' := W) mv fun _ n _ => n).less hup⟩
  · obtain ⟨v, b, r⟩ := cs.vars y d e
    refine ⟨v, ?_, (r.move (W' := W) mv fun _ n _ => n).less hup⟩
    have cellK : ∀ c, Z.cenv.cells.lookup y = some c → ∀ o, s.heap.get? c = some o → h'.get? c = some o := fun c hc o e => by
      cases q : Z.sB.heap.get? c with
      | some o' => exact hk c o (nB c o' q) e
      | none => exact hk c o (nT c (.inr (.inr ⟨y, hc, q⟩))) e
    cases b with
    | loc p q r => exact .loc p (q.at' fun o e => hk _ o (nT _ (.inr (.inl rfl))) e) r
    | cell p q r => obtain ⟨o, e1, e2⟩ := r; exact .cell p q ⟨o, cellK _ q o e1, e2⟩
    | free p q r => obtain ⟨o, e1, e2⟩ := r; exact .free p q ⟨o, cellK _ q o e1, e2⟩
theorem Cs.poke {h' : Heap} {tk : Nat} {wr : List Addr} (zk : CcOk Z) (cs : Cs Z W lv ds s) (ht : s.toks ≤ tk) (hk : ∀ b o, b ∉ wr → s.heap.get? b = some o → h'.get? b = some o) (hw : ∀ b ∈ wr, W b ∧ ¬ Tz Z b ∧ Z.sB.heap.get? b = none) (hex : ∀ b ∈ wr, ∃ o, h'.get? b = some o) :
    Cs Z W lv ds { s with heap := h', toks := tk } := cs.pokeB (fun _ q => q) (fun a _ m => hex a m) zk cs ht hk hw

/-- the loop's name is stored -/
def stC (Z : Cc) (x : Str) : Prop := Z.cenv.kindOf x = some .local ∨ (Z.cenv.kindOf x = some .cell ∧ ∃ c, Z.cenv.cells.lookup x = some c ∧ Z.sB.heap.get? c = none)
theorem Cs.store {M : Model} {A : Around} {E : Value → Shared → Prop} {x : Str} {v : Value} {d : PyData} {Q : Unit → Shared → Prop} (zk : CcOk Z) (cs : Cs Z W lv ds s) (hx : stC Z x) (rv : Rep W s.heap v d)
    (h : ∀ h' tk, s.toks ≤ tk → Cs Z W ((x, d) :: lv) ds { s with heap := h', toks := tk } → (∀ b o, ¬ Tz Z b → s.heap.get? b = some o → h'.get? b = some o) → Q () { s with heap := h', toks := tk }) : wpAny M A (storeName Z.cenv x v) Q E s := by
  obtain ⟨a, st, ha⟩ : ∃ a, Storable Z.cenv s.heap x a ∧ (a = Z.cenv.locals ∨ ∃ y, Z.cenv.cells.lookup y = some a ∧ Z.sB.heap.get? a = none) := by
    rcases hx with hx | ⟨hx, c, hc, hn⟩
    · obtain ⟨m, hn⟩ := cs.ns; exact ⟨_, .loc hx rfl hn, .inl rfl⟩
    · obtain ⟨v, hv⟩ := cs.own x c hc hn; exact ⟨c, .cell hx hc hv, .inr ⟨x, hc, hn⟩⟩
  have hT : Tz Z a := .inr ha
  have haW := cs.tz a hT
  have haN : Z.sB.heap.get? a = none := by
    rcases ha with ha | ⟨y, _, hn⟩
    · rw [ha]; exact zk.locN
    · exact hn
  have haD : Z.D ≠ a := by
    rcases ha with ha | ⟨y, hy, _⟩
    · rw [ha]; exact zk.Dloc
    · exact (zk.Dcel y a hy).symm
  refine wpAny_with_toks (n := s.toks) (Nat.le_refl _) (wp_store zk.wf zk.kind st fun h' tk hsb st' bx by' htk => ?_)
  have mv : ∀ b o, ¬ W b → s.heap.get? b = some o → h'.get? b = some o := fun b o n e => hsb.extBut b o (fun q => n (q ▸ haW)) e
  refine h h' tk htk ⟨?_, fun b o e => hsb.extBut b o (fun q => by rw [q, haN] at e; cases e) (cs.keepB b o e), Nat.le_trans cs.tok htk, cs.up, cs.new, fun b q => ?_, cs.tz, ?_, fun y c e q => ?_, ?_, fun y d' e => ?_⟩ fun b o n e => hsb.extBut b o (fun q => n (q ▸ hT)) e
  · obtain ⟨h₀, tk', e⟩ := cs.same; exact ⟨h', tk, by rw [e]⟩
  · by_cases r : b = a
    · subst r; exact st'.some
    · obtain ⟨o, e⟩ := cs.wlt b q; exact ⟨o, hsb.extBut b o r e⟩
  · obtain ⟨m, hn⟩ := cs.ns
    cases st with
    | loc p q r => subst q; cases st' with
      | loc p' q' r' => exact ⟨_, r'⟩
      | cell p' q' r' => rw [p] at p'; cases p'
    | cell p q r => exact ⟨m, hn.sameBut hsb (Ne.symm (zk.wf.ne _ _ q))⟩
  · obtain ⟨u, hu⟩ := cs.own y c e q
    by_cases r : c = a
    · subst r
      cases st' with
      | loc p' q' r' => subst q'; exact absurd rfl (zk.wf.ne _ _ e)
      | cell p' q' r' => exact ⟨_, r'⟩
    · exact ⟨u, hu.sameBut hsb r⟩
  · obtain ⟨vs, p, r⟩ := cs.acc
    exact ⟨vs, p.at fun o e => hsb.extBut _ o haD e, r.move mv fun _ n _ => n⟩
  · rw [List.lookup_cons] at e
    cases hb : y == x with
    | true => rw [hb] at e; cases e; rw [beq_iff_eq.mp hb]; exact ⟨v, bx, rv.move mv fun _ n _ => n⟩
    | false =>
      rw [hb] at e
      obtain ⟨u, b, r⟩ := cs.vars y d' e
      exact ⟨u, by' y u (beq_eq_false_iff_ne.mp hb) b, r.move mv fun _ n _ => n⟩

/-- an item is put behind -/
theorem Cs.append {prog : Program} {w : World} {A : Around} {E : Value → Shared → Prop} {v : Value} {d : PyData} {Q : Value → Shared → Prop} (zk : CcOk Z) (cs : Cs Z W lv ds s) (rv : Rep W s.heap v d) (hsz : ds.length ≤ sizeLine)
    (h : ∀ h' x, Cs Z W lv (ds ++ [d]) { s with heap := h' } → (∀ b o, ¬ Tz Z b → s.heap.get? b = some o → h'.get? b = some o) → Q x { s with heap := h' }) :
    wpAny (model prog w) A (call (.builtin "list.append") [.ref Z.D, v]) Q E s := by
  obtain ⟨vs, p, r⟩ := cs.acc
  refine wpAny_list_append_plain p (fun h' hp' hsb => ?_) (by have := r.length; simp; omega)
  have hDW := cs.tz Z.D (.inl rfl)
  have mv : ∀ b o, ¬ W b → s.heap.get? b = some o → h'.get? b = some o := fun b o n e => hsb.extBut b o (fun q => n (q ▸ hDW)) e
  refine h h' _ ⟨?_, fun b o e => hsb.extBut b o (fun q => by rw [q, zk.DN] at e; cases e) (cs.keepB b o e), cs.tok, cs.up, cs.new, fun b q => ?_, cs.tz, let ⟨m, hn⟩ := cs.ns; ⟨m, hn.sameBut hsb zk.Dloc.symm⟩, fun y c e q => let ⟨u, hu⟩ := cs.own y c e q; ⟨u, hu.sameBut hsb (zk.Dcel y c e)⟩, ?_, fun y d' e => ?_⟩ fun b o n e => hsb.extBut b o (fun q => n (q ▸ .inl rfl)) e
  · obtain ⟨h₀, tk', e⟩ := cs.same; exact ⟨h', tk', by rw [e]⟩
  · by_cases q' : b = Z.D
    · obtain ⟨n, e⟩ := hp'; exact ⟨_, q' ▸ e⟩
    · obtain ⟨o, e⟩ := cs.wlt b q; exact ⟨o, hsb.extBut b o q' e⟩
  · exact ⟨vs ++ [v], by simpa using hp', RepL.snoc (r.move mv fun _ n _ => n) (rv.move mv fun _ n _ => n)⟩
  · obtain ⟨u, b, r'⟩ := cs.vars y d' e
    refine ⟨u, ?_, r'.move mv fun _ n _ => n⟩
    cases b with
    | loc p q r => exact .loc p (q.sameBut hsb zk.Dloc.symm) r
    | cell p q r => exact .cell p q (r.sameBut hsb (zk.Dcel _ _ q))
    | free p q r => exact .free p q (r.sameBut hsb (zk.Dcel _ _ q))
end
end Mine
end

section
open PySem PySem.Calls PySem.W PyProof.Rows
set_option maxRecDepth 100000
set_option linter.unusedVariables false
namespace Mine

/-- how a turn of a clause without a clause behind it goes; tst: its tests -/
def TRule (prog : Program) (w : World) (A : Around) (cl : Code) (x : Str) (px : Pos) (elt : PySem.Expr) (tst : (Bool → Shared → Prop) → (Value → Shared → Prop) → Shared → Prop) (it acc : Value) (env : Env) : Prop :=
  ∀ (R : Result → Shared → Prop) (I : Nat → Shared → Prop),
    (∀ (E : Value → Shared → Prop) (n : Nat) (s : Shared), I n s → wpAny (model prog w) A (pyNext it) (fun r s₁ => match r with
      | none => R (.ok .next) s₁
      | some v => wpAny (model prog w) A (PySem.assign (.Name x px) env v) (fun _ s₂ =>
          tst (fun ok s₃ =>
            if ok = true then wpAny (model prog w) A (eval elt env) (fun x s₄ =>
              wpAny (model prog w) A (call (.builtin "list.append") [acc, x]) (fun _ s₅ => ∃ m, m < n ∧ I m s₅) E s₄) E s₃
            else ∃ m, m < n ∧ I m s₃) E s₂) E s₁) E s) →
    ∀ (n : Nat) (s : Shared), I n s → codeAny (model prog w) A cl R s
def tstOf (prog : Program) (w : World) (A : Around) (ifs : List PySem.Expr) (env : Env) (Q : Bool → Shared → Prop) (E : Value → Shared → Prop) (s : Shared) : Prop :=
  wpAny (model prog w) A (forIn ifs true fun c r => if r = true then do let ok ← isTrue c env (eval c env); pure (ForInStep.yield ok) else pure (ForInStep.yield r)) Q E s
theorem trule1 {prog : Program} {w : World} {A : Around} {x : Str} {px : Pos} {elt iter : PySem.Expr} {ifs : List PySem.Expr} {scope : Scope} {pos : Pos} {it acc : Value} {env : Env} :
    TRule prog w A (.compLoop (.ListComp elt [⟨.Name x px, iter, ifs, 0⟩] scope pos) 0 it acc env) x px elt (tstOf prog w A ifs env) it acc env := fun R I turn n s h =>
  codeAny_compLoop_tests I (fun n s hI => turn _ n s hI) n h

section
variable {Z : Cc} {W : Addr → Prop} {lv : List (Str × PyData)} {ds : List PyData}

theorem loop_last {α : Type} {x : Str} {px : Pos} {elt : PySem.Expr} {tst : (Bool → Shared → Prop) → (Value → Shared → Prop) → Shared → Prop} {cl : Code} {R : Result → Shared → Prop} {ys : List α} {g f : α → PyData} {p : α → Bool} {s₁ : Shared} {I : Addr} {fp wr : List Addr} {P : Nat → Value → Prop} {St : Nat → Heap → Prop}
    {W₀ : Addr → Prop} {lv₀ : List (Str × PyData)} {ds₀ : List PyData} {s₀ : Shared} (cs₀ : Cs Z W₀ lv₀ ds₀ s₀) (hup : ∀ a, W₀ a → W a) (hoff : ∀ a, W₀ a → a ∉ wr) (zk : CcOk Z) (cs : Cs Z W lv ds s₁) (T : Walks Z.C.prog Z.C.w Z.C.A I fp wr ys.length P St) (hst : St 0 s₁.heap) (hex : ∀ i h, St i h → ∀ b ∈ wr, ∃ o, h.get? b = some o)
    (hwr : ∀ b ∈ wr, W b ∧ ¬ Tz Z b ∧ Z.sB.heap.get? b = none) (hfp : ∀ b ∈ fp, ¬ Tz Z b)
    (hrep : ∀ i v, P i v → i < ys.length → ∀ h', (∀ b o, ¬ W b → s₁.heap.get? b = some o → h'.get? b = some o) → ∃ a, ys[i]? = some a ∧ Rep W h' v (g a))
    (hx : stC Z x) (hlv : lv.lookup x = none) (htest : ∀ a ∈ ys, ∀ Q E s, Ok (Zx Z W ((x, g a) :: lv)) s → (∀ s', Keeps s s' → s.toks ≤ s'.toks → Q (p a) s') → tst Q E s) (helt : ∀ a ∈ ys, p a = true → Ev (Zx Z W ((x, g a) :: lv)) elt (f a)) (hsz : ds.length + ys.length ≤ sizeLine)
    (tr : TRule Z.C.prog Z.C.w Z.C.A cl x px elt tst (.ref I) (.ref Z.D) Z.cenv)
    (hend : ∀ s', Cs Z W₀ lv (ds ++ (ys.filter p).map f) s' → (∀ b o, ¬ Tz Z b → b ∉ wr → s₁.heap.get? b = some o → s'.heap.get? b = some o) → R (.ok .next) s') :
    codeAny (model Z.C.prog Z.C.w) Z.C.A cl R s₁ := by
  have fewer : ∀ d y e, lv.lookup y = some e → List.lookup y ((x, d) :: lv) = some e := fun d y e h => by
    rw [List.lookup_cons]
    cases hb : y == x with
    | true => rw [beq_iff_eq.mp hb, hlv] at h; cases h
    | false => exact h
  refine tr R (fun k s' => ∃ i, i ≤ ys.length ∧ k = ys.length + 1 - i ∧ St i s'.heap ∧ Cs Z W lv (ds ++ ((ys.take i).filter p).map f) s' ∧ (∀ b o, ¬ Tz Z b → b ∉ wr → s₁.heap.get? b = some o → s'.heap.get? b = some o)) ?_ (ys.length + 1) s₁ ⟨0, Nat.zero_le _, rfl, hst, by simpa using cs, fun b o _ _ e => e⟩
  rintro E k s' ⟨i, hi, rfl, hst', cs', pr⟩
  by_cases hlt : i < ys.length
  · have ha : ys[i]? = some ys[i] := List.getElem?_eq_getElem hlt
    have e1 : (ys.take (i + 1)).filter p = (ys.take i).filter p ++ (if p ys[i] = true then [ys[i]] else []) := by
      rw [List.take_add_one, ha, List.filter_append]
      by_cases hp : p ys[i] = true <;> simp [hp]
    have hlen : (ds ++ ((ys.take i).filter p).map f).length ≤ ds.length + i := by
      have h1 := List.length_filter_le p (ys.take i)
      have h2 := List.length_take_le i ys
      rw [List.length_append, List.length_map]; omega
    refine wpAny_with_toks (n := s'.toks) (Nat.le_refl _) (T.item i _ _ _ hlt hst' fun v h₂ tk₂ hP hst₂ hk₂ htk₂ => ?_)
    have cs₂ := cs'.poke zk htk₂ hk₂ hwr (hex _ _ hst₂)
    obtain ⟨a, ea, rv⟩ := hrep i v hP hlt h₂ fun b o n e => hk₂ b o (fun m => n (hwr b m).1) (pr b o (fun t => n (cs'.tz b t)) (fun m => n (hwr b m).1) e)
    rw [ha] at ea; cases ea
    refine wpAny_assign_Name (cs₂.store zk hx rv fun h₃ tk₃ htk₃ cs₃ nt₃ => ?_)
    have k₃ : ∀ b o, ¬ Tz Z b → b ∉ wr → s₁.heap.get? b = some o → h₃.get? b = some o := fun b o n m e => nt₃ b o n (hk₂ b o m (pr b o n m e))
    have hst₃ : St (i + 1) h₃ := T.frame _ _ _ hst₂ fun b hb o e => nt₃ b o (hfp b hb) e
    refine htest ys[i] (List.getElem_mem hlt) _ _ _ (cs₃.ok zk) fun s₄ K₄ ht₄ => ?_
    have cs₄ := cs₃.keeps K₄ ht₄
    have kh₄ := kp_heap K₄
    cases hp : p ys[i] with
    | false =>
      simp only [Bool.false_eq_true, if_false]
      refine ⟨ys.length + 1 - (i + 1), by omega, i + 1, hlt, rfl, T.frame _ _ _ hst₃ fun b _ o e => kh₄ b o e, ?_, fun b o n m e => kh₄ b o (k₃ b o n m e)⟩
      rw [e1, hp]
      simpa using cs₄.fewer (fewer _)
    | true =>
      simp only [if_true]
      refine wp_useT (helt ys[i] (List.getElem_mem hlt) hp _ (cs₄.ok zk)) fun y s₅ ht₅ q₅ => ?_
      obtain ⟨K₅, r₅⟩ := q₅
      have cs₅ := cs₄.keeps K₅ ht₅
      have kh₅ := kp_heap K₅
      refine cs₅.append zk r₅ (by omega) fun h₆ _ cs₆ nt₆ => ?_
      refine ⟨ys.length + 1 - (i + 1), by omega, i + 1, hlt, rfl, T.frame _ _ _ hst₃ fun b hb o e => nt₆ b o (hfp b hb) (kh₅ b o (kh₄ b o e)), ?_, fun b o n m e => nt₆ b o n (kh₅ b o (kh₄ b o (k₃ b o n m e)))⟩
      rw [e1, hp, if_pos rfl, List.map_append, ← List.append_assoc]
      exact cs₆.fewer (fewer _)
  · have hin : i = ys.length := by omega
    subst hin
    refine wpAny_with_toks (n := s'.toks) (Nat.le_refl _) (T.done _ _ _ hst' fun h₂ tk₂ hk₂ htk₂ => ?_)
    refine hend _ ?_ fun b o n m e => hk₂ b o m (pr b o n m e)
    have := cs₀.pokeB hup (fun a q m => absurd m (hoff a q)) zk cs' htk₂ hk₂ hwr
    rwa [List.take_of_length_le (Nat.le_refl _)] at this
end
end Mine
end

section
open PySem PySem.Calls PySem.W PyProof.Rows
set_option maxRecDepth 100000
set_option linter.unusedVariables false
namespace Mine

theorem wp_newEnv {M : Model} {A : Around} {E : Value → Shared → Prop} {scope : Scope} {globals : Addr} {closure : List (Str × Addr)} {qual : Str} {env : Env} {Q : Env → Shared → Prop} {s : Shared}
    (h : Q (newEnv scope s.heap.objs.size globals (cellsFrom (s.heap.objs.size + 1) scope.names closure) qual none .none (some env) builtinsNs) { s with heap := pushCells (s.heap.push { cls := .type "dict", data := .dict #[] }) scope.names }) :
    wpAny M A (newFunctionEnv scope globals closure [] qual none .none (some env)) Q E s := by
  simp only [newFunctionEnv, Option.isSome_some, if_true]
  refine wpAny_bind (wpAny_alloc ?_)
  refine wpAny_bind (wpAny_layCells _ (fun name kind cells => by cases hkc : kind == NameKind.cell <;> simp [hkc]) _ _ _ _ ?_)
  rw [show ({ s with heap := s.heap.push { cls := .type "dict", data := .dict #[] } } : Shared).heap.objs.size = s.heap.objs.size + 1 from Heap.size_push ..]
  exact wpAny_bind (wpAny_pure (wpAny_pure h))

def ownCells : Option Str → Addr → List (Str × Addr) → List (Str × Addr)
  | none, _, acc => acc
  | some x, n, acc => (x, n) :: acc
def ownHeap : Option Str → Heap → Heap
  | none, h => h
  | some _, h => h.push { cls := .type "cell", data := .cell none }
def ownAddrs : Option Str → Addr → List Addr
  | none, _ => []
  | some _, n => [n]
@[reducible] def cenvOf (own : Option Str) (scope : Scope) (env : Env) (L : Addr) : Env := { compEnvC scope (closOf scope env) L env with cells := ownCells own (L + 1) (closOf scope env) }

def CompRule (C : Cx) (e iter : PySem.Expr) (scope : Scope) (ds : List PyData) : Prop :=
  ∀ (use : Option (Value → Sem Unit)) (Q : Value → Shared → Prop) (E : Value → Shared → Prop) (s : Shared) (pos' : Pos), Ok C s →
    (∀ D L s', s.toks ≤ s'.toks → CompEnd C s D L ds s' → compPost (model C.prog C.w) C.A E use Q (.ref D) L (.ok .next) s') →
    wpAny (model C.prog C.w) C.A (comprehension e scope C.env pos' (newList []) false (eval iter C.env) use) Q E s

/-- what a comprehension's loop starts from -/
structure Start (C : Cx) (s : Shared) (own : Option Str) (scope : Scope) (G0 : List (Str × PyData)) (items : List PyData) (Z : Cc) (I : Addr) (fp wr : List Addr) (P : Nat → Value → Prop) (St : Nat → Heap → Prop) (W W₀ : Addr → Prop) (s₁ : Shared) : Prop where
  zC : Z.C = C
  zB : Z.sB = s
  zE : Z.cenv = cenvOf own scope C.env Z.cenv.locals
  zG : Z.G0 = G0
  zk : CcOk Z
  cs₀ : Cs Z W₀ [] [] s₁
  cs : Cs Z W [] [] s₁
  hup : ∀ a, W₀ a → W a
  hoff : ∀ a, W₀ a → a ∉ wr
  W₀e : ∀ a, W₀ a ↔ (C.W a ∨ Tz Z a)
  walks : Walks C.prog C.w C.A I fp wr items.length P St
  st : St 0 s₁.heap
  ex : ∀ i h, St i h → ∀ b ∈ wr, ∃ o, h.get? b = some o
  wrk : ∀ b ∈ wr, W b ∧ ¬ Tz Z b ∧ Z.sB.heap.get? b = none
  fpk : ∀ b ∈ fp, ¬ Tz Z b
  exf : ∀ i h, St i h → ∀ b ∈ fp, ∃ o, h.get? b = some o
  rep : ∀ i v, P i v → i < items.length → ∀ h', (∀ b o, ¬ W b → s₁.heap.get? b = some o → h'.get? b = some o) → ∃ d, items[i]? = some d ∧ Rep W h' v d
  tok : s.toks ≤ s₁.toks
  cellx : ∀ x, own = some x → Z.cenv.cells.lookup x = some (Z.cenv.locals + 1) ∧ s.heap.get? (Z.cenv.locals + 1) = none

theorem comp_open {C : Cx} {e iter target : PySem.Expr} {ifs : List PySem.Expr} {gs : List Comprehension} {scope : Scope} {own : Option Str} {G0 : List (Str × PyData)} {items : List PyData} {use : Option (Value → Sem Unit)} {Q : Value → Shared → Prop} {E : Value → Shared → Prop} {s : Shared} {pos' : Pos}
    (o : Ok C s) (hcl : clausesOf e = ⟨target, iter, ifs, 0⟩ :: gs) (hit : It C iter items) (hG0 : ∀ y d, G0.lookup y = some d → C.γ.lookup y = some (.sh d) ∧ scope.names.lookup y = some .free) (hf : freeOk scope C.env = true) (hkind : scope.kind = .function) (hnames : ∀ x ∈ scope.names, x.2 = .local → scope.names.lookup x.1 = some .local)
    (hcells : ∀ n acc, cellsFrom n scope.names acc = ownCells own n acc) (hpush : ∀ h, pushCells h scope.names = ownHeap own h) (hown : ∀ x, own = some x → scope.names.lookup x = some .cell)
    (hs : ∀ x, foldedSetIterable iter C.env x = pure x)
    (hend : ∀ Z I fp wr P St W W₀ s₁, Start C s own scope G0 items Z I fp wr P St W W₀ s₁ → codeAny (model C.prog C.w) C.A (.compStart e 0 (.ref I) (.ref Z.D) Z.cenv) (compPost (model C.prog C.w) C.A E use Q (.ref Z.D) Z.cenv.locals) s₁) :
    wpAny (model C.prog C.w) C.A (comprehension e scope C.env pos' (newList []) false (eval iter C.env) use) Q E s := by
  refine wpAny_comprehension_free hcl hs (closureFor_of hf) hkind hnames ?_
  refine wp_useT (hit s o) fun xv s₁ ht₁ h₁ => wp_useT h₁ fun it s₂ ht₂ h₂ => ?_
  obtain ⟨I, fp, wr, P, St, rfl, T⟩ := h₂
  have o₂ : Ok C s₂ := o.keepsS T.keeps (Nat.le_trans ht₁ ht₂)
  refine wpAny_newList (wp_newEnv ?_) (by decide)
  dsimp only
  rw [hcells, hpush]
  generalize hD : s₂.heap.objs.size = D
  generalize hL : (s₂.heap.push { cls := .type "list", data := .seq ([] : List Value).toArray }).objs.size = L
  have hLD : L = D + 1 := by rw [← hL, ← hD]; exact Heap.size_push ..
  have nD : ∀ a, D ≤ a → s₂.heap.get? a = none := fun a ha => fresh_none (by rw [hD]; exact ha)
  have sN : ∀ a, D ≤ a → s.heap.get? a = none := fun a ha => by
    cases q : s.heap.get? a with
    | none => rfl
    | some o' => have := kp_heap T.keeps _ _ q; rw [nD a ha] at this; cases this
  let hp := (s₂.heap.push { cls := .type "list", data := .seq ([] : List Value).toArray }).push { cls := .type "dict", data := .dict #[] }
  have hpo : ∀ b o, hp.get? b = some o → (ownHeap own hp).get? b = some o := fun b o' e => by
    cases own with
    | none => exact e
    | some x => exact Heap.get?_push_of_some _ e
  have old : ∀ b o, s₂.heap.get? b = some o → (ownHeap own hp).get? b = some o := fun b o' e => hpo b o' (Heap.get?_push_of_some _ (Heap.get?_push_of_some _ e))
  have szp : hp.objs.size = L + 1 := by show ((s₂.heap.push _).push _).objs.size = _; rw [Heap.size_push, hL]
  have hns : (ownHeap own hp).Ns L (fun _ => none) := by
    have := Heap.Ns.new (s₂.heap.push { cls := .type "list", data := .seq ([] : List Value).toArray }) (.type "dict")
    rw [hL] at this
    exact this.keeps hpo
  have hDl : (ownHeap own hp).PlainList D (List.toArray []) := ⟨_, hpo _ _ (Heap.get?_push_of_some _ (by rw [← hD]; exact Heap.get?_push_size _ rfl))⟩
  have hcell : ∀ x, own = some x → (ownHeap own hp).IsCell (L + 1) none := fun x hx => by
    subst hx
    exact ⟨_, (by rw [← szp]; exact Heap.get?_push_size _ rfl), rfl⟩
  have closN : ∀ x c, (closOf scope C.env).lookup x = some c → ∃ o, s.heap.get? c = some o := fun x c hc => o.cex x c (closOf_back hf hc)
  have cellsE : ∀ x c, (ownCells own (L + 1) (closOf scope C.env)).lookup x = some c → (own = some x ∧ c = L + 1) ∨ (closOf scope C.env).lookup x = some c := fun x c hc => by
    cases own with
    | none => exact .inr hc
    | some y =>
      have hc' : List.lookup x ((y, L + 1) :: closOf scope C.env) = some c := hc
      rw [List.lookup_cons] at hc'
      cases hb : x == y with
      | true => rw [hb] at hc'; cases hc'; exact .inl ⟨by rw [beq_iff_eq.mp hb], rfl⟩
      | false => rw [hb] at hc'; exact .inr hc'
  let Z : Cc := ⟨C, s, cenvOf own scope C.env L, D, G0⟩
  have tzE : ∀ a, Tz Z a → a = D ∨ a = L ∨ (a = L + 1 ∧ own.isSome) := fun a q => by
    rcases q with q | q | ⟨x, hx, hn⟩
    · exact .inl q
    · exact .inr (.inl q)
    · rcases cellsE x a hx with ⟨h1, h2⟩ | h1
      · exact .inr (.inr ⟨h2, by rw [h1]; rfl⟩)
      · obtain ⟨o', e⟩ := closN x a h1
        have hn' : s.heap.get? a = none := hn
        rw [e] at hn'; cases hn'
  have tzlo : ∀ a, Tz Z a → D ≤ a := fun a q => by
    rcases tzE a q with q | q | ⟨q, _⟩
    · rw [q]; exact Nat.le_refl _
    · rw [q, hLD]; exact Nat.le_succ _
    · rw [q, hLD]; exact Nat.le_succ_of_le (Nat.le_succ _)
  have tzEx : ∀ a, Tz Z a → ∃ o, (ownHeap own hp).get? a = some o := fun a q => by
    rcases tzE a q with q | q | ⟨q, hs⟩
    · obtain ⟨n, e⟩ := hDl; exact ⟨_, q ▸ e⟩
    · obtain ⟨o', _, _, e, _⟩ := hns; exact ⟨o', q ▸ e⟩
    · obtain ⟨x, hx⟩ := Option.isSome_iff_exists.mp hs
      obtain ⟨o', e, _⟩ := hcell x hx; exact ⟨o', q ▸ e⟩
  have fplo : ∀ b ∈ fp, b < D := fun b hb => by have := T.low b hb; rw [hD] at this; exact this
  have kB : ∀ b o, s.heap.get? b = some o → (ownHeap own hp).get? b = some o := fun b o' e => old b o' (kp_heap T.keeps b o' e)
  have zk : CcOk Z := by
    refine ⟨⟨fun x c hc => ?_, fun x y c hx hy => ?_⟩, ?_, o.glob, o.bui, o.g, o.tok, o.wlt, sN L (by rw [hLD]; exact Nat.le_succ _), sN D (Nat.le_refl _), ?_, fun x c hc => ?_, fun y d hy => ?_⟩
    · show c ≠ L
      rcases cellsE x c hc with ⟨_, h2⟩ | h1
      · rw [h2]; exact Nat.ne_of_gt (Nat.lt_succ_self _)
      · obtain ⟨o', e⟩ := closN x c h1
        intro q; rw [q, sN L (by rw [hLD]; exact Nat.le_succ _)] at e; cases e
    · rcases cellsE x c hx with ⟨h1, h2⟩ | h1 <;> rcases cellsE y c hy with ⟨h3, h4⟩ | h3
      · rw [h1] at h3; exact (Option.some.inj h3)
      · obtain ⟨o', e⟩ := closN y c h3
        rw [h2, sN (L + 1) (by rw [hLD]; exact Nat.le_succ_of_le (Nat.le_succ _))] at e; cases e
      · obtain ⟨o', e⟩ := closN x c h1
        rw [h4, sN (L + 1) (by rw [hLD]; exact Nat.le_succ_of_le (Nat.le_succ _))] at e; cases e
      · exact o.wf.inj x y c (closOf_back hf h1) (closOf_back hf h3)
    · show (relabel scope C.env).kind = _; exact hkind
    · show D ≠ L; rw [hLD]; exact Nat.ne_of_lt (Nat.lt_succ_self _)
    · show c ≠ D
      rcases cellsE x c hc with ⟨_, h2⟩ | h1
      · rw [h2, hLD]; exact Nat.ne_of_gt (Nat.lt_succ_of_lt (Nat.lt_succ_self _))
      · obtain ⟨o', e⟩ := closN x c h1
        intro q; rw [q, sN D (Nat.le_refl _)] at e; cases e
    · obtain ⟨g1, g2⟩ := hG0 y d hy
      obtain ⟨v, b, r⟩ := o.var y _ g1
      refine ⟨v, ?_, r⟩
      have bi := bound_in (c := L) o.kind hf g2 b
      have nown : own ≠ some y := fun q => by rw [hown y q] at g2; cases g2
      have lk : ∀ c, (closOf scope C.env).lookup y = some c → (ownCells own (L + 1) (closOf scope C.env)).lookup y = some c := fun c hc => by
        cases own with
        | none => exact hc
        | some z =>
          show List.lookup y ((z, L + 1) :: closOf scope C.env) = some c
          rw [List.lookup_cons]
          cases hb : y == z with
          | true => exact absurd (by rw [beq_iff_eq.mp hb]) nown
          | false => exact hc
      cases bi with
      | loc p q r => exact .loc p q r
      | cell p q r => exact .cell p (lk _ q) r
      | free p q r => exact .free p (lk _ q) r
  have csG : ∀ W : Addr → Prop, (∀ a, C.W a → W a) → (∀ a, W a → C.W a ∨ s.heap.get? a = none) → (∀ a, W a → ∃ o, (ownHeap own hp).get? a = some o) → (∀ a, Tz Z a → W a) → Cs Z W [] [] { s₂ with heap := ownHeap own hp } := fun W h1 h2 h3 h4 => by
    refine ⟨?_, kB, Nat.le_trans ht₁ ht₂, h1, h2, h3, h4, ⟨_, hns⟩, fun x c hc hn => ?_, ⟨[], hDl, .nil⟩, fun y d e => by simp at e⟩
    · obtain ⟨h', tk, e, _⟩ := T.keeps; exact ⟨ownHeap own hp, s₂.toks, by rw [e]⟩
    · rcases cellsE x c hc with ⟨q1, q2⟩ | q1
      · exact ⟨none, q2 ▸ hcell x q1⟩
      · obtain ⟨o', e⟩ := closN x c q1
        have hn' : s.heap.get? c = none := hn
        rw [e] at hn'; cases hn'
  have wrEx : ∀ a ∈ wr, ∃ o, (ownHeap own hp).get? a = some o := fun a ha => by
    obtain ⟨o', e, _⟩ := T.ex _ _ T.start a ha
    exact ⟨o', old a o' e⟩
  have wEx : ∀ a, C.W a → ∃ o, (ownHeap own hp).get? a = some o := fun a ha => by obtain ⟨o', e⟩ := o.wlt a ha; exact ⟨o', kB a o' e⟩
  have st₁ : St 0 (ownHeap own hp) := T.walks.frame _ _ _ T.start fun b _ o' e => old b o' e
  refine hend Z I fp wr P St (fun a => C.W a ∨ Tz Z a ∨ a ∈ wr) (fun a => C.W a ∨ Tz Z a) { s₂ with heap := ownHeap own hp } ⟨rfl, rfl, rfl, rfl, zk, ?_, ?_, fun a q => q.imp id .inl, fun a q m => ?_, fun a => .rfl, T.walks, st₁, fun i h st b hb => let ⟨o', e, _⟩ := T.ex i h st b hb; ⟨o', e⟩, fun b hb => ⟨.inr (.inr hb), fun q => ?_, T.new b hb⟩, fun b hb q => ?_, T.exf, ?_, Nat.le_trans ht₁ ht₂, fun x hx => ⟨?_, sN (L + 1) (by rw [hLD]; exact Nat.le_succ_of_le (Nat.le_succ _))⟩⟩
  · exact csG _ (fun a q => .inl q) (fun a q => q.imp id fun r => sN a (tzlo a r)) (fun a q => q.elim (wEx a) (tzEx a)) fun a q => .inr q
  · refine csG _ (fun a q => .inl q) (fun a q => q.imp id fun r => ?_) (fun a q => ?_) fun a q => .inr (.inl q)
    · rcases r with r | r
      · exact sN a (tzlo a r)
      · exact T.new a r
    · rcases q with q | q | q
      · exact wEx a q
      · exact tzEx a q
      · exact wrEx a q
  · have hlt := fplo a (T.walks.sub a m)
    rcases q with q | q
    · obtain ⟨o', e⟩ := o.wlt a q
      rw [T.new a m] at e; cases e
    · exact absurd (tzlo a q) (Nat.not_le.mpr hlt)
  · exact absurd (tzlo b q) (Nat.not_le.mpr (fplo b (T.walks.sub b hb)))
  · exact absurd (tzlo b q) (Nat.not_le.mpr (fplo b hb))
  · intro i v hP hi h' hk
    obtain ⟨d, hd, rd⟩ := T.rep i v hP hi (hideAll h' (D :: L :: (L + 1) :: wr)) fun b o' hb hbw e => by
      have hbD : b < D := by have := Heap.lt_size e; rw [hD] at this; exact this
      have nT : ¬ Tz Z b := fun q => absurd (tzlo b q) (Nat.not_le.mpr hbD)
      refine hideAll_get _ (hk b o' (fun q => ?_) (old b o' e)) ?_
      · rcases q with q | q | q
        · exact hb q
        · exact nT q
        · exact hbw q
      · intro m
        rcases List.mem_cons.mp m with q | m
        · exact absurd hbD (by rw [q]; exact Nat.lt_irrefl _)
        · rcases List.mem_cons.mp m with q | m
          · rw [q, hLD] at hbD; exact absurd hbD (Nat.not_lt.mpr (Nat.le_succ _))
          · rcases List.mem_cons.mp m with q | m
            · rw [q, hLD] at hbD; exact absurd hbD (Nat.not_lt.mpr (Nat.le_succ_of_le (Nat.le_succ _)))
            · exact hbw m
    refine ⟨d, hd, rd.move (fun b o' _ e => of_hideAll _ e) fun a hn ⟨o', e⟩ hw => ?_⟩
    have nin : a ∉ D :: L :: (L + 1) :: wr := fun m => by rw [hideAll_none _ m] at e; cases e
    rcases hw with hw | hw | hw
    · exact hn hw
    · rcases tzE a hw with q | q | ⟨q, _⟩
      · exact nin (q ▸ .head _)
      · exact nin (q ▸ .tail _ (.head _))
      · exact nin (q ▸ .tail _ (.tail _ (.head _)))
    · exact nin (.tail _ (.tail _ (.tail _ hw)))
  · subst hx
    show List.lookup x ((x, L + 1) :: closOf scope C.env) = some (L + 1)
    simp
end Mine
end

section
open PySem PySem.Calls PySem.W PyProof.Rows
set_option maxRecDepth 100000
set_option linter.unusedVariables false
namespace Mine

@[reducible] def inCx (C : Cx) (own : Option Str) (scope : Scope) (W : Addr → Prop) (L : Addr) (l : List (Str × PyData)) : Cx := { C with env := cenvOf own scope C.env L, W := W, γ := shG l }
theorem zx_eq {C : Cx} {s : Shared} {own : Option Str} {scope : Scope} {G0 : List (Str × PyData)} {Z : Cc} (zC : Z.C = C) (zE : Z.cenv = cenvOf own scope C.env Z.cenv.locals) (zG : Z.G0 = G0) (W : Addr → Prop) (lv : List (Str × PyData)) : Zx Z W lv = inCx C own scope W Z.cenv.locals (lv ++ G0) := by
  obtain ⟨ZC, sB, cenv, D, G⟩ := Z
  subst zC zG
  show ({ ZC with env := cenv, W := W, γ := shG (lv ++ G) } : Cx) = { ZC with env := cenvOf own scope ZC.env cenv.locals, W := W, γ := shG (lv ++ G) }
  have zE' : cenv = cenvOf own scope ZC.env cenv.locals := zE
  rw [← zE']

theorem lookup_relabel_cell {env : Env} : ∀ {names : List (Str × NameKind)} {x : Str}, names.lookup x = some .cell →
    (names.map fun (n, k) => if (k == NameKind.free && env.scope.kind == .function && env.kindOf n == some .cell) then (n, NameKind.cell) else (n, k)).lookup x = some .cell
  | [], _, h => by simp at h
  | (n, k) :: r, x, h => by
    have ih := @lookup_relabel_cell env r x
    show List.lookup x ((if (k == NameKind.free && env.scope.kind == .function && env.kindOf n == some .cell) = true then (n, NameKind.cell) else (n, k)) :: _) = _
    cases hx : x == n with
    | true =>
      simp only [List.lookup_cons, hx] at h
      cases h
      simp [List.lookup_cons, hx]
    | false =>
      simp only [List.lookup_cons, hx] at h
      by_cases hc : (k == NameKind.free && env.scope.kind == .function && env.kindOf n == some .cell) = true
      · rw [if_pos hc]; simp only [List.lookup_cons, hx]; exact ih h
      · rw [if_neg hc]; simp only [List.lookup_cons, hx]; exact ih h

theorem comp_end {C : Cx} {s : Shared} {Z : Cc} {W₀ : Addr → Prop} {lv : List (Str × PyData)} {ds : List PyData} {s' : Shared} (zC : Z.C = C) (zB : Z.sB = s) (zk : CcOk Z) (hW : ∀ a, W₀ a ↔ (C.W a ∨ Tz Z a)) (cs : Cs Z W₀ lv ds s') : CompEnd C s Z.D Z.cenv.locals ds s' := by
  subst zB
  obtain ⟨h', tk, e⟩ := cs.same
  obtain ⟨vs, p, r⟩ := cs.acc
  refine ⟨⟨h', tk, e, fun b o q => by have := cs.keepB b o q; rw [e] at this; exact this⟩, zk.DN, zk.locN, zk.Dloc, cs.ns, vs, p, r.less fun a q => ?_⟩
  rw [hW]
  rcases q with q | q | q
  · exact .inl q
  · exact .inr (.inl q)
  · exact .inr (.inr (.inl q))

section
variable {C : Cx}
theorem st_of {own : Option Str} {scope : Scope} {G0 : List (Str × PyData)} {items : List PyData} {s : Shared} {Z : Cc} {I : Addr} {fp wr : List Addr} {P : Nat → Value → Prop} {St : Nat → Heap → Prop} {W W₀ : Addr → Prop} {s₁ : Shared} (S : Start C s own scope G0 items Z I fp wr P St W W₀ s₁) {x : Str}
    (hx : scope.names.lookup x = some .local ∨ (own = some x ∧ scope.names.lookup x = some .cell)) : stC Z x := by
  have e : Z.cenv.kindOf x = (cenvOf own scope C.env Z.cenv.locals).kindOf x := congrArg (fun e : Env => e.kindOf x) S.zE
  rcases hx with hx | ⟨ho, hx⟩
  · left; rw [e]; exact lookup_relabel_local hx
  · right
    obtain ⟨c1, c2⟩ := S.cellx x ho
    exact ⟨by rw [e]; exact lookup_relabel_cell hx, _, c1, by rw [S.zB]; exact c2⟩

/-- one clause -/
theorem comp_rule1 {α : Type} {elt iter : PySem.Expr} {x : Str} {px : Pos} {ifs : List PySem.Expr} {scope : Scope} {pos : Pos} {ys : List α} {g f : α → PyData} {p : α → Bool} (own : Option Str) (G0 : List (Str × PyData))
    (hit : It C iter (ys.map g)) (hsz : ys.length ≤ sizeLine)
    (htest : ∀ a ∈ ys, ∀ W L, TrL (inCx C own scope W L ((x, g a) :: G0)) ifs (p a)) (helt : ∀ a ∈ ys, p a = true → ∀ W L, Ev (inCx C own scope W L ((x, g a) :: G0)) elt (f a))
    (hG0 : ∀ y d, G0.lookup y = some d → C.γ.lookup y = some (.sh d) ∧ scope.names.lookup y = some .free)
    (hx : scope.names.lookup x = some .local ∨ (own = some x ∧ scope.names.lookup x = some .cell))
    (hcells : ∀ n acc, cellsFrom n scope.names acc = ownCells own n acc := by intro _ _; rfl) (hpush : ∀ h, pushCells h scope.names = ownHeap own h := by intro _; rfl) (hown : ∀ x, own = some x → scope.names.lookup x = some .cell := by intro _ h; cases h; rfl)
    (hf : freeOk scope C.env = true := by rfl) (hkind : scope.kind = .function := by rfl) (hnames : ∀ x ∈ scope.names, x.2 = .local → scope.names.lookup x.1 = some .local := by decide)
    (hs : ∀ x, foldedSetIterable iter C.env x = pure x := by intro _; rfl) :
    CompRule C (.ListComp elt [⟨.Name x px, iter, ifs, 0⟩] scope pos) iter scope ((ys.filter p).map f) := fun use Q E s pos' o hend => by
  refine comp_open o rfl hit hG0 hf hkind hnames hcells hpush hown hs fun Z I fp wr P St W W₀ s₁ S => ?_
  have loop : codeAny (model C.prog C.w) C.A (.compLoop (.ListComp elt [⟨.Name x px, iter, ifs, 0⟩] scope pos) 0 (.ref I) (.ref Z.D) Z.cenv) (compPost (model C.prog C.w) C.A E use Q (.ref Z.D) Z.cenv.locals) s₁ := by
    have hZ : Z.C = C := S.zC
    have e2 : (ys.map g).length = ys.length := List.length_map ..
    have hw := S.walks
    rw [e2] at hw
    have htest' : ∀ a ∈ ys, TrL (Zx Z W [(x, g a)]) ifs (p a) := fun a ha => by rw [zx_eq (s := s) S.zC S.zE S.zG]; exact htest a ha W _
    have key := loop_last (Z := Z) (W := W) (lv := []) (ds := []) (x := x) (px := px) (elt := elt) (tst := tstOf Z.C.prog Z.C.w Z.C.A ifs Z.cenv) (cl := .compLoop (.ListComp elt [⟨.Name x px, iter, ifs, 0⟩] scope pos) 0 (.ref I) (.ref Z.D) Z.cenv) (R := compPost (model C.prog C.w) C.A E use Q (.ref Z.D) Z.cenv.locals) (ys := ys) (g := g) (f := f) (p := p) (s₁ := s₁) (I := I) (fp := fp) (wr := wr) (P := P) (St := St) (W₀ := W₀)
      S.cs₀ S.hup S.hoff S.zk S.cs (by rw [hZ]; exact hw) S.st S.ex S.wrk S.fpk (fun i v hP hi h' hk => by
        obtain ⟨d, hd, rd⟩ := S.rep i v hP (by rw [e2]; exact hi) h' hk
        have ha : ys[i]? = some ys[i] := List.getElem?_eq_getElem hi
        rw [List.getElem?_map, ha] at hd
        have hd' : g ys[i] = d := by simpa using hd
        exact ⟨ys[i], ha, hd' ▸ rd⟩)
      (st_of S hx) rfl (fun a ha Q E s' o' hq => wp_useT (htest' a ha s' o') fun ok s'' ht q => by obtain ⟨k, e⟩ := q; subst e; exact hq s'' k ht) (fun a ha hp => by rw [zx_eq (s := s) S.zC S.zE S.zG]; exact helt a ha hp W _) (by simpa using hsz) trule1
      (fun s' cs' _ => hend Z.D Z.cenv.locals s' (by have := cs'.tok; rw [S.zB] at this; exact this) (comp_end S.zC S.zB S.zk S.W₀e (by simpa using cs')))
    rw [hZ] at key
    exact key
  exact codeAny_compStart_list loop (S.walks.self 0 _ _ _ S.st loop)
theorem EvN.ofRule {elt t iter : PySem.Expr} {ifs : List PySem.Expr} {gs : List Comprehension} {scope : Scope} {pos : Pos} {ds : List PyData} (h : CompRule C (.ListComp elt (⟨t, iter, ifs, 0⟩ :: gs) scope pos) iter scope ds) : EvN C (.ListComp elt (⟨t, iter, ifs, 0⟩ :: gs) scope pos) ds := fun s o => by
  rw [eval_ListComp]
  refine h none _ _ s _ o fun D L s' ht ce => ?_
  obtain ⟨m, hns⟩ := ce.ns
  obtain ⟨vs, hp, hr⟩ := ce.out
  refine ⟨m, hns, fun h' hsb => ⟨D, vs, rfl, ?_, ce.newD, hp.extBut hsb.extBut ce.ne, ?_⟩⟩
  · obtain ⟨h'', tk, rfl, k⟩ := ce.keeps
    refine ⟨h', tk, rfl, fun b o' e => hsb.extBut b o' (fun q => ?_) (k b o' e)⟩
    rw [q, ce.newL] at e; cases e
  · refine (hr.move (W' := fun a => C.W a ∨ a = D ∨ a = L) (h' := h') (fun b o' hb e => hsb.extBut b o' (fun q => hb (.inr (.inr q))) e) fun _ n _ => n).less fun a q => ?_
    rcases q with q | q
    · exact .inl q
    · exact .inr (.inl q)
end

section
variable {F : Fcx} {γ : Gam} {P : Out → Prop}
/-- x = [..], the store within the comprehension's own frame -/
theorem Ex.assignR {y : Str} {py : Pos} {elt t iter : PySem.Expr} {ifs : List PySem.Expr} {gs : List Comprehension} {scope : Scope} {pos spos : Pos} {ds : List PyData}
    (hr : ∀ W, CompRule (F.cx W γ) (.ListComp elt (⟨t, iter, ifs, 0⟩ :: gs) scope pos) iter scope ds)
    (h : P (.next ((y, .ow ds) :: γ)))
    (hsw : swapsWith (.ListComp elt (⟨t, iter, ifs, 0⟩ :: gs) scope pos) (some (.Name y py)) spos.line F.env = pure true := by rfl)
    (hy : stOk F.env y = true := by rfl) :
    Ex F γ (exec (.Assign [.Name y py] (.ListComp elt (⟨t, iter, ifs, 0⟩ :: gs) scope pos) spos) F.env) P := fun W own s fs => by
  rw [exec_Assign_Name_used _ _ _ _ hsw]
  refine wpAny_bind (wpAny_standAt (wpAny_bind ?_))
  show wpAny _ F.A (do let _ ← comprehension (.ListComp elt (⟨t, iter, ifs, 0⟩ :: gs) scope pos) scope F.env _ (newList []) false (eval iter F.env) (some (PySem.assign (.Name y py) F.env))) _ _ s
  refine wpAny_bind (wpAny_mono (hr W (some (PySem.assign (.Name y py) F.env)) (fun _ s' => ∃ out, P out ∧ OutOk F W s out .next s') (fun _ _ => False) s _ fs.ok fun D L s' ht ce => ?_)
    (fun _ s' hq => wpAny_pure (wpAny_pure hq)) fun _ _ e => e)
  obtain ⟨m, hns⟩ := ce.ns
  obtain ⟨vs, hp, hr⟩ := ce.out
  show wpAny _ F.A (PySem.assign (.Name y py) F.env (.ref D)) _ _ _
  have nD0 : F.s₀.heap.get? D = none := by
    cases q : F.s₀.heap.get? D with
    | none => rfl
    | some o => have := ce.newD; rw [kp_heap fs.base _ _ q] at this; cases this
  have exD : ∃ o, s'.heap.get? D = some o := by obtain ⟨n, e⟩ := hp; exact ⟨_, e⟩
  have fs₁ : Fs F (fun a => W a ∨ a = D) own γ s' := fs.grow ce.keeps ht (fun a q => .inl q) (fun a q => q.imp id fun (r : a = D) => r ▸ ce.newD) fun a q => by
    rcases q with q | q
    · obtain ⟨o, e⟩ := fs.ok.wlt a q; exact ⟨o, kp_heap ce.keeps _ _ e⟩
    · exact q ▸ exD
  have hr' : RepL (fun a => W a ∨ a = D) s'.heap vs ds := hr.less fun a q => by
    rcases q with q | q
    · exact .inl q
    · exact .inr (.inl q)
  refine wpAny_assign_Name (fs₁.store hy (.ow rfl hp hr' (.inr rfl) nD0) (fun a l z l' ev _ hz e => ?_) fun own' h' tk b fs₂ ho1 ho2 hsb hW neL hB => ?_)
  · cases ev
    obtain ⟨_, q, _⟩ := fs.ownB z l' e
    obtain ⟨o, e'⟩ := fs.ok.wlt _ q
    intro q'; rw [q', ce.newD] at e'; cases e'
  · have nL := ce.newL
    have exLoc : ∃ o, s.heap.get? F.env.locals = some o := by obtain ⟨m, o, _, _, e, _⟩ := fs.ns; exact ⟨o, e⟩
    have LneLoc : F.env.locals ≠ L := fun q => by obtain ⟨o, e⟩ := exLoc; rw [q, nL] at e; cases e
    have LneC : ∀ z c, F.env.cells.lookup z = some c → c ≠ L := fun z c hz q => by obtain ⟨o, e⟩ := fs.ok.cex z c hz; rw [q, nL] at e; cases e
    have hLb : L ≠ b := by
      rcases hB with hB | ⟨z, hB⟩
      · exact hB ▸ LneLoc.symm
      · exact (LneC z b hB).symm
    have nL0 : F.s₀.heap.get? L = none := by
      cases q : F.s₀.heap.get? L with
      | none => rfl
      | some o => rw [kp_heap fs.base _ _ q] at nL; cases nL
    have nsL : h'.Ns L m := hns.sameBut hsb hLb
    refine ⟨m, nsL, fun h'' hsb' => ?_⟩
    have neSeq : ∀ c o xs n, h'.get? c = some o → o.data = .seq xs n → c ≠ L := fun c o xs n e hd q => by
      obtain ⟨o', es, ep, e', hd', _⟩ := nsL
      rw [q, e'] at e; cases e; rw [hd] at hd'; cases hd'
    have exW : ∀ a, (W a ∨ a = D) → ∃ o, h''.get? a = some o := fun a q => by
      obtain ⟨o, e⟩ := fs₂.ok.wlt a q
      refine ⟨o, hsb'.extBut a o (fun r => ?_) e⟩
      rcases q with q | q
      · obtain ⟨o', e'⟩ := fs.ok.wlt a q; rw [r, nL] at e'; cases e'
      · exact ce.ne (q.symm.trans r)
    have fs₃ := fs₂.poke (h' := h'') (tk := tk) (Nat.le_refl _) (fun c o xs n e hd => hsb'.extBut c o (neSeq c o xs n e hd) e) (fun o e => hsb'.extBut _ o LneLoc e) (fun z c hz o e => hsb'.extBut _ o (LneC z c hz) e)
      (fun c o e => hsb'.extBut c o (fun q => by rw [q, nL0] at e; cases e) (kp_heap fs₂.base c o e)) exW
    refine ⟨_, h, rfl, _, own', fs₃, ?_⟩
    have g1 : Go W s (fun a => W a ∨ a = D) s' := by
      have g := Go.ofKeeps (W := W) ce.keeps
      exact ⟨g.pres, fun a q => q.imp id fun (r : a = D) => r ▸ ce.newD, g.ex, g.same⟩
    have g2 := g1.trans (Go.ofStore (tk := tk) hsb hW (fs₁.wltS hsb hW fs₂.ok.wlt))
    exact ⟨fun c o hc e => hsb'.extBut c o (fun q => by rw [q, nL] at e; cases e) (g2.pres c o hc e), g2.newW, fun c ⟨o, e⟩ => by
      obtain ⟨o', e'⟩ := g2.ex c ⟨o, e⟩
      exact ⟨o', hsb'.extBut c o' (fun q => by rw [q, nL] at e; cases e) e'⟩, by obtain ⟨h₀, t₀, e₀, _⟩ := ce.keeps; exact ⟨h'', tk, by rw [e₀]⟩⟩
end

/-! ## two clauses -/
theorem compTurn_first2 (elt t0 i0 t1 i1 : PySem.Expr) (scope : Scope) (pos : Pos) (it acc : Value) (env : Env) :
    compTurn (.ListComp elt [⟨t0, i0, [], 0⟩, ⟨t1, i1, [], 0⟩] scope pos) 0 it acc env = (standAt i0.pos >>= fun _ => pyNext it >>= fun r => match r with
      | none => pure (.done .next)
      | some v => letOwnedTupleGo t0 it v >>= fun _ => PySem.assign t0 env v >>= fun _ =>
        eval i1 env >>= fun x => standAt i1.pos >>= fun _ => foldedSetIterable i1 env x >>= fun x => holding [x] (pyIter x) >>= fun it' =>
          runOwn (.compStart (.ListComp elt [⟨t0, i0, [], 0⟩, ⟨t1, i1, [], 0⟩] scope pos) 1 it' acc env) env >>= fun _ =>
          again (.compLoop (.ListComp elt [⟨t0, i0, [], 0⟩, ⟨t1, i1, [], 0⟩] scope pos) 0 it acc env)) := by rfl
theorem compTurn_last2 (elt t0 i0 t1 i1 : PySem.Expr) (scope : Scope) (pos : Pos) (it acc : Value) (env : Env) :
    compTurn (.ListComp elt [⟨t0, i0, [], 0⟩, ⟨t1, i1, [], 0⟩] scope pos) 1 it acc env = (standAt i1.pos >>= fun _ => pyNext it >>= fun r => match r with
      | none => pure (.done .next)
      | some v => letOwnedTupleGo t1 it v >>= fun _ => PySem.assign t1 env v >>= fun _ =>
        (eval elt env >>= fun x => call (.builtin "list.append") [acc, x] >>= fun _ => pure ()) >>= fun _ =>
          again (.compLoop (.ListComp elt [⟨t0, i0, [], 0⟩, ⟨t1, i1, [], 0⟩] scope pos) 1 it acc env)) := by rfl
end Mine
end

section
open PySem PySem.Calls PySem.W PyProof.Rows
set_option maxRecDepth 100000
set_option linter.unusedVariables false
namespace Mine

theorem trule2 {prog : Program} {w : World} {A : Around} {x : Str} {px : Pos} {elt t0 i0 i1 : PySem.Expr} {scope : Scope} {pos : Pos} {it acc : Value} {env : Env} :
    TRule prog w A (.compLoop (.ListComp elt [⟨t0, i0, [], 0⟩, ⟨.Name x px, i1, [], 0⟩] scope pos) 1 it acc env) x px elt (fun Q _ s => Q true s) it acc env := fun R I turn n s h => by
  refine codeAny_loop rfl I (fun n s hI => ?_) n h
  show wpAny _ A ((compTurn (.ListComp elt [⟨t0, i0, [], 0⟩, ⟨.Name x px, i1, [], 0⟩] scope pos) 1 it acc env).onRaise (fun x => do noteFrame x env; theTreesLotGoes x)) _ _ s
  refine wpAny_noted ?_
  rw [compTurn_last2]
  refine wpAny_bind (wpAny_standAt (wpAny_bind (wpAny_mono (turn _ n s hI) (fun r s₁ h₁ => ?_) fun _ _ h' => h')))
  cases r with
  | none => exact wpAny_pure h₁
  | some v =>
    refine wpAny_bind (wpAny_of_eq (show letOwnedTupleGo (.Name x px) it v = pure () from rfl) ?_)
    refine wpAny_bind (wpAny_mono h₁ (fun _ s₂ h₂ => ?_) fun _ _ h' => h')
    have h₂' := h₂
    simp only [if_true] at h₂'
    exact wpAny_bind (wpAny_bind (wpAny_mono h₂' (fun x s₄ h₄ => wpAny_bind (wpAny_mono h₄ (fun _ s₅ h₅ => wpAny_pure (wpAny_pure ⟨rfl, h₅⟩)) fun _ _ h' => h')) fun _ _ h' => h'))

theorem compStart2 {prog : Program} {w : World} {A : Around} {R : Result → Shared → Prop} {s : Shared} {elt t0 i0 t1 i1 : PySem.Expr} {scope : Scope} {pos : Pos} {it acc : Value} {env : Env}
    (h0 : codeAny (model prog w) A (.compLoop (.ListComp elt [⟨t0, i0, [], 0⟩, ⟨t1, i1, [], 0⟩] scope pos) 1 it acc env) R s)
    (h : wpAny (model prog w) A (pyIter it) (fun it' s' => codeAny (model prog w) A (.compLoop (.ListComp elt [⟨t0, i0, [], 0⟩, ⟨t1, i1, [], 0⟩] scope pos) 1 it' acc env) R s') (fun _ _ => False) s) :
    codeAny (model prog w) A (.compStart (.ListComp elt [⟨t0, i0, [], 0⟩, ⟨t1, i1, [], 0⟩] scope pos) 1 it acc env) R s := by
  refine codeAny_of_tree ?_
  show wpAny _ _ ((compStart (.ListComp elt [⟨t0, i0, [], 0⟩, ⟨t1, i1, [], 0⟩] scope pos) 1 it acc env).onRaise (fun x => do noteFrame x env; standAt theWindowsPlace)) _ _ s
  refine wpAny_notedAt ?_
  unfold compStart
  show wpAny _ _ (ask >>= _) _ _ s
  refine wpAny_bind (wpAny_askSetting (wpAny_ite ?_))
  split
  · first
      | exact wpAny_bind (wpAny_pure (wpAny_pure (And.intro rfl h0)))
      | exact wpAny_pure (And.intro rfl h0)
  · refine wpAny_bind (wpAny_rule ?_)
    show wpAny _ _ (standAt i1.pos >>= _) _ _ s
    exact wpAny_bind (wpAny_standAt (wpAny_bind (wpAny_mono h (fun it' s' h' => wpAny_pure (And.intro rfl h')) fun _ _ x => x.elim)))

section
variable {C : Cx}
theorem comp_rule2 {α β : Type} {elt iter i1 : PySem.Expr} {x0 x1 : Str} {px0 px1 : Pos} {scope : Scope} {pos : Pos} {ys : List α} {g : α → PyData} {zs : α → List β} {g1 : β → PyData} {f : α → β → PyData} (G0 : List (Str × PyData))
    (hit : It C iter (ys.map g)) (hit1 : ∀ a ∈ ys, ∀ W L, It (inCx C none scope W L ((x0, g a) :: G0)) i1 ((zs a).map g1))
    (helt : ∀ a ∈ ys, ∀ b ∈ zs a, ∀ W L, Ev (inCx C none scope W L ((x1, g1 b) :: (x0, g a) :: G0)) elt (f a b))
    (hsz : (ys.flatMap fun a => (zs a).map (f a)).length ≤ sizeLine)
    (hG0 : ∀ y d, G0.lookup y = some d → C.γ.lookup y = some (.sh d) ∧ scope.names.lookup y = some .free)
    (hh : C.A.handled = none)
    (hx0 : scope.names.lookup x0 = some .local := by rfl) (hx1 : scope.names.lookup x1 = some .local := by rfl) (hne : (x1 == x0) = false := by decide)
    (hcells : ∀ n acc, cellsFrom n scope.names acc = ownCells none n acc := by intro _ _; rfl) (hpush : ∀ h, pushCells h scope.names = ownHeap none h := by intro _; rfl)
    (hf : freeOk scope C.env = true := by rfl) (hkind : scope.kind = .function := by rfl) (hnames : ∀ x ∈ scope.names, x.2 = .local → scope.names.lookup x.1 = some .local := by decide)
    (hs : ∀ x, foldedSetIterable iter C.env x = pure x := by intro _; rfl) (hs1 : ∀ env x, foldedSetIterable i1 env x = pure x := by intro _ _; rfl) :
    CompRule C (.ListComp elt [⟨.Name x0 px0, iter, [], 0⟩, ⟨.Name x1 px1, i1, [], 0⟩] scope pos) iter scope (ys.flatMap fun a => (zs a).map (f a)) := fun use Q E s pos' o hend => by
  refine comp_open o rfl hit hG0 hf hkind hnames hcells hpush (fun _ h => by cases h) hs fun Z I fp wr P St W W₀ s₁ S => ?_
  have hZ : Z.C = C := S.zC
  have e2 : (ys.map g).length = ys.length := List.length_map ..
  have T := S.walks
  rw [e2] at T
  have zx := fun lv => zx_eq (s := s) S.zC S.zE S.zG W lv
  have loop : codeAny (model C.prog C.w) C.A (.compLoop (.ListComp elt [⟨.Name x0 px0, iter, [], 0⟩, ⟨.Name x1 px1, i1, [], 0⟩] scope pos) 0 (.ref I) (.ref Z.D) Z.cenv) (compPost (model C.prog C.w) C.A E use Q (.ref Z.D) Z.cenv.locals) s₁ := by
    refine codeAny_loop rfl (fun k s' => ∃ i, i ≤ ys.length ∧ k = ys.length + 1 - i ∧ St i s'.heap ∧ Cs Z W [] ((ys.take i).flatMap fun a => (zs a).map (f a)) s' ∧ (∀ b o, ¬ Tz Z b → b ∉ wr → s₁.heap.get? b = some o → s'.heap.get? b = some o)) ?_ (ys.length + 1) ⟨0, Nat.zero_le _, rfl, S.st, by simpa using S.cs, fun b o _ _ e => e⟩
    rintro k s' ⟨i, hi, rfl, hst', cs', pr⟩
    show wpAny _ C.A ((compTurn (.ListComp elt [⟨.Name x0 px0, iter, [], 0⟩, ⟨.Name x1 px1, i1, [], 0⟩] scope pos) 0 (.ref I) (.ref Z.D) Z.cenv).onRaise (fun x => do noteFrame x Z.cenv; theTreesLotGoes x)) _ _ s'
    refine wpAny_noted ?_
    rw [compTurn_first2]
    refine wpAny_bind (wpAny_standAt (wpAny_bind ?_))
    by_cases hlt : i < ys.length
    · have ha : ys[i]? = some ys[i] := List.getElem?_eq_getElem hlt
      have e1 : (ys.take (i + 1)).flatMap (fun a => (zs a).map (f a)) = (ys.take i).flatMap (fun a => (zs a).map (f a)) ++ (zs ys[i]).map (f ys[i]) := by
        rw [List.take_add_one, ha, List.flatMap_append]; simp
      have elen : ((ys.take i).flatMap (fun a => (zs a).map (f a))).length + (zs ys[i]).length ≤ sizeLine := by
        refine Nat.le_trans ?_ hsz
        have h1 : ((ys.take (i + 1)).flatMap (fun a => (zs a).map (f a))).length ≤ (ys.flatMap fun a => (zs a).map (f a)).length := by
          conv => rhs; rw [← List.take_append_drop (i + 1) ys, List.flatMap_append, List.length_append]
          exact Nat.le_add_right _ _
        rw [e1, List.length_append, List.length_map] at h1
        exact h1
      refine wpAny_with_toks (n := s'.toks) (Nat.le_refl _) (T.item i _ _ _ hlt hst' fun v h₂ tk₂ hP hst₂ hk₂ htk₂ => ?_)
      have cs₂ := cs'.poke S.zk htk₂ hk₂ S.wrk (S.ex _ _ hst₂)
      obtain ⟨d, hd, rv⟩ := S.rep i v hP (by rw [e2]; exact hlt) h₂ fun b o' n e => hk₂ b o' (fun m => n (S.wrk b m).1) (pr b o' (fun t => n (cs'.tz b t)) (fun m => n (S.wrk b m).1) e)
      rw [List.getElem?_map, ha] at hd
      have hd' : g ys[i] = d := by simpa using hd
      subst hd'
      refine wpAny_bind (wpAny_of_eq (show letOwnedTupleGo (.Name x0 px0) (.ref I) v = pure () from rfl) ?_)
      refine wpAny_bind (wpAny_assign_Name (cs₂.store S.zk (st_of S (.inl hx0)) rv fun h₃ tk₃ htk₃ cs₃ nt₃ => ?_))
      have k₃ : ∀ b o', ¬ Tz Z b → b ∉ wr → s₁.heap.get? b = some o' → h₃.get? b = some o' := fun b o' n m e => nt₃ b o' n (hk₂ b o' m (pr b o' n m e))
      have hst₃ : St (i + 1) h₃ := T.frame _ _ _ hst₂ fun b hb o' e => nt₃ b o' (S.fpk b hb) e
      have hi1 := hit1 ys[i] (List.getElem_mem hlt) W Z.cenv.locals
      rw [show inCx C none scope W Z.cenv.locals ((x0, g ys[i]) :: G0) = Zx Z W [(x0, g ys[i])] from (zx [(x0, g ys[i])]).symm] at hi1
      have ev1 := hi1 _ (cs₃.ok S.zk)
      have ev1' : wpAny (model C.prog C.w) C.A (eval i1 Z.cenv) (fun xv s₁ => wpAny (model C.prog C.w) C.A (pyIter xv) (fun it s₂ => ∃ I fp wr P St, it = .ref I ∧ ItAt (Zx Z W [(x0, g ys[i])]) { s' with heap := h₃, toks := tk₃ } s₂ I fp wr ((zs ys[i]).map g1) P St) (fun _ _ => False) s₁) (fun _ _ => False) { s' with heap := h₃, toks := tk₃ } := by
        have h : wpAny (model Z.C.prog Z.C.w) Z.C.A (eval i1 Z.cenv) (fun xv s₁ => wpAny (model Z.C.prog Z.C.w) Z.C.A (pyIter xv) (fun it s₂ => ∃ I fp wr P St, it = .ref I ∧ ItAt (Zx Z W [(x0, g ys[i])]) { s' with heap := h₃, toks := tk₃ } s₂ I fp wr ((zs ys[i]).map g1) P St) (fun _ _ => False) s₁) (fun _ _ => False) { s' with heap := h₃, toks := tk₃ } := ev1
        rw [hZ] at h
        exact h
      refine wpAny_bind (wp_useT ev1' fun xv s₄ ht₄ hq₄ => wpAny_bind (wpAny_standAt (wpAny_bind ?_)))
      rw [hs1]
      refine wpAny_pure (wpAny_bind (wpAny_holding (wp_useT hq₄ fun it s₅ ht₅ hq₅ => wpAny_bind ?_)))
      obtain ⟨I1, fp1, wr1, P1, St1, rfl, T1⟩ := hq₅
      have kk := kp_heap T1.keeps
      have tk5 : tk₃ ≤ s₅.toks := Nat.le_trans ht₄ ht₅
      have wr1n : ∀ b o', h₃.get? b = some o' → b ∉ wr1 := fun b o' e m => by have := T1.new b m; rw [show ({ s' with heap := h₃, toks := tk₃ } : Shared).heap.get? b = h₃.get? b from rfl, e] at this; cases this
      have wr1ex : ∀ a ∈ wr1, ∃ o', s₅.heap.get? a = some o' := fun a ha => by obtain ⟨o', e, _⟩ := T1.ex _ _ T1.start a ha; exact ⟨o', e⟩
      have cs₅ : Cs Z (fun a => W a ∨ a ∈ wr1) [(x0, g ys[i])] ((ys.take i).flatMap fun a => (zs a).map (f a)) s₅ := cs₃.grow T1.keeps tk5 (fun a q => .inl q) (fun a q => q.imp id fun m => T1.new a m) fun a q => by
        rcases q with q | q
        · obtain ⟨o', e⟩ := cs₃.wlt a q; exact ⟨o', kk a o' e⟩
        · exact wr1ex a q
      have nTwr1 : ∀ b ∈ wr1, ¬ Tz Z b := fun b hb q => by
        obtain ⟨o', e⟩ := cs₃.wlt b (cs₃.tz b q)
        exact wr1n b o' e hb
      have key := loop_last (Z := Z) (W := fun a => W a ∨ a ∈ wr1) (lv := [(x0, g ys[i])]) (ds := (ys.take i).flatMap fun a => (zs a).map (f a)) (x := x1) (px := px1) (elt := elt) (tst := fun Q _ s => Q true s) (cl := .compLoop (.ListComp elt [⟨.Name x0 px0, iter, [], 0⟩, ⟨.Name x1 px1, i1, [], 0⟩] scope pos) 1 (.ref I1) (.ref Z.D) Z.cenv)
        (R := fun r s'' => match r with
          | .ok _ => wpAny (model C.prog C.w) C.A (again (.compLoop (.ListComp elt [⟨.Name x0 px0, iter, [], 0⟩, ⟨.Name x1 px1, i1, [], 0⟩] scope pos) 0 (.ref I) (.ref Z.D) Z.cenv)) (fun fin s' => match fin with | .done f => compPost (model C.prog C.w) C.A E use Q (.ref Z.D) Z.cenv.locals (.ok f) s' | .again c' => c' = .compLoop (.ListComp elt [⟨.Name x0 px0, iter, [], 0⟩, ⟨.Name x1 px1, i1, [], 0⟩] scope pos) 0 (.ref I) (.ref Z.D) Z.cenv ∧ ∃ m, m < ys.length + 1 - i ∧ ∃ i, i ≤ ys.length ∧ m = ys.length + 1 - i ∧ St i s'.heap ∧ Cs Z W [] ((ys.take i).flatMap fun a => (zs a).map (f a)) s' ∧ (∀ b o, ¬ Tz Z b → b ∉ wr → s₁.heap.get? b = some o → s'.heap.get? b = some o)) (fun _ _ => False) s''
          | .error _ => False)
        (ys := zs ys[i]) (g := g1) (f := f ys[i]) (p := fun _ => true) (s₁ := s₅) (I := I1) (fp := fp1) (wr := wr1) (P := P1) (St := St1) (W₀ := W)
        cs₃ (fun a q => .inl q) (fun a q m => by obtain ⟨o', e⟩ := cs₃.wlt a q; exact wr1n a o' e m) S.zk cs₅ (by have := T1.walks; rw [List.length_map] at this; exact this) T1.start (fun i h st b hb => let ⟨o', e, _⟩ := T1.ex i h st b hb; ⟨o', e⟩)
        (fun b hb => ⟨.inr hb, nTwr1 b hb, by
          cases q : Z.sB.heap.get? b with
          | none => rfl
          | some o' => exact absurd hb (wr1n b o' (cs₃.keepB b o' q))⟩) (fun b hb q => T1.nW b hb (cs₃.tz b q)) (fun j v hP hj h' hk => by
          have hlen : j < ((zs ys[i]).map g1).length := by rw [List.length_map]; exact hj
          obtain ⟨d, hd, rd⟩ := T1.rep j v hP hlen (hideAll h' wr1) fun b o' hb hbw e => hideAll_get _ (hk b o' (fun q => q.elim hb hbw) e) hbw
          have hz : (zs ys[i])[j]? = some (zs ys[i])[j] := List.getElem?_eq_getElem hj
          rw [List.getElem?_map, hz] at hd
          have hd' : g1 (zs ys[i])[j] = d := by simpa using hd
          subst hd'
          refine ⟨_, hz, rd.move (fun b o' _ e => of_hideAll _ e) fun a hn ⟨o', e⟩ hw => ?_⟩
          rcases hw with hw | hw
          · exact hn hw
          · rw [hideAll_none _ hw] at e; cases e)
        (st_of S (.inl hx1)) (by rw [List.lookup_cons, hne]; rfl) (fun b hb Q' E' s'' _ hq => hq s'' (kp_refl _) (Nat.le_refl _)) (fun b hb _ => by
          rw [zx_eq (s := s) S.zC S.zE S.zG]; exact helt ys[i] (List.getElem_mem hlt) b hb _ _) elen trule2
        (fun s₆ cs₆ pr₆ => by
          refine wpAny_pure ⟨rfl, ys.length + 1 - (i + 1), by omega, i + 1, hlt, rfl, T.frame _ _ _ hst₃ fun b hb o' e => pr₆ b o' (S.fpk b hb) (wr1n b o' e) (kk b o' e), ?_, fun b o' n m e => pr₆ b o' n (wr1n b o' (k₃ b o' n m e)) (kk b o' (k₃ b o' n m e))⟩
          rw [e1]
          have : (zs ys[i]).filter (fun _ => true) = zs ys[i] := List.filter_eq_self.mpr fun _ _ => rfl
          rw [this] at cs₆
          exact cs₆.fewer fun y e h => by simp at h)
      rw [hZ] at key
      have w1 : Walks Z.C.prog Z.C.w Z.C.A I1 fp1 wr1 ((zs ys[i]).map g1).length P1 St1 := T1.walks
      rw [hZ] at w1
      refine wpAny_runOwn ?_
      refine codeAny_mono (compStart2 key (w1.self 0 _ _ _ T1.start key)) fun r s'' hr => ?_
      cases r with
      | error e => exact hr.elim
      | ok fl => exact wpAny_mono hr (fun _ _ h => h) fun _ _ h => h.elim
    · have hin : i = ys.length := by omega
      subst hin
      refine wpAny_with_toks (n := s'.toks) (Nat.le_refl _) (T.done _ _ _ hst' fun h₂ tk₂ hk₂ htk₂ => wpAny_pure ?_)
      have cs₂ := S.cs₀.pokeB S.hup (fun a q m => absurd m (S.hoff a q)) S.zk cs' htk₂ hk₂ S.wrk
      rw [List.take_of_length_le (Nat.le_refl _)] at cs₂
      exact hend Z.D Z.cenv.locals _ (by have := cs₂.tok; rw [S.zB] at this; exact this) (comp_end S.zC S.zB S.zk S.W₀e cs₂)
  exact codeAny_compStart_list loop (S.walks.self 0 _ _ _ S.st loop)
end
end Mine
end

section
open PySem PySem.Calls PySem.W PyProof.Rows
set_option maxRecDepth 100000
set_option linter.unusedVariables false
namespace Mine

section
variable {C : Cx}
theorem Bi.max {ns : List Int} {M : Int} (hM : M ∈ ns) (hle : ∀ a ∈ ns, a ≤ M) (hh : C.A.handled = none) : Bi C (.builtin "max") [dInts ns] (.int M) := by
  rintro s _ o (_ | ⟨⟨⟩, ⟨⟩⟩)
  rename_i a vs hl hw hr
  have hi := hr.toInts
  have hl' : s.heap.IsList a (List.toArray vs) := hl.isList
  obtain ⟨xs, hxs⟩ := hi.allInts.items
  rw [hxs] at hl'
  have h1 := hi.numsOf
  rw [show vs = (List.toArray vs).toList from rfl, hxs, nums_intItems] at h1
  have hsz : xs.size = ns.length := by rw [← h1]; simp
  have hpos : 0 < xs.size := by rw [hsz]; cases ns with | nil => cases hM | cons _ _ => simp
  refine max_intList hh hl' hpos fun v h' tk hv hk => ⟨⟨h', tk, rfl, hk⟩, ?_⟩
  obtain ⟨t, rfl⟩ := intItems_at hv
  obtain ⟨g1, g2⟩ := argBest_gt (numAt xs) (xs.size - 1)
  have e : numAt xs (argBest (fun i j => decide (numAt xs i > numAt xs j)) (xs.size - 1)) = M := by
    refine Int.le_antisymm (hle _ ?_) ?_
    · rw [numAt_eq, h1]; exact getD_mem (by omega)
    · obtain ⟨j, hj, e⟩ := mem_getD hM
      have := g2 j (by omega)
      rw [numAt_eq, h1, e] at this
      exact this
  rw [e]
  exact .int _ _

theorem unitsOk {A : Around} {k : Nat} (hr : RoomA 1 A) (hk : k ≤ 500) : A.units + 1 + k < cLine := by
  have := hr.2.2
  show _ < 9900
  omega
theorem Cmp.in_tuple {xs : List PyData} {d : PyData} (hxs : PyData.canLayAll0 xs = true) (hd : d.canLay0 = true) (hdep : d.depth ≤ 64) (hr : RoomA 1 C.A) : Cmp C .In d (.tuple xs) (xs.any fun y => PyData.eqv y d) := by
  intro s v₁ v₂ o r₁ r₂
  obtain ⟨as, p⟩ := r₁.reads
  obtain ⟨bs, q⟩ := r₂.reads
  exact SeqAt.in_tuple_reads q p hxs hd (unitsOk hr (Nat.le_trans (Nat.min_le_right _ _) (by omega))) ⟨kp_refl _, rfl⟩
/-- not in a list that the frame still writes -/
theorem Tr.notInOw {e : PySem.Expr} {x : Str} {px pos : Pos} {d : PyData} {l : List PyData} (he : Ev C e d) (hx : C.γ.lookup x = some (.ow l)) (hl : PyData.canLayAll0 l = true) (hd : d.canLay0 = true) (hdep : d.depth ≤ 64) (hr : RoomA 1 C.A)
    (hm : behindInMarks .NotIn (.Name x px) = false := by with_unfolding_all rfl) (hdb : (x == ("__debug__" : Str)) = false := by decide) (hn : (x == ("__classdict__" : Str)) = false := by decide) :
    Tr C (.Compare e [.NotIn] [.Name x px] pos) (!l.any fun y => PyData.eqv y d) := fun s o =>
  wpAny_isTrue_Compare1 (he.use o fun v₁ s₁ k₁ o₁ r₁ => by
    obtain ⟨a, vs, b, hp, hr'⟩ := o₁.var x _ hx
    refine wpAny_Name (load_bound o₁.kind b ?_ hn) hdb
    obtain ⟨as, p⟩ := r₁.reads
    obtain ⟨n, ho⟩ := hp
    obtain ⟨bs, q⟩ := hr'.reads
    exact SeqAt.notIn_list_reads (.list ho rfl rfl (by simpa using q)) p hl hd (unitsOk hr (Nat.le_trans (Nat.min_le_right _ _) (by omega))) (wpAny_truthy_bool ⟨k₁, rfl⟩)) hm
end

/-! ## lists of str, one before the other -/
/-- the order of lists of str, sign by sign -/
def ltS : List Str → List Str → Bool
  | [], [] => false
  | [], _ :: _ => true
  | _ :: _, [] => false
  | x :: a, y :: b => if x = y then ltS a b else decide (x.cps.toList < y.cps.toList)
theorem ltS_irrefl : ∀ a, ltS a a = false
  | [] => rfl
  | x :: a => by unfold ltS; rw [if_pos rfl]; exact ltS_irrefl a
theorem ltS_trans : ∀ a b c, ltS a b = true → ltS b c = true → ltS a c = true
  | [], [], _, h, _ => by cases h
  | [], _ :: _, [], _, h => by cases h
  | [], _ :: _, _ :: _, _, _ => rfl
  | _ :: _, [], _, h, _ => by cases h
  | _ :: _, _ :: _, [], _, h => by cases h
  | x :: a, y :: b, z :: c, h1, h2 => by
    unfold ltS at h1 h2 ⊢
    by_cases e1 : x = y
    · subst e1
      rw [if_pos rfl] at h1
      by_cases e2 : x = z
      · subst e2
        rw [if_pos rfl] at h2 ⊢
        exact ltS_trans a b c h1 h2
      · rw [if_neg e2] at h2 ⊢; exact h2
    · rw [if_neg e1] at h1
      have h1' := of_decide_eq_true h1
      by_cases e2 : y = z
      · subst e2; rw [if_neg e1]; exact h1
      · rw [if_neg e2] at h2
        have h2' := of_decide_eq_true h2
        have h3 := List.lt_trans h1' h2'
        rw [if_neg (fun e => by subst e; exact absurd h3 (List.lt_irrefl _)), decide_eq_true h3]
theorem ltS_total : ∀ a b, ltS a b = false → ltS b a = false → a = b
  | [], [], _, _ => rfl
  | [], _ :: _, h, _ => by cases h
  | _ :: _, [], _, h => by cases h
  | x :: a, y :: b, h1, h2 => by
    unfold ltS at h1 h2
    by_cases e : x = y
    · subst e
      rw [if_pos rfl] at h1 h2
      rw [ltS_total a b h1 h2]
    · rw [if_neg e] at h1
      rw [if_neg (Ne.symm e)] at h2
      have g1 := List.not_lt.mp (of_decide_eq_false h1)
      have g2 := List.not_lt.mp (of_decide_eq_false h2)
      exact absurd (ch_injC (List.le_antisymm g2 g1)) e
where
  ch_injC {x y : Str} (h : x.cps.toList = y.cps.toList) : x = y := by
    cases x; cases y
    congr 1
    exact Array.toList_inj.mp h
end Mine
end

section
open PySem PySem.Calls PySem.W PyProof.Rows
open PySem.AutoSeq1 (wpAny_loadPart')
open PySem.MeetsSeq PySem.MeetsSeq3
set_option maxRecDepth 100000
set_option linter.unusedVariables false
namespace Mine

theorem sv_get (lx : List (Str × Tok)) (i : Nat) : (strValues lx).toArray[((i : Nat) : Int).toNat]? = (lx[i]?).map fun p => Value.str p.1 p.2 := by
  simp [strValues]

theorem lt_loopS (l b : Addr) (lx ly : List (Str × Tok)) (n n2 : Nat) (dd dd2 : Option Addr) (sl sl2 : Array (Option Value)) (k : Nat) :
    ∀ i : Nat, lx.length - i = k → i ≤ lx.length → i ≤ ly.length → Meets (Builtin.«list.__eq__.loop» ⟨[.ref l, .ref b, rawInt i, rawInt 0], []⟩)
      (fun A R s => s.heap.get? l = some { cls := .type "list", dict := dd, data := .seq (strValues lx).toArray n, slots := sl } ∧ s.heap.get? b = some { cls := .type "list", dict := dd2, data := .seq (strValues ly).toArray n2, slots := sl2 } ∧
        R (.ok (.ret (.bool (ltS ((lx.map (·.1)).drop i) ((ly.map (·.1)).drop i))))) s) := by
  induction k with
  | zero =>
    intro i hk h1 h2 prog w A R s h
    obtain ⟨hp, g, d, tk, os⟩ := s; obtain ⟨hl, hb, h⟩ := h
    wp_walk using wpAny_loadPart' hl, wpAny_loadPart' hb
    have hi : i = lx.length := by omega
    have e1 : lx[i]? = none := by simp; omega
    rw [sv_get, sv_get, e1]
    wp_walk using wpAny_loadPart' hl, wpAny_loadPart' hb
    show R (.ok (.ret (.bool (decide ((strValues lx).toArray.size < (strValues ly).toArray.size))))) _
    have e2 : ltS ((lx.map (·.1)).drop i) ((ly.map (·.1)).drop i) = decide ((strValues lx).toArray.size < (strValues ly).toArray.size) := by
      rw [List.drop_of_length_le (by simp; omega)]
      have hs : (strValues lx).toArray.size = lx.length := by simp [strValues]
      have hs2 : (strValues ly).toArray.size = ly.length := by simp [strValues]
      rw [hs, hs2]
      by_cases q : lx.length < ly.length
      · rw [decide_eq_true q, List.drop_eq_getElem_cons (by simp; omega)]; rfl
      · rw [decide_eq_false q, List.drop_of_length_le (by simp; omega)]; rfl
    rw [e2] at h
    exact h
  | succ k ih =>
    intro i hk h1 h2 prog w A R s h
    obtain ⟨hp, g, d, tk, os⟩ := s; obtain ⟨hl, hb, h⟩ := h
    wp_walk using wpAny_loadPart' hl, wpAny_loadPart' hb
    have hlt : i < lx.length := by omega
    have e1 : lx[i]? = some lx[i] := by simp [hlt]
    have d1 : (lx.map (·.1)).drop i = lx[i].1 :: (lx.map (·.1)).drop (i + 1) := by
      rw [List.drop_eq_getElem_cons (by simpa using hlt)]; simp
    by_cases hlt2 : i < ly.length
    · have e2 : ly[i]? = some ly[i] := by simp [hlt2]
      have d2 : (ly.map (·.1)).drop i = ly[i].1 :: (ly.map (·.1)).drop (i + 1) := by
        rw [List.drop_eq_getElem_cons (by simpa using hlt2)]; simp
      rw [d1, d2] at h
      unfold ltS at h
      have hc : ((i : Int) + 1) = ((i + 1 : Nat) : Int) := by push_cast; rfl
      rw [sv_get, sv_get, e1, e2]
      refine wpAny_bind ((eqGives_str lx[i].1 ly[i].1 lx[i].2 ly[i].2) prog w _ _ _ _ ?_)
      by_cases he : lx[i].1 = ly[i].1
      · rw [if_pos he] at h
        rw [beq_iff_eq.mpr he]
        wp_walk
        rw [hc]
        exact ⟨plainId_quiet plain_eq_loop _, codeAny_builtin entry_eq_loop (by
          rw [Around.under_plainId plain_eq_loop _]
          exact ih (i + 1) (by omega) (by omega) (by omega) prog w A R _ ⟨hl, hb, h⟩)⟩
      · rw [if_neg he] at h
        rw [beq_eq_false_iff_ne.mpr he]
        wp_walk using wpAny_loadPart' hl, wpAny_loadPart' hb
        rw [sv_get, sv_get, e1, e2]
        show wpAny _ _ (compareOp .Lt (.str lx[i].1 lx[i].2) (.str ly[i].1 ly[i].2) >>= fun v => ret v) _ _ _
        refine wpAny_bind (PyProof.Rows.lt_str ?_)
        exact wpAny_pure h
    · have e2 : ly[i]? = none := by simp; omega
      rw [sv_get, sv_get, e1, e2]
      wp_walk using wpAny_loadPart' hl, wpAny_loadPart' hb
      show R (.ok (.ret (.bool (decide ((strValues lx).toArray.size < (strValues ly).toArray.size))))) _
      have e3 : ltS ((lx.map (·.1)).drop i) ((ly.map (·.1)).drop i) = decide ((strValues lx).toArray.size < (strValues ly).toArray.size) := by
        have hs : (strValues lx).toArray.size = lx.length := by simp [strValues]
        have hs2 : (strValues ly).toArray.size = ly.length := by simp [strValues]
        rw [d1, List.drop_of_length_le (l := ly.map (·.1)) (by simp; omega), hs, hs2, decide_eq_false (by omega)]; rfl
      rw [e3] at h
      exact h

theorem list_ltS (l b : Addr) (lx ly : List (Str × Tok)) (n n2 : Nat) (dd dd2 : Option Addr) (sl sl2 : Array (Option Value)) :
    Meets (Builtin.«list.__lt__» ⟨[.ref l, .ref b], []⟩)
      (fun A R s => s.heap.get? l = some { cls := .type "list", dict := dd, data := .seq (strValues lx).toArray n, slots := sl } ∧ s.heap.get? b = some { cls := .type "list", dict := dd2, data := .seq (strValues ly).toArray n2, slots := sl2 } ∧
        R (.ok (.ret (.bool (ltS (lx.map (·.1)) (ly.map (·.1)))))) s) := by
  intro prog w A R s h
  obtain ⟨hp, g, d, tk, os⟩ := s; obtain ⟨hl, hb, h⟩ := h
  have f3 := AutoSeq1.sub_list_list
  wp_walk using wpAny_loadPart' hl, wpAny_loadPart' hb
  exact ⟨plainId_quiet plain_eq_loop _, codeAny_builtin entry_eq_loop (by
    rw [Around.under_plainId plain_eq_loop _]
    exact lt_loopS l b lx ly n n2 dd dd2 sl sl2 _ 0 rfl (Nat.zero_le _) (Nat.zero_le _) prog w A R _ ⟨hl, hb, h⟩)⟩
end Mine
end

section
open PySem PySem.Calls PySem.W PyProof.Rows
set_option maxRecDepth 100000
set_option linter.unusedVariables false
namespace Mine

/-! ## the sort of up to 63 items that are all different: r is an item's rank -/
section
variable {n : Nat} {r : Nat → Nat} {s : Shared} {cmp : Nat → Nat → (Bool → Shared → Prop) → Shared → Prop}
def Good (n : Nat) (p : Array Nat) : Prop := p.toList.Perm (List.range n)
def key (r : Nat → Nat) (p : Array Nat) (i : Nat) : Nat := r (p.getD i 0)
def Asc (r : Nat → Nat) (p : Array Nat) (k : Nat) : Prop := ∀ i j, i < j → j < k → key r p i < key r p j
def Dsc (r : Nat → Nat) (p : Array Nat) (k : Nat) : Prop := ∀ i j, i < j → j < k → key r p j < key r p i
structure CmpOk (n : Nat) (r : Nat → Nat) (s : Shared) (cmp : Nat → Nat → (Bool → Shared → Prop) → Shared → Prop) : Prop where
  ask : ∀ i j (Q : Bool → Shared → Prop), i < n → j < n → Q (decide (r i < r j)) s → cmp i j Q s
  inj : ∀ i j, i < n → j < n → r i = r j → i = j

theorem Good.size {p : Array Nat} (g : Good n p) : p.size = n := by
  have := g.length_eq
  simpa using this
theorem Good.lt {p : Array Nat} (g : Good n p) (h0 : 0 < n) (i : Nat) : p.getD i 0 < n := by
  have hs := g.size
  by_cases h : i < p.size
  · have e : p.getD i 0 = p[i] := by simp [Array.getD, h]
    rw [e]
    exact List.mem_range.mp (g.mem_iff.mp (by simp))
  · have e : p.getD i 0 = 0 := by simp [Array.getD, h]
    rw [e]; exact h0
theorem Good.ne {p : Array Nat} (g : Good n p) {i j : Nat} (hi : i < n) (hj : j < n) (hij : i ≠ j) : p.getD i 0 ≠ p.getD j 0 := by
  have hs := g.size
  have nd : p.toList.Nodup := g.nodup_iff.mpr List.nodup_range
  have e1 : p.getD i 0 = p.toList[i]'(by simp; omega) := by simp [Array.getD, hs, hi]
  have e2 : p.getD j 0 = p.toList[j]'(by simp; omega) := by simp [Array.getD, hs, hj]
  rw [e1, e2]
  intro h
  have pw := List.pairwise_iff_getElem.mp nd
  rcases Nat.lt_or_gt_of_ne hij with q | q
  · exact pw i j _ _ q h
  · exact pw j i _ _ q h.symm
theorem Good.key_ne {p : Array Nat} (c : CmpOk n r s cmp) (g : Good n p) {i j : Nat} (hi : i < n) (hj : j < n) (hij : i ≠ j) : key r p i ≠ key r p j := fun h =>
  g.ne hi hj hij (c.inj _ _ (g.lt (by omega) i) (g.lt (by omega) j) h)
theorem Good.rev {p : Array Nat} (g : Good n p) (i j : Nat) : Good n (kas_rev p i j) := ((Array.perm_iff_toList_perm.mp (mirror_perm p i j _)).trans g)
theorem Good.bubble {p : Array Nat} (g : Good n p) (k d : Nat) : Good n (PyProof.Rows.bubble p k d) := ((Array.perm_iff_toList_perm.mp (bubble_perm p k d)).trans g)
theorem Good.ask {p : Array Nat} (c : CmpOk n r s cmp) (g : Good n p) (h0 : 0 < n) {i j : Nat} {Q : Bool → Shared → Prop} (h : Q (decide (key r p i < key r p j)) s) : cmp (p.getD i 0) (p.getD j 0) Q s :=
  c.ask _ _ _ (g.lt h0 i) (g.lt h0 j) h

theorem asc_ok {p : Array Nat} {G : Nat → Shared → Prop} (c : CmpOk n r s cmp) (g : Good n p) : ∀ f m, 1 ≤ m → m + f ≤ n → Asc r p m → (∀ m', m ≤ m' → m' ≤ m + f → Asc r p m' → (m' < m + f → key r p m' < key r p (m' - 1)) → G m' s) → (kas_asc p f m).kasWp cmp G s
  | 0, m, h1, h2, ha, hG => hG m (Nat.le_refl _) (Nat.le_refl _) ha fun h => by omega
  | f + 1, m, h1, h2, ha, hG => by
    show cmp (p.getD m 0) (p.getD (m - 1) 0) (fun c s' => (if c = true then KasT.ret m else kas_asc p f (m + 1)).kasWp cmp G s') s
    refine g.ask c (by omega) ?_
    by_cases hk : key r p m < key r p (m - 1)
    · rw [decide_eq_true hk, if_pos rfl]
      exact hG m (Nat.le_refl _) (by omega) ha fun _ => hk
    · rw [decide_eq_false hk, if_neg (by simp)]
      have hne := g.key_ne c (i := m) (j := m - 1) (by omega) (by omega) (by omega)
      refine asc_ok c g f (m + 1) (by omega) (by omega) (fun i j hij hj => ?_) fun m' a1 a2 a3 a4 => hG m' (by omega) (by omega) a3 fun h => a4 (by omega)
      by_cases q : j < m
      · exact ha i j hij q
      · have : j = m := by omega
        subst this
        by_cases q2 : i = j - 1
        · subst q2; omega
        · have := ha i (j - 1) (by omega) (by omega); omega

theorem desc_ok {p : Array Nat} {G : Array Nat × Nat × Nat → Shared → Prop} (c : CmpOk n r s cmp) (g : Good n p) : ∀ f m, 1 ≤ m → m + f ≤ n → Dsc r p m → (∀ m', m ≤ m' → m' ≤ m + f → Dsc r p m' → G (p, m', 0) s) → (kas_desc f p m 0).kasWp cmp G s
  | 0, m, h1, h2, ha, hG => hG m (Nat.le_refl _) (Nat.le_refl _) ha
  | f + 1, m, h1, h2, ha, hG => by
    show cmp (p.getD m 0) (p.getD (m - 1) 0) (fun c s' => (if c = true then (if 0 > 0 then kas_desc f (kas_rev p (m - (0 + 1)) m) (m + 1) 0 else kas_desc f p (m + 1) 0) else KasT.ask (p.getD (m - 1) 0) (p.getD m 0) fun d => if d = true then KasT.ret (p, m, 0) else kas_desc f p (m + 1) (0 + 1)).kasWp cmp G s') s
    refine g.ask c (by omega) ?_
    have hne := g.key_ne c (i := m) (j := m - 1) (by omega) (by omega) (by omega)
    by_cases hk : key r p m < key r p (m - 1)
    · rw [decide_eq_true hk, if_pos rfl, if_neg (by omega)]
      refine desc_ok c g f (m + 1) (by omega) (by omega) (fun i j hij hj => ?_) fun m' a1 a2 a3 => hG m' (by omega) (by omega) a3
      by_cases q : j < m
      · exact ha i j hij q
      · have : j = m := by omega
        subst this
        by_cases q2 : i = j - 1
        · subst q2; omega
        · have := ha i (j - 1) (by omega) (by omega); omega
    · rw [decide_eq_false hk, if_neg (by simp)]
      show cmp (p.getD (m - 1) 0) (p.getD m 0) (fun d s' => (if d = true then KasT.ret (p, m, 0) else kas_desc f p (m + 1) (0 + 1)).kasWp cmp G s') s
      refine g.ask c (by omega) ?_
      rw [decide_eq_true (by omega), if_pos rfl]
      exact hG m (Nat.le_refl _) (by omega) ha

theorem key_rev {p : Array Nat} (g : Good n p) {m : Nat} (hm : m ≤ n) {i : Nat} (hi : i < m) : key r (kas_rev p 0 m) i = key r p (m - 1 - i) := by
  unfold key
  congr 1
  have hs := g.size
  have := getElem?_mirror_all (xs := p) (i := 0) (j := m) (by omega) i
  rw [if_pos ⟨Nat.zero_le _, hi⟩, Nat.zero_add] at this
  rw [Array.getD_eq_getD_getElem?, Array.getD_eq_getD_getElem?]
  exact congrArg (fun o => o.getD 0) this

theorem tail3_ok {p : Array Nat} {m : Nat} {G : Nat × Array Nat → Shared → Prop} (c : CmpOk n r s cmp) (g : Good n p) (h1 : 1 ≤ m) (hm : m ≤ n) (hd : Dsc r p m) (hG : ∀ m' p', 1 ≤ m' → m' ≤ n → Good n p' → Asc r p' m' → G (m', p') s) :
    (kas_tail3 m n p).kasWp cmp G s := by
  unfold kas_tail3
  rw [KasT.kasWp_bind]
  refine asc_ok c (g.rev 0 m) (n - m) m h1 (by omega) (fun i j hij hj => ?_) fun m' a1 a2 a3 _ => hG m' _ (by omega) (by omega) (g.rev 0 m) a3
  rw [key_rev g hm (by omega), key_rev g hm hj]
  exact hd _ _ (by omega) (by omega)

theorem count_ok {p : Array Nat} {G : Nat × Array Nat → Shared → Prop} (c : CmpOk n r s cmp) (g : Good n p) (h2 : 2 ≤ n) (hG : ∀ m' p', 1 ≤ m' → m' ≤ n → Good n p' → Asc r p' m' → G (m', p') s) :
    (kas_count n p).kasWp cmp G s := by
  unfold kas_count
  rw [KasT.kasWp_bind]
  refine asc_ok c g (n - 1) 1 (Nat.le_refl _) (by omega) (fun i j hij hj => by omega) fun m a1 a2 a3 a4 => ?_
  by_cases e1 : (m == n) = true
  · rw [if_pos e1]; exact hG m p a1 (by omega) g a3
  · rw [if_neg e1]
    have hmn : m ≠ n := fun q => e1 (by rw [q]; exact beq_self_eq_true _)
    by_cases e2 : m > 1
    · rw [if_pos e2]
      show cmp (p.getD 0 0) (p.getD (m - 1) 0) _ s
      refine g.ask c (by omega) ?_
      rw [decide_eq_true (a3 0 (m - 1) (by omega) (by omega))]
      exact hG m p a1 (by omega) g a3
    · rw [if_neg e2]
      have hm1 : m = 1 := by omega
      subst hm1
      unfold kas_descPart
      rw [KasT.kasWp_bind]
      have h10 := a4 (by omega)
      refine desc_ok c g (n - (1 + 1)) (1 + 1) (by omega) (by omega) (fun i j hij hj => ?_) fun m' b1 b2 b3 => ?_
      · have : j = 1 := by omega
        have : i = 0 := by omega
        subst i j; exact h10
      · show (if (0 : Nat) > 0 then kas_tail3 m' n (kas_rev p (m' - (0 + 1)) m') else kas_tail3 m' n p).kasWp cmp G s
        rw [if_neg (by omega)]
        exact tail3_ok c g (by omega) (by omega) b3 hG

theorem place_ok {p : Array Nat} {k : Nat} {G : Nat → Shared → Prop} (c : CmpOk n r s cmp) (g : Good n p) (hk : k < n) (ha : Asc r p k) : ∀ f l u, l ≤ u → u ≤ k → u - l ≤ f → (∀ i, i < l → key r p i < key r p k) → (∀ i, u ≤ i → i < k → key r p k < key r p i) →
    (∀ l', l' ≤ k → (∀ i, i < l' → key r p i < key r p k) → (∀ i, l' ≤ i → i < k → key r p k < key r p i) → G l' s) → (kas_place p k f l u).kasWp cmp G s
  | 0, l, u, h1, h2, h3, h4, h5, hG => hG l (by omega) h4 fun i hi hik => h5 i (by omega) hik
  | f + 1, l, u, h1, h2, h3, h4, h5, hG => by
    show (if l ≥ u then KasT.ret l else KasT.ask (p.getD k 0) (p.getD ((l + u) / 2) 0) fun c => if c = true then kas_place p k f l ((l + u) / 2) else kas_place p k f ((l + u) / 2 + 1) u).kasWp cmp G s
    by_cases q : l ≥ u
    · rw [if_pos q]; exact hG l (by omega) h4 fun i hi hik => h5 i (by omega) hik
    · rw [if_neg q]
      show cmp (p.getD k 0) (p.getD ((l + u) / 2) 0) (fun c s' => (if c = true then kas_place p k f l ((l + u) / 2) else kas_place p k f ((l + u) / 2 + 1) u).kasWp cmp G s') s
      refine g.ask c (by omega) ?_
      have hm : (l + u) / 2 < u := by omega
      have hl : l ≤ (l + u) / 2 := by omega
      generalize (l + u) / 2 = m at hm hl
      have hne := g.key_ne c (i := m) (j := k) (by omega) hk (by omega)
      by_cases hc : key r p k < key r p m
      · rw [decide_eq_true hc, if_pos rfl]
        refine place_ok c g hk ha f l m hl (by omega) (by omega) h4 (fun i hi hik => ?_) hG
        by_cases e : i = m
        · subst e; exact hc
        · have := ha m i (by omega) hik; omega
      · rw [decide_eq_false hc, if_neg (by simp)]
        refine place_ok c g hk ha f (m + 1) u (by omega) h2 (by omega) (fun i hi => ?_) h5 hG
        by_cases e : i = m
        · subst e; omega
        · have := ha i m (by omega) (by omega); omega

theorem key_bubble {p : Array Nat} (g : Good n p) {k l : Nat} (hk : k < n) (hl : l ≤ k) (i : Nat) : key r (bubble p k (k - l)) i = if i = l then key r p k else if l < i ∧ i ≤ k then key r p (i - 1) else key r p i := by
  unfold key
  have hs := g.size
  have := getElem?_bubble (xs := p) (src := k) (by omega) (k - l) (by omega) i
  rw [show k - (k - l) = l by omega] at this
  simp only [Array.getD_eq_getD_getElem?]
  rw [this]
  split
  · rfl
  · split <;> rfl

theorem bin_ok {G : Array Nat → Shared → Prop} (c : CmpOk n r s cmp) (hG : ∀ p', Good n p' → Asc r p' n → G p' s) : ∀ f (p : Array Nat) k, Good n p → f + k = n → Asc r p k → (kas_bin f p k).kasWp cmp G s
  | 0, p, k, g, h, ha => hG p g (by rw [← h, Nat.zero_add]; exact ha)
  | f + 1, p, k, g, h, ha => by
    show ((kas_place p k k 0 k).bind fun l => kas_bin f (bubble p k (k - l)) (k + 1)).kasWp cmp G s
    rw [KasT.kasWp_bind]
    refine place_ok c g (by omega) ha k 0 k (Nat.zero_le _) (Nat.le_refl _) (by omega) (fun i hi => by omega) (fun i h1 h2 => by omega) fun l hl h1 h2 => ?_
    refine bin_ok c hG f _ (k + 1) (g.bubble k (k - l)) (by omega) fun i j hij hj => ?_
    rw [key_bubble g (by omega) hl, key_bubble g (by omega) hl]
    by_cases a : i = l
    · subst a
      rw [if_pos rfl, if_neg (by omega), if_pos (by omega)]
      exact h2 (j - 1) (by omega) (by omega)
    · rw [if_neg a]
      by_cases a2 : l < i ∧ i ≤ k
      · rw [if_pos a2, if_neg (by omega), if_pos (by omega)]
        exact ha (i - 1) (j - 1) (by omega) (by omega)
      · rw [if_neg a2]
        by_cases b : j = l
        · subst b; rw [if_pos rfl]; exact h1 i hij
        · rw [if_neg b]
          by_cases b2 : l < j ∧ j ≤ k
          · rw [if_pos b2]
            by_cases e : i = j - 1
            · omega
            · exact ha i (j - 1) (by omega) (by omega)
          · rw [if_neg b2]; exact ha i j hij (by omega)

theorem sort_ok {G : Array Nat → Shared → Prop} (c : CmpOk n r s cmp) (h2 : 2 ≤ n) (hG : ∀ p', Good n p' → Asc r p' n → G p' s) : (kas_sort n).kasWp cmp G s := by
  unfold kas_sort
  rw [KasT.kasWp_bind]
  refine count_ok c (show Good n (List.toArray (List.range n)) from List.Perm.refl _) h2 fun m p h1 hm g ha => ?_
  by_cases h : m < n
  · show (if m < n then kas_bin (n - max m 1) p (max m 1) else KasT.ret p).kasWp cmp G s
    rw [if_pos h, Nat.max_eq_left h1]
    exact bin_ok c hG (n - m) p m g (by omega) ha
  · show (if m < n then kas_bin (n - max m 1) p (max m 1) else KasT.ret p).kasWp cmp G s
    rw [if_neg h]
    have : m = n := by omega
    subst this
    exact hG p g ha
end
end Mine
end

section
open PySem PySem.Calls PySem.W PyProof.Rows
set_option maxRecDepth 100000
set_option linter.unusedVariables false
namespace Mine

/-! ## sorted, of lists of str that are all different -/
theorem countP_lt {α : Type} {p q : α → Bool} : ∀ {l : List α} {a : α}, (∀ x, p x = true → q x = true) → a ∈ l → q a = true → p a = false → l.countP p < l.countP q
  | x :: l, a, h, hm, ha, hb => by
    have mono : l.countP p ≤ l.countP q := List.countP_mono_left fun x _ => h x
    rw [List.countP_cons, List.countP_cons]
    rcases List.mem_cons.mp hm with e | hm
    · subst e
      rw [if_neg (by rw [hb]; simp), if_pos ha]; omega
    · have ih := countP_lt h hm ha hb
      by_cases hp : p x = true
      · rw [if_pos hp, if_pos (h x hp)]; omega
      · rw [if_neg hp]; split <;> omega
def rankS (ps : List (List Str)) (i : Nat) : Nat := ps.countP fun q => ltS q (ps.getD i [])
theorem rankS_lt {ps : List (List Str)} {i j : Nat} (hi : i < ps.length) (hj : j < ps.length) : ltS (ps.getD i []) (ps.getD j []) = decide (rankS ps i < rankS ps j) := by
  have mem : ∀ k, k < ps.length → ps.getD k [] ∈ ps := fun k hk => by simp [List.getD, hk]
  have one : ∀ a b, a < ps.length → ltS (ps.getD a []) (ps.getD b []) = true → rankS ps a < rankS ps b := fun a b ha h =>
    countP_lt (fun x hx => ltS_trans _ _ _ hx h) (mem a ha) h (ltS_irrefl _)
  cases h : ltS (ps.getD i []) (ps.getD j []) with
  | true => rw [decide_eq_true (one i j hi h)]
  | false =>
    refine (decide_eq_false fun q => ?_).symm
    cases h2 : ltS (ps.getD j []) (ps.getD i []) with
    | true => have := one j i hj h2; omega
    | false =>
      have e := ltS_total _ _ h h2
      unfold rankS at q
      rw [e] at q
      exact absurd q (Nat.lt_irrefl _)
theorem rankS_inj {ps : List (List Str)} (nd : ps.Nodup) {i j : Nat} (hi : i < ps.length) (hj : j < ps.length) (h : rankS ps i = rankS ps j) : i = j := by
  have h1 := rankS_lt hi hj
  have h2 := rankS_lt hj hi
  rw [decide_eq_false (by omega)] at h1 h2
  have e := ltS_total _ _ h1 h2
  have pw := List.pairwise_iff_getElem.mp nd
  have e1 : ps.getD i [] = ps[i] := by simp [hi]
  have e2 : ps.getD j [] = ps[j] := by simp [hj]
  rw [e1, e2] at e
  rcases Nat.lt_trichotomy i j with q | q | q
  · exact absurd e (pw i j hi hj q)
  · exact q
  · exact absurd e.symm (pw j i hj hi q)

theorem sorted_same : ∀ {a b : List (List Str)}, a.Perm b → a.Pairwise (fun x y => ltS x y = true) → b.Pairwise (fun x y => ltS x y = true) → a = b
  | [], b, p, _, _ => (List.Perm.nil_eq p)
  | x :: a, [], p, _, _ => by have := p.length_eq; simp at this
  | x :: a, y :: b, p, ha, hb => by
    rw [List.pairwise_cons] at ha hb
    have e : x = y := by
      have h1 : x ∈ y :: b := p.mem_iff.mp (List.mem_cons_self ..)
      have h2 : y ∈ x :: a := p.mem_iff.mpr (List.mem_cons_self ..)
      rcases List.mem_cons.mp h1 with q | q
      · exact q
      · rcases List.mem_cons.mp h2 with q2 | q2
        · exact q2.symm
        · have := ltS_trans _ _ _ (ha.1 y q2) (hb.1 x q)
          rw [ltS_irrefl] at this; cases this
    subst e
    rw [sorted_same ((List.perm_cons x).mp p) ha.2 hb.2]

section
variable {prog : Program} {w : World} {A : Around} {E : Value → Shared → Prop} {s : Shared}

/-- a value that is a list of these texts -/
def StrsAt (h : Heap) (v : Value) (xs : List Str) : Prop := ∃ a, ∃ lx : List (Str × Tok), v = .ref a ∧ h.IsList a (strValues lx).toArray ∧ lx.map (·.1) = xs
theorem StrsAt.keeps {h h' : Heap} {v : Value} {xs : List Str} (x : StrsAt h v xs) (k : ∀ a, v = .ref a → ∀ o, h.get? a = some o → h'.get? a = some o) : StrsAt h' v xs := by
  obtain ⟨a, lx, e, hl, hx⟩ := x
  exact ⟨a, lx, e, hl.at fun o q => k a e o q, hx⟩
theorem keyLt_S {v v' : Value} {xs ys : List Str} {Q : Bool → Shared → Prop} (hu : A.units < cLine) (hx : StrsAt s.heap v xs) (hy : StrsAt s.heap v' ys) (h : Q (ltS xs ys) s) : wpAny (model prog w) A (keyLt' oneType' v v') Q E s := by
  obtain ⟨a, lx, rfl, hl, rfl⟩ := hx
  obtain ⟨b, ly, rfl, hl', rfl⟩ := hy
  have hT := hl.typeIs (s := s)
  obtain ⟨⟨cls, dd, data, sl⟩, ho, hc, n, hd⟩ := id hl
  obtain ⟨⟨cls2, dd2, data2, sl2⟩, ho2, hc2, n2, hd2⟩ := id hl'
  simp only at hc hd hc2 hd2
  subst hc hd hc2 hd2
  rw [keyLt'_oneType, oneLt'_eq]
  simp only [if_true]
  refine wpAny_bind (wpAny_cRoomFor hu ?_)
  refine wpAny_bind (wpAny_callSpecialIfBound?_slot hT PySem.F.slot_list_lt (call_meets PySem.F.slot_list_lt hT PySem.F.entry_list_lt (PySem.F.args_list_lt_2 _ _) (list_ltS a b lx ly n n2 dd dd2 sl sl2) ⟨ho, ho2, ?_⟩))
  exact wpAny_truthy_bool h

theorem looks_strs {M : Model} {h : Heap} {v : Value} {xs : List Str} (x : StrsAt h v xs) : Looks M h (typeOf v) (.type "list") := fun A Q E s k q => by
  obtain ⟨a, lx, rfl, hl, _⟩ := x
  exact wpAny_typeOf ((hl.at fun o e => k _ _ e).typeIs (s := s)) q

/-- vs holds the lists of str ps -/
inductive StrsAll (h : Heap) : List Value → List (List Str) → Prop
  | nil : StrsAll h [] []
  | cons {v vs p ps} : StrsAt h v p → StrsAll h vs ps → StrsAll h (v :: vs) (p :: ps)
theorem StrsAll.length {h : Heap} : ∀ {vs ps}, StrsAll h vs ps → vs.length = ps.length
  | _, _, .nil => rfl
  | _, _, .cons _ r => by simp [r.length]
theorem StrsAll.at {h : Heap} : ∀ {vs ps}, StrsAll h vs ps → ∀ i, i < vs.length → StrsAt h (vs.getD i .none) (ps.getD i [])
  | _, _, .nil, i, hi => by simp at hi
  | _, _, .cons x r, 0, _ => x
  | _, _, .cons x r, i + 1, hi => by simpa using r.at i (by simpa using hi)
theorem StrsAll.keeps {h h' : Heap} (k : ∀ a o, h.get? a = some o → h'.get? a = some o) : ∀ {vs ps}, StrsAll h vs ps → StrsAll h' vs ps
  | _, _, .nil => .nil
  | _, _, .cons x r => .cons (x.keeps fun a _ o e => k a o e) (r.keeps k)
theorem StrsAll.mem {h : Heap} : ∀ {vs ps}, StrsAll h vs ps → ∀ v ∈ vs, ∃ p, StrsAt h v p
  | _, _, .cons x r, v, hv => by
    rcases List.mem_cons.mp hv with e | hv
    · subst e; exact ⟨_, x⟩
    · exact r.mem v hv

theorem sort_treeS {a : Addr} {vs : List Value} {ps : List (List Str)} {n : Nat} {P : PySem.Fin → Shared → Prop} (ho : s.heap.get? a = some (seqObj "list" vs.toArray n)) (hu : A.units < cLine)
    (hv : StrsAll (s.heap.update a (Obj.mapSeq fun _ => #[])) vs ps) (nd : ps.Nodup) (h2 : 2 ≤ vs.length) (h64 : vs.length < 64)
    (h : ∀ p : Array Nat, Good vs.length p → Asc (rankS ps) p vs.length → P (.done (.ret .none)) { s with heap := sortedHeap s.heap a vs (List.toArray (p.toList.map fun i => vs.getD i Value.none)) }) :
    wpAny (model prog w) A (Builtin.«list.sort» ⟨[.ref a], []⟩) P E s := by
  have hlen := hv.length
  have ha : a < s.heap.objs.size := Heap.lt_size ho
  obtain ⟨e1, ho1⟩ : ∃ e1, (s.heap.update a (Obj.mapSeq fun _ => (#[] : Array Value))).get? a = some (seqObj "list" #[] e1) := ⟨_, get?_update_seq ho fun _ => #[]⟩
  have up : ∀ b o, (s.heap.update a (Obj.mapSeq fun _ => (#[] : Array Value))).get? b = some o → (((s.heap.update a (Obj.mapSeq fun _ => #[])).push (seqObj "tuple" vs.toArray 0)).push (seqObj "list" #[] 0)).get? b = some o := fun b o e => Heap.get?_push_of_some _ (Heap.get?_push_of_some _ e)
  have hv3 := hv.keeps up
  have ho3 := up a _ ho1
  rw [list_sort_plain]
  refine wpAny_bind (listItems_at ho rfl ?_)
  refine wpAny_bind (listUpdate_at ho rfl ?_ (by rw [List.size_toArray, sizeLine_eq]; omega) (Nat.zero_le _))
  refine wpAny_bind (seqEpoch_at ho1 rfl ?_)
  refine wpAny_bind (wpAny_newTuple ?_ (by show vs.length ≤ _; rw [sizeLine_eq]; omega))
  refine wpAny_bind (wpAny_newList ?_ (Nat.zero_le _))
  refine wpAny_holding ?_
  show wpAny (model prog w) A _ P E { s with heap := ((s.heap.update a (Obj.mapSeq fun _ => #[])).push (seqObj "tuple" vs.toArray 0)).push (seqObj "list" #[] 0) }
  dsimp only
  have hn2 : ¬ vs.toArray.size < 2 := by rw [List.size_toArray]; omega
  rw [if_neg hn2, if_neg hn2]
  refine wpAny_bind (kas_kind (T := .type "list") h2 (fun v hm => let ⟨p, x⟩ := hv3.mem v hm; looks_strs x) rfl rfl ?_)
  have est : SortSt.mk' oneType' (vs.toArray.zip vs.toArray) #[] 7 none = kas_st oneType' (pairsOf vs) (List.toArray (List.range vs.length)) := by
    have e := kas_range (pairsOf vs)
    rw [pairsOf_size] at e
    show SortSt.mk' oneType' (pairsOf vs) #[] 7 none = SortSt.mk' oneType' ((List.toArray (List.range vs.length)).map (kas_item (pairsOf vs))) #[] 7 none
    rw [e]
  have ask : (kas_sort vs.length).kasWp (kas_cmp prog w A oneType' (pairsOf vs)) (fun p s' => s' = { s with heap := ((s.heap.update a (Obj.mapSeq fun _ => #[])).push (seqObj "tuple" vs.toArray 0)).push (seqObj "list" #[] 0) } ∧ Good vs.length p ∧ Asc (rankS ps) p vs.length) { s with heap := ((s.heap.update a (Obj.mapSeq fun _ => #[])).push (seqObj "tuple" vs.toArray 0)).push (seqObj "list" #[] 0) } := by
    refine sort_ok (n := vs.length) (r := rankS ps) ⟨fun i j Q hi hj hq => ?_, fun i j hi hj h => rankS_inj nd (by omega) (by omega) h⟩ h2 fun p g ac => ⟨rfl, g, ac⟩
    rw [← kas_ask_eq]
    refine keyLt_S (A := A) hu (hv3.at i hi) (hv3.at j hj) ?_
    rw [rankS_lt (by omega) (by omega)]
    exact hq
  have run := kas_runs (E := E) (Q := fun _ st' s' => ∃ p : Array Nat, p.size = vs.length ∧ arrOf st' = p.map (kas_item (pairsOf vs)) ∧ failedOf st' = none ∧ s' = { s with heap := ((s.heap.update a (Obj.mapSeq fun _ => #[])).push (seqObj "tuple" vs.toArray 0)).push (seqObj "list" #[] 0) } ∧ Good vs.length p ∧ Asc (rankS ps) p vs.length)
    h2 h64 (fun p' st' s' a1 a2 a3 a4 => ⟨p', a1, a2, a3, a4⟩) ask
  rw [← est] at run
  refine wpAny_bind (wpAny_mono run ?_ fun _ _ e => e)
  rintro ⟨⟨⟩, st'⟩ s' ⟨p, hp, har, hf, rfl, g, ac⟩
  dsimp only
  have hout : (arrOf st').map (·.2) = List.toArray (p.toList.map fun i => vs.getD i Value.none) := by
    apply Array.toList_inj.mp
    rw [har, Array.map_map, Array.toList_map]
    exact List.map_congr_left fun i _ => by show (kas_item (pairsOf vs) i).2 = _; rw [kas_item_eq]
  have hsz : (List.toArray (p.toList.map fun i => vs.getD i Value.none)).size = vs.length := by rw [List.size_toArray, List.length_map, Array.length_toList, hp]
  rw [hout]
  refine wpAny_bind (seqEpoch_at ho3 rfl ?_)
  refine wpAny_bind (listUpdate_at ho3 rfl ?_ (Nat.zero_le _) (Nat.le_trans (Nat.le_of_eq hsz) (by rw [sizeLine_eq]; omega)))
  rw [hf]
  simp only [bne_self_eq_false, Bool.false_eq_true, if_false]
  exact wpAny_pure (h p g ac)

theorem sorted_S {l : Addr} {vs : List Value} {ps : List (List Str)} {Q : Value → Shared → Prop} (hl : s.heap.IsList l vs.toArray) (hu : A.units + 10 < cLine) (hv : StrsAll s.heap vs ps) (nd : ps.Nodup) (h2 : 2 ≤ vs.length) (h64 : vs.length < 64)
    (h : ∀ p : Array Nat, Good vs.length p → Asc (rankS ps) p vs.length → Q (.ref (s.heap.objs.size + 1)) { s with heap := sortedAll s.heap vs (List.toArray (p.toList.map fun i => vs.getD i Value.none)) }) :
    wpAny (model prog w) A (call (.builtin "sorted") [.ref l]) Q E s := by
  refine Calls.call_function_entry kind_sorted plain_sorted entry_sorted (args_sorted1 _) ?_
  unfold Builtin.«sorted»
  refine wpAny_bind (m := checkCount "sorted" 1 1 _) (wpAny_pure ?_)
  refine wpAny_bind (collect_list hl ?_ (by rw [sizeLine_eq]; omega))
  refine wpAny_bind (wpAny_newList ?_ (by rw [sizeLine_eq]; omega))
  have hsz : ((s.heap.push (seqObj "list" #[] 0)).update s.heap.objs.size (Obj.mapSeq (· ++ vs.toArray))).objs.size = s.heap.objs.size + 1 := by
    rw [Heap.size_update, size_push']
  have hoL : (((s.heap.push (seqObj "list" #[] 0)).update s.heap.objs.size (Obj.mapSeq (· ++ vs.toArray))).push (seqObj "list" vs.toArray 0)).get? (s.heap.objs.size + 1) = some (seqObj "list" vs.toArray 0) := by
    rw [← hsz]; exact Heap.get?_push_size _ rfl
  have keep : ∀ b o, s.heap.get? b = some o → ((((s.heap.push (seqObj "list" #[] 0)).update s.heap.objs.size (Obj.mapSeq (· ++ vs.toArray))).push (seqObj "list" vs.toArray 0)).update (s.heap.objs.size + 1) (Obj.mapSeq fun _ => #[])).get? b = some o := fun b o q => by
    have hlt : b < s.heap.objs.size := Heap.lt_size q
    rw [Heap.get?_update_ne _ _ _ _ (Nat.ne_of_lt (Nat.lt_succ_of_lt hlt)), Heap.get?_push_ne _ _ _ (by rw [hsz]; exact Nat.ne_of_lt (Nat.lt_succ_of_lt hlt)), Heap.get?_update_ne _ _ _ _ (Nat.ne_of_lt hlt), Heap.get?_push_ne _ _ _ (Nat.ne_of_lt hlt)]
    exact q
  show wpAny _ _ _ _ _ { s with heap := ((s.heap.push (seqObj "list" #[] 0)).update s.heap.objs.size (Obj.mapSeq (· ++ vs.toArray))).push (seqObj "list" vs.toArray 0) }
  rw [hsz]
  refine wpAny_bind (wpAny_holding (wpAny_call_entry slot_list_sort ⟨_, hoL, rfl⟩ entry_list_sort (sort_treeS (s := { s with heap := ((s.heap.push (seqObj "list" #[] 0)).update s.heap.objs.size (Obj.mapSeq (· ++ vs.toArray))).push (seqObj "list" vs.toArray 0) }) hoL ?_ (hv.keeps keep) nd h2 h64 fun p g ac => ⟨_, rfl, ?_⟩) (args_list_sort _)))
  · show A.units + 1 + 1 < cLine
    omega
  · exact wpAny_pure ⟨_, rfl, h p g ac⟩
end

theorem RepL.strsAll {W : Addr → Prop} {h : Heap} : ∀ {vs : List Value} {ps : List (List Str)}, RepL W h vs (ps.map fun p => dStrs p) → StrsAll h vs ps
  | _, [], r => by cases r; exact .nil
  | _, p :: ps, r => by
    rw [List.map_cons] at r
    cases r with
    | cons a b =>
      refine .cons ?_ (RepL.strsAll b)
      cases a
      rename_i a vs hl hw hr
      obtain ⟨l, rfl, e⟩ := hr.toStrs
      exact ⟨a, l, rfl, hl.isList, e⟩
theorem RepL.getD {W : Addr → Prop} {h : Heap} {vs : List Value} {ps : List (List Str)} (r : RepL W h vs (ps.map fun p => dStrs p)) {i : Nat} (hi : i < ps.length) : Rep W h (vs.getD i Value.none) (dStrs (ps.getD i [])) := by
  obtain ⟨v, e, rv⟩ := r.get (i := i) (d := dStrs (ps.getD i [])) (by simp [hi])
  rw [List.getD_eq_getElem?_getD, e]
  exact rv
theorem RepL.mapI {W : Addr → Prop} {h : Heap} {f : Nat → Value} {g : Nat → PyData} : ∀ l : List Nat, (∀ i ∈ l, Rep W h (f i) (g i)) → RepL W h (l.map f) (l.map g)
  | [], _ => .nil
  | i :: l, k => .cons (k i (List.mem_cons_self ..)) (RepL.mapI l fun j hj => k j (List.mem_cons_of_mem _ hj))

theorem Bi.sortedS {C : Cx} {ps qs : List (List Str)} (nd : ps.Nodup) (h2 : 2 ≤ ps.length) (h64 : ps.length < 64) (hq : qs.Perm ps) (hs : qs.Pairwise fun x y => ltS x y = true) (hr : RoomA 1 C.A) :
    Bi C (.builtin "sorted") [.list (ps.map fun p => dStrs p)] (.list (qs.map fun p => dStrs p)) := by
  rintro s _ o (_ | ⟨⟨⟩, ⟨⟩⟩)
  rename_i a vs hl hw hvs
  have hlen : vs.length = ps.length := by rw [hvs.length]; simp
  refine sorted_S hl.isList (by have := hr.2.2; show _ < 9900; omega) hvs.strsAll nd (by omega) (by omega) fun p g ac => ?_
  obtain ⟨e, he⟩ := sortedAll_at s.heap vs (List.toArray (p.toList.map fun i => vs.getD i Value.none))
  have kp : Keeps s { s with heap := sortedAll s.heap vs (List.toArray (p.toList.map fun i => vs.getD i Value.none)) } := ⟨_, s.toks, rfl, fun b o' q => sortedAll_old q⟩
  have hgl : p.toList.length = vs.length := by rw [Array.length_toList]; exact g.size
  have eq : (p.toList.map fun i => ps.getD i []) = qs := by
    refine sorted_same ?_ ?_ hs
    · refine List.Perm.trans (g.map _) (List.Perm.trans (List.Perm.of_eq ?_) hq.symm)
      rw [hlen]
      apply List.ext_getElem?
      intro i
      by_cases hi : i < ps.length
      · simp [hi]
      · rw [List.getElem?_eq_none (by simp; omega), List.getElem?_eq_none (by omega)]
    · rw [List.pairwise_iff_getElem]
      intro i j hi hj hij
      have hi' : i < p.toList.length := by simpa using hi
      have hj' : j < p.toList.length := by simpa using hj
      rw [List.getElem_map, List.getElem_map]
      have h1 := ac i j hij (by omega)
      have l1 := g.lt (by omega) i
      have l2 := g.lt (by omega) j
      unfold key at h1
      have e1 : p.getD i 0 = p.toList[i] := by simp [Array.getD, show i < p.size by simpa using hi']
      have e2 : p.getD j 0 = p.toList[j] := by simp [Array.getD, show j < p.size by simpa using hj']
      rw [e1] at h1 l1
      rw [e2] at h1 l2
      rw [rankS_lt (by omega) (by omega), decide_eq_true h1]
  refine ⟨kp, .list (vs := p.toList.map fun i => vs.getD i Value.none) ⟨_, he⟩ (o.notW (fresh_none (Nat.le_succ _))) ?_⟩
  rw [← eq, List.map_map]
  refine RepL.mapI _ fun i hi => ?_
  have hlt : i < ps.length := by have := List.mem_range.mp (g.mem_iff.mp hi); omega
  exact (hvs.getD hlt).keeps (kp_heap kp)
end Mine
end

section
open PySem PySem.Calls PySem.W PyProof.Rows
set_option maxRecDepth 100000
set_option linter.unusedVariables false
namespace Mine
open PySem.Sre

def code1 : Array Nat := #[14, 4, 0, 1, 1, 6, 1, 16, 46, 1]
def code2 : Array Nat := #[14, 9, 4, 1, 2, 16, 10, 16, 13, 0, 7, 7, 16, 13, 16, 10, 15, 18, 5, 16, 10, 15, 13, 11, 16, 13, 5, 5, 0, 16, 10, 1, 15, 2, 0, 1]

theorem runFor_done {m : M} (h : m.outcome.isSome = true) : ∀ n, M.runFor n m = m
  | 0 => rfl
  | n + 1 => by unfold M.runFor; rw [if_pos h]
theorem runFor_add (a b : Nat) : ∀ m : M, M.runFor (a + b) m = M.runFor b (M.runFor a m) := by
  induction a with
  | zero => intro m; rw [Nat.zero_add]; rfl
  | succ a ih =>
    intro m
    rw [show a + 1 + b = (a + b) + 1 by omega]
    by_cases h : m.outcome.isSome = true
    · rw [runFor_done h, runFor_done h, runFor_done h]
    · have e : ∀ k, M.runFor (k + 1) m = M.runFor k m.step := fun k => by
        show (if m.outcome.isSome = true then m else M.runFor k m.step) = _
        rw [if_neg h]
      rw [e, e, ih]

def mk1 (x : Array Nat) (n st : Nat) (o : Bool) (sn : Sre.Seen) (pc pos hd : Nat) (frs : List Sre.Frame) (wt : Nat) (ans : Option Bool) (out : Option Sre.Outcome) : M :=
  { code := code1, text := x, lim := n, start := st, lastStart := n, wholeText := false, mustAdvance := false, pc := pc, pos := pos, handed := hd, outermost := o, marks := #[], lastmark := -1, lastindex := -1, loops := #[], inner := none,
    frames := frs, weight := wt, answer := ans, seen := sn, outcome := out }
def fr1 (p : Nat) (o : Bool) : List Sre.Frame := [{ wait := .nextStart, pc := 5, pos := p, outermost := o }]
section
variable (x : Array Nat) (n p : Nat) (o : Bool) (sn : Sre.Seen)
theorem at_yes (h : (p == 0 || x.getD (p - 1) 0 == 10) = true) : M.step (mk1 x n p o sn 5 p p (fr1 p o) 1 none none) = mk1 x n p o ((sn.add 6).add 44) 7 p p (fr1 p o) 1 none none := by
  have e : M.step (mk1 x n p o sn 5 p p (fr1 p o) 1 none none) = if (p == 0 || x.getD (p - 1) 0 == 10) = true then mk1 x n p o ((sn.add 6).add 44) 7 p p (fr1 p o) 1 none none else mk1 x n p o ((sn.add 6).add 44) 5 p p (fr1 p o) 1 (some false) none := rfl
  rw [e, if_pos h]
theorem at_no (h : (p == 0 || x.getD (p - 1) 0 == 10) = false) : M.step (mk1 x n p o sn 5 p p (fr1 p o) 1 none none) = mk1 x n p o ((sn.add 6).add 44) 5 p p (fr1 p o) 1 (some false) none := by
  have e : M.step (mk1 x n p o sn 5 p p (fr1 p o) 1 none none) = if (p == 0 || x.getD (p - 1) 0 == 10) = true then mk1 x n p o ((sn.add 6).add 44) 7 p p (fr1 p o) 1 none none else mk1 x n p o ((sn.add 6).add 44) 5 p p (fr1 p o) 1 (some false) none := rfl
  rw [e, h, if_neg Bool.false_ne_true]
theorem go_next (pc : Nat) (h : p < n) : M.step (mk1 x n p o sn pc p p (fr1 p o) 1 (some false) none) = mk1 x n (p + 1) false sn 5 (p + 1) (p + 1) (fr1 (p + 1) false) 1 none none := by
  have e : M.step (mk1 x n p o sn pc p p (fr1 p o) 1 (some false) none) = if p < n then mk1 x n (p + 1) false sn 5 (p + 1) (p + 1) (fr1 (p + 1) false) 1 none none else mk1 x n p o sn 5 p p [] 0 (some false) none := rfl
  rw [e, if_pos h]
theorem go_last (pc : Nat) (h : ¬ p < n) : M.step (mk1 x n p o sn pc p p (fr1 p o) 1 (some false) none) = mk1 x n p o sn 5 p p [] 0 (some false) none := by
  have e : M.step (mk1 x n p o sn pc p p (fr1 p o) 1 (some false) none) = if p < n then mk1 x n (p + 1) false sn 5 (p + 1) (p + 1) (fr1 (p + 1) false) 1 none none else mk1 x n p o sn 5 p p [] 0 (some false) none := rfl
  rw [e, if_neg h]
theorem end_no : M.step (mk1 x n p o sn 5 p p [] 0 (some false) none) = mk1 x n p o sn 5 p p [] 0 (some false) (some .failed) := rfl
theorem lit_out (h : p ≥ n) : M.step (mk1 x n p o sn 7 p p (fr1 p o) 1 none none) = mk1 x n p o (sn.add 16) 7 p p (fr1 p o) 1 (some false) none := by
  show (if p ≥ n then _ else _) = _
  rw [if_pos h]; rfl
theorem lit_no (h : ¬ p ≥ n) (hc : (x.getD p 0 == 46) = false) : M.step (mk1 x n p o sn 7 p p (fr1 p o) 1 none none) = mk1 x n p o (sn.add 16) 7 p p (fr1 p o) 1 (some false) none := by
  show (if p ≥ n then _ else match (Except.ok (x.getD p 0 == 46, sn.add 16) : Except String (Bool × Sre.Seen)) with | .error why => _ | .ok (false, seen) => _ | .ok (true, seen) => _) = _
  rw [if_neg h, hc]; rfl
theorem lit_yes (h : ¬ p ≥ n) (hc : (x.getD p 0 == 46) = true) : M.step (mk1 x n p o sn 7 p p (fr1 p o) 1 none none) = mk1 x n p o (sn.add 16) 9 (p + 1) p (fr1 p o) 1 none none := by
  show (if p ≥ n then _ else match (Except.ok (x.getD p 0 == 46, sn.add 16) : Except String (Bool × Sre.Seen)) with | .error why => _ | .ok (false, seen) => _ | .ok (true, seen) => _) = _
  rw [if_neg h, hc]; rfl
theorem suc_yes : M.step (mk1 x n p o sn 9 (p + 1) p (fr1 p o) 1 none none) = mk1 x n p o (sn.add 1) 9 (p + 1) (p + 1) (fr1 p o) 1 (some true) none := by
  cases o <;> rfl
theorem res_yes : M.step (mk1 x n p o sn 9 (p + 1) (p + 1) (fr1 p o) 1 (some true) none) = mk1 x n p o sn 5 p (p + 1) [] 0 (some true) none := rfl
theorem end_yes : M.step (mk1 x n p o sn 5 p (p + 1) [] 0 (some true) none) = mk1 x n p o sn 5 p (p + 1) [] 0 (some true) (some .matched) := rfl
end
theorem run1 {m m' : M} {k : Nat} (h0 : m.outcome = none) (e : m.step = m') : M.runFor (k + 1) m = M.runFor k m' := by
  show (if m.outcome.isSome = true then m else M.runFor k m.step) = _
  rw [h0, e]; rfl

/-- where the first pattern is found: behind a line's start, a dot -/
def find1 (x : Array Nat) : (fuel p : Nat) → Option Nat
  | 0, _ => none
  | k + 1, p => if (p == 0 || x.getD (p - 1) 0 == 10) && x.getD p 0 == 46 then some p else find1 x k (p + 1)

theorem search1 (x : Array Nat) (n : Nat) : ∀ (k p : Nat) (o : Bool) (sn : Sre.Seen), p + k = n → ∃ j m', j ≤ 5 * k + 6 ∧ M.runFor j (mk1 x n p o sn 5 p p (fr1 p o) 1 none none) = m' ∧
    match find1 x k p with
    | some q => m'.outcome = some .matched ∧ m'.start = q ∧ m'.handed = q + 1
    | none => m'.outcome = some .failed
  | 0, p, o, sn, h => by
    have hp : p = n := by omega
    subst hp
    have nl : ¬ p < p := Nat.lt_irrefl _
    cases ha : (p == 0 || x.getD (p - 1) 0 == 10) with
    | false =>
      refine ⟨3, mk1 x p p o ((sn.add 6).add 44) 5 p p [] 0 (some false) (some .failed), by omega, ?_, rfl⟩
      rw [run1 rfl (at_no _ _ _ _ _ ha), run1 rfl (go_last _ _ _ _ _ _ nl), run1 rfl (end_no ..)]
      rfl
    | true =>
      refine ⟨4, mk1 x p p o (((sn.add 6).add 44).add 16) 5 p p [] 0 (some false) (some .failed), by omega, ?_, rfl⟩
      rw [run1 rfl (at_yes _ _ _ _ _ ha), run1 rfl (lit_out _ _ _ _ _ (Nat.le_refl _)), run1 rfl (go_last _ _ _ _ _ _ nl), run1 rfl (end_no ..)]
      rfl
  | k + 1, p, o, sn, h => by
    have hp : p < n := by omega
    have hp' : ¬ p ≥ n := by omega
    cases ha : (p == 0 || x.getD (p - 1) 0 == 10) with
    | false =>
      obtain ⟨j, m', hj, hr, hm⟩ := search1 x n k (p + 1) false ((sn.add 6).add 44) (by omega)
      refine ⟨j + 2, m', by omega, ?_, ?_⟩
      · rw [run1 (k := j + 1) rfl (at_no _ _ _ _ _ ha), run1 rfl (go_next _ _ _ _ _ _ hp), hr]
      · unfold find1; rw [ha, Bool.false_and, if_neg Bool.false_ne_true]; exact hm
    | true =>
      cases hc : x.getD p 0 == 46 with
      | false =>
        obtain ⟨j, m', hj, hr, hm⟩ := search1 x n k (p + 1) false (((sn.add 6).add 44).add 16) (by omega)
        refine ⟨j + 3, m', by omega, ?_, ?_⟩
        · rw [run1 (k := j + 2) rfl (at_yes _ _ _ _ _ ha), run1 (k := j + 1) rfl (lit_no _ _ _ _ _ hp' hc), run1 rfl (go_next _ _ _ _ _ _ hp), hr]
        · unfold find1; rw [ha, hc, Bool.and_false, if_neg Bool.false_ne_true]; exact hm
      | true =>
        refine ⟨5, mk1 x n p o ((((sn.add 6).add 44).add 16).add 1) 5 p (p + 1) [] 0 (some true) (some .matched), by omega, ?_, ?_⟩
        rotate_left
        · unfold find1; rw [ha, hc]
          exact ⟨rfl, rfl, rfl⟩
        · rw [run1 (k := 4) rfl (at_yes _ _ _ _ _ ha), run1 (k := 3) rfl (lit_yes _ _ _ _ _ hp' hc), run1 rfl (suc_yes ..), run1 rfl (res_yes ..), run1 rfl (end_yes ..)]
          rfl

theorem forSearch1 (x : Array Nat) (p : Nat) (hp : p ≤ x.size) : ∃ j m', j ≤ 5 * x.size + 20 ∧ M.runFor j (Sre.forSearch code1 x 0 p x.size false) = m' ∧
    match find1 x (x.size - p) p with
    | some q => m'.outcome = some .matched ∧ m'.start = q ∧ m'.handed = q + 1
    | none => m'.outcome = some .failed := by
  by_cases h : p < x.size
  · obtain ⟨j, m', hj, hr, hm⟩ := search1 x x.size (x.size - p) p true (({} : Sre.Seen).add 14) (by omega)
    refine ⟨j, m', by omega, ?_, hm⟩
    rw [← hr]
    congr 1
    have e : (decide (p > x.size) || decide (x.size - p < 1)) = false := by
      simp; omega
    unfold Sre.forSearch
    show (if (decide (p > x.size) || decide (x.size - p < 1)) = true then _ else _) = _
    rw [e, if_neg Bool.false_ne_true]
    rfl
  · have e : (decide (p > x.size) || decide (x.size - p < 1)) = true := by
      simp; omega
    rw [show x.size - p = 0 by omega]
    refine ⟨1, { code := code1, text := x, lim := x.size, start := p, pc := 5, pos := p, handed := p, marks := #[], mustAdvance := false, seen := ({} : Sre.Seen).add 14, answer := some false, outcome := some .failed }, by omega, ?_, rfl⟩
    unfold Sre.forSearch
    show M.runFor 1 (if (decide (p > x.size) || decide (x.size - p < 1)) = true then _ else _) = _
    rw [e, if_pos rfl]
    rfl

/-! ## the second pattern: any line end -/
def mk2 (x : Array Nat) (n st : Nat) (o : Bool) (sn : Sre.Seen) (pc pos hd : Nat) (frs : List Sre.Frame) (wt : Nat) (ans : Option Bool) (out : Option Sre.Outcome) : M :=
  { code := code2, text := x, lim := n, start := st, lastStart := n, wholeText := false, mustAdvance := false, pc := pc, pos := pos, handed := hd, outermost := o, marks := #[], lastmark := -1, lastindex := -1, loops := #[], inner := none,
    frames := frs, weight := wt, answer := ans, seen := sn, outcome := out }
def fr2 (p : Nat) (o : Bool) : Sre.Frame := { wait := .nextStart, pc := 10, pos := p, outermost := o }
def br2 (alt p : Nat) (o : Bool) : Sre.Frame := { wait := .nextBranch, pc := alt, pos := p, outermost := o, kept := { lastmark := -1, lastindex := -1, whole := false, marks := #[] } }
def ln2 (p : Nat) (o : Bool) : Sre.Frame := { wait := .lookNot, pc := 26, pos := p, outermost := o, kept := { lastmark := -1, lastindex := -1, whole := false, marks := #[] } }
section
variable (x : Array Nat) (n p : Nat) (o : Bool) (sn : Sre.Seen)
theorem lo12 (pos hd st wt : Nat) (frs : List Sre.Frame) (h : pos ≥ n) : M.step (mk2 x n st o sn 12 pos hd frs wt none none) = mk2 x n st o (sn.add 16) 12 pos hd frs wt (some false) none := by
  show (if pos ≥ n then _ else _) = _
  rw [if_pos h]; rfl
theorem ln12 (pos hd st wt : Nat) (frs : List Sre.Frame) (h : ¬ pos ≥ n) (hc : (x.getD pos 0 == 13) = false) : M.step (mk2 x n st o sn 12 pos hd frs wt none none) = mk2 x n st o (sn.add 16) 12 pos hd frs wt (some false) none := by
  show (if pos ≥ n then _ else match (Except.ok (x.getD pos 0 == 13, sn.add 16) : Except String (Bool × Sre.Seen)) with | .error why => _ | .ok (false, seen) => _ | .ok (true, seen) => _) = _
  rw [if_neg h, hc]; rfl
theorem ly12 (pos hd st wt : Nat) (frs : List Sre.Frame) (h : ¬ pos ≥ n) (hc : (x.getD pos 0 == 13) = true) : M.step (mk2 x n st o sn 12 pos hd frs wt none none) = mk2 x n st o (sn.add 16) 14 (pos + 1) hd frs wt none none := by
  show (if pos ≥ n then _ else match (Except.ok (x.getD pos 0 == 13, sn.add 16) : Except String (Bool × Sre.Seen)) with | .error why => _ | .ok (false, seen) => _ | .ok (true, seen) => _) = _
  rw [if_neg h, hc]; rfl
theorem lo14 (pos hd st wt : Nat) (frs : List Sre.Frame) (h : pos ≥ n) : M.step (mk2 x n st o sn 14 pos hd frs wt none none) = mk2 x n st o (sn.add 16) 14 pos hd frs wt (some false) none := by
  show (if pos ≥ n then _ else _) = _
  rw [if_pos h]; rfl
theorem ln14 (pos hd st wt : Nat) (frs : List Sre.Frame) (h : ¬ pos ≥ n) (hc : (x.getD pos 0 == 10) = false) : M.step (mk2 x n st o sn 14 pos hd frs wt none none) = mk2 x n st o (sn.add 16) 14 pos hd frs wt (some false) none := by
  show (if pos ≥ n then _ else match (Except.ok (x.getD pos 0 == 10, sn.add 16) : Except String (Bool × Sre.Seen)) with | .error why => _ | .ok (false, seen) => _ | .ok (true, seen) => _) = _
  rw [if_neg h, hc]; rfl
theorem ly14 (pos hd st wt : Nat) (frs : List Sre.Frame) (h : ¬ pos ≥ n) (hc : (x.getD pos 0 == 10) = true) : M.step (mk2 x n st o sn 14 pos hd frs wt none none) = mk2 x n st o (sn.add 16) 16 (pos + 1) hd frs wt none none := by
  show (if pos ≥ n then _ else match (Except.ok (x.getD pos 0 == 10, sn.add 16) : Except String (Bool × Sre.Seen)) with | .error why => _ | .ok (false, seen) => _ | .ok (true, seen) => _) = _
  rw [if_neg h, hc]; rfl
theorem lo19 (pos hd st wt : Nat) (frs : List Sre.Frame) (h : pos ≥ n) : M.step (mk2 x n st o sn 19 pos hd frs wt none none) = mk2 x n st o (sn.add 16) 19 pos hd frs wt (some false) none := by
  show (if pos ≥ n then _ else _) = _
  rw [if_pos h]; rfl
theorem ln19 (pos hd st wt : Nat) (frs : List Sre.Frame) (h : ¬ pos ≥ n) (hc : (x.getD pos 0 == 10) = false) : M.step (mk2 x n st o sn 19 pos hd frs wt none none) = mk2 x n st o (sn.add 16) 19 pos hd frs wt (some false) none := by
  show (if pos ≥ n then _ else match (Except.ok (x.getD pos 0 == 10, sn.add 16) : Except String (Bool × Sre.Seen)) with | .error why => _ | .ok (false, seen) => _ | .ok (true, seen) => _) = _
  rw [if_neg h, hc]; rfl
theorem ly19 (pos hd st wt : Nat) (frs : List Sre.Frame) (h : ¬ pos ≥ n) (hc : (x.getD pos 0 == 10) = true) : M.step (mk2 x n st o sn 19 pos hd frs wt none none) = mk2 x n st o (sn.add 16) 21 (pos + 1) hd frs wt none none := by
  show (if pos ≥ n then _ else match (Except.ok (x.getD pos 0 == 10, sn.add 16) : Except String (Bool × Sre.Seen)) with | .error why => _ | .ok (false, seen) => _ | .ok (true, seen) => _) = _
  rw [if_neg h, hc]; rfl
theorem lo24 (pos hd st wt : Nat) (frs : List Sre.Frame) (h : pos ≥ n) : M.step (mk2 x n st o sn 24 pos hd frs wt none none) = mk2 x n st o (sn.add 16) 24 pos hd frs wt (some false) none := by
  show (if pos ≥ n then _ else _) = _
  rw [if_pos h]; rfl
theorem ln24 (pos hd st wt : Nat) (frs : List Sre.Frame) (h : ¬ pos ≥ n) (hc : (x.getD pos 0 == 13) = false) : M.step (mk2 x n st o sn 24 pos hd frs wt none none) = mk2 x n st o (sn.add 16) 24 pos hd frs wt (some false) none := by
  show (if pos ≥ n then _ else match (Except.ok (x.getD pos 0 == 13, sn.add 16) : Except String (Bool × Sre.Seen)) with | .error why => _ | .ok (false, seen) => _ | .ok (true, seen) => _) = _
  rw [if_neg h, hc]; rfl
theorem ly24 (pos hd st wt : Nat) (frs : List Sre.Frame) (h : ¬ pos ≥ n) (hc : (x.getD pos 0 == 13) = true) : M.step (mk2 x n st o sn 24 pos hd frs wt none none) = mk2 x n st o (sn.add 16) 26 (pos + 1) hd frs wt none none := by
  show (if pos ≥ n then _ else match (Except.ok (x.getD pos 0 == 13, sn.add 16) : Except String (Bool × Sre.Seen)) with | .error why => _ | .ok (false, seen) => _ | .ok (true, seen) => _) = _
  rw [if_neg h, hc]; rfl
theorem lo29 (pos hd st wt : Nat) (frs : List Sre.Frame) (h : pos ≥ n) : M.step (mk2 x n st o sn 29 pos hd frs wt none none) = mk2 x n st o (sn.add 16) 29 pos hd frs wt (some false) none := by
  show (if pos ≥ n then _ else _) = _
  rw [if_pos h]; rfl
theorem ln29 (pos hd st wt : Nat) (frs : List Sre.Frame) (h : ¬ pos ≥ n) (hc : (x.getD pos 0 == 10) = false) : M.step (mk2 x n st o sn 29 pos hd frs wt none none) = mk2 x n st o (sn.add 16) 29 pos hd frs wt (some false) none := by
  show (if pos ≥ n then _ else match (Except.ok (x.getD pos 0 == 10, sn.add 16) : Except String (Bool × Sre.Seen)) with | .error why => _ | .ok (false, seen) => _ | .ok (true, seen) => _) = _
  rw [if_neg h, hc]; rfl
theorem ly29 (pos hd st wt : Nat) (frs : List Sre.Frame) (h : ¬ pos ≥ n) (hc : (x.getD pos 0 == 10) = true) : M.step (mk2 x n st o sn 29 pos hd frs wt none none) = mk2 x n st o (sn.add 16) 31 (pos + 1) hd frs wt none none := by
  show (if pos ≥ n then _ else match (Except.ok (x.getD pos 0 == 10, sn.add 16) : Except String (Bool × Sre.Seen)) with | .error why => _ | .ok (false, seen) => _ | .ok (true, seen) => _) = _
  rw [if_neg h, hc]; rfl
theorem branch2 : M.step (mk2 x n p o sn 10 p p [fr2 p o] 1 none none) = mk2 x n p o (sn.add 7) 12 p p [br2 11 p o, fr2 p o] 2 none none := rfl
theorem alt2a (pc pos hd : Nat) (o' : Bool) : M.step (mk2 x n p o' sn pc pos hd [br2 11 p o, fr2 p o] 2 (some false) none) = mk2 x n p o sn 19 p p [br2 18 p o, fr2 p o] 2 none none := rfl
theorem alt2b (pc pos hd : Nat) (o' : Bool) : M.step (mk2 x n p o' sn pc pos hd [br2 18 p o, fr2 p o] 2 (some false) none) = mk2 x n p o sn 24 p p [br2 23 p o, fr2 p o] 2 none none := rfl
theorem jump16 (pos hd st wt : Nat) (frs : List Sre.Frame) : M.step (mk2 x n st o sn 16 pos hd frs wt none none) = mk2 x n st o (sn.add 15) 35 pos hd frs wt none none := rfl
theorem jump21 (pos hd st wt : Nat) (frs : List Sre.Frame) : M.step (mk2 x n st o sn 21 pos hd frs wt none none) = mk2 x n st o (sn.add 15) 35 pos hd frs wt none none := rfl
theorem jump32 (pos hd st wt : Nat) (frs : List Sre.Frame) : M.step (mk2 x n st o sn 32 pos hd frs wt none none) = mk2 x n st o (sn.add 15) 35 pos hd frs wt none none := rfl
theorem suc2 (pos hd st wt : Nat) (frs : List Sre.Frame) : M.step (mk2 x n st o sn 35 pos hd frs wt none none) = mk2 x n st o (sn.add 1) 35 pos pos frs wt (some true) none := by
  cases o <;> rfl
theorem resb2 (alt pos hd st : Nat) (o' : Bool) (frs : List Sre.Frame) : M.step (mk2 x n st o' sn 35 pos hd (br2 alt p o :: frs) 2 (some true) none) = mk2 x n st o sn alt p hd frs 1 (some true) none := rfl
theorem ress2 (pc pos hd st : Nat) (o' : Bool) : M.step (mk2 x n st o' sn pc pos hd [fr2 p o] 1 (some true) none) = mk2 x n st o sn 10 p hd [] 0 (some true) none := rfl
theorem end2 (pos hd st : Nat) : M.step (mk2 x n st o sn 10 pos hd [] 0 (some true) none) = mk2 x n st o sn 10 pos hd [] 0 (some true) (some .matched) := rfl
theorem anot2 (pos : Nat) : M.step (mk2 x n p o sn 26 pos p [br2 23 p o, fr2 p o] 2 none none) = mk2 x n p false (sn.add 5) 29 pos pos [ln2 pos o, br2 23 p o, fr2 p o] 3 none none := rfl
theorem look2 (pc pos' hd pos : Nat) (o' : Bool) : M.step (mk2 x n p o' sn pc pos' hd [ln2 pos o, br2 23 p o, fr2 p o] 3 (some false) none) = mk2 x n p o sn 32 pos hd [br2 23 p o, fr2 p o] 2 none none := rfl

/-- how far the line end at p reaches -/
def nlEnd : Nat := if x.getD p 0 == 13 && (p + 1 < n) && x.getD (p + 1) 0 == 10 then p + 2 else p + 1

theorem tail2 (alt pos hd : Nat) (k : Nat) : ∃ sn', M.runFor (k + 4) (mk2 x n p o sn 35 pos hd [br2 alt p o, fr2 p o] 2 none none) = mk2 x n p o sn' 10 p pos [] 0 (some true) (some .matched) :=
  ⟨_, by rw [show k + 4 = k + 3 + 1 by rfl, run1 rfl (suc2 ..), show k + 3 = k + 2 + 1 by rfl, run1 rfl (resb2 ..), show k + 2 = k + 1 + 1 by rfl, run1 rfl (ress2 ..), run1 rfl (end2 ..), runFor_done rfl]⟩

theorem match2 (hp : p < n) (hc : (x.getD p 0 == 10 || x.getD p 0 == 13) = true) : ∃ sn', M.runFor 20 (mk2 x n p o sn 10 p p [fr2 p o] 1 none none) = mk2 x n p o sn' 10 p (nlEnd x n p) [] 0 (some true) (some .matched) := by
  have hp' : ¬ p ≥ n := by omega
  rw [run1 (k := 19) rfl (branch2 ..)]
  cases h13 : x.getD p 0 == 13 with
  | false =>
    have h10 : (x.getD p 0 == 10) = true := by rw [h13, Bool.or_false] at hc; exact hc
    have e : nlEnd x n p = p + 1 := by unfold nlEnd; rw [h13]; rfl
    rw [e, run1 (k := 18) rfl (ln12 _ _ _ _ _ _ _ _ _ hp' h13), run1 (k := 17) rfl (alt2a ..), run1 (k := 16) rfl (ly19 _ _ _ _ _ _ _ _ _ hp' h10), run1 (k := 15) rfl (jump21 ..)]
    exact tail2 ..
  | true =>
    rw [run1 (k := 18) rfl (ly12 _ _ _ _ _ _ _ _ _ hp' h13)]
    by_cases hn : p + 1 < n
    · have hn' : ¬ p + 1 ≥ n := by omega
      cases h10 : x.getD (p + 1) 0 == 10 with
      | true =>
        have e : nlEnd x n p = p + 2 := by unfold nlEnd; rw [h13, h10]; simp [hn]
        rw [e, run1 (k := 17) rfl (ly14 _ _ _ _ _ _ _ _ _ hn' h10), run1 (k := 16) rfl (jump16 ..)]
        exact tail2 ..
      | false =>
        have e : nlEnd x n p = p + 1 := by unfold nlEnd; rw [h10]; simp
        have hne : (x.getD p 0 == 10) = false := by
          have := beq_iff_eq.mp h13; rw [this]; rfl
        rw [e, run1 (k := 17) rfl (ln14 _ _ _ _ _ _ _ _ _ hn' h10), run1 (k := 16) rfl (alt2a ..), run1 (k := 15) rfl (ln19 _ _ _ _ _ _ _ _ _ hp' hne), run1 (k := 14) rfl (alt2b ..), run1 (k := 13) rfl (ly24 _ _ _ _ _ _ _ _ _ hp' h13),
          run1 (k := 12) rfl (anot2 ..), run1 (k := 11) rfl (ln29 _ _ _ _ _ _ _ _ _ hn' h10), run1 (k := 10) rfl (look2 ..), run1 (k := 9) rfl (jump32 ..)]
        exact tail2 ..
    · have hn' : p + 1 ≥ n := by omega
      have e : nlEnd x n p = p + 1 := by unfold nlEnd; simp [hn]
      have hne : (x.getD p 0 == 10) = false := by
        have := beq_iff_eq.mp h13; rw [this]; rfl
      rw [e, run1 (k := 17) rfl (lo14 _ _ _ _ _ _ _ _ _ hn'), run1 (k := 16) rfl (alt2a ..), run1 (k := 15) rfl (ln19 _ _ _ _ _ _ _ _ _ hp' hne), run1 (k := 14) rfl (alt2b ..), run1 (k := 13) rfl (ly24 _ _ _ _ _ _ _ _ _ hp' h13),
        run1 (k := 12) rfl (anot2 ..), run1 (k := 11) rfl (lo29 _ _ _ _ _ _ _ _ _ hn'), run1 (k := 10) rfl (look2 ..), run1 (k := 9) rfl (jump32 ..)]
      exact tail2 ..
end

def find2 (x : Array Nat) : (fuel p : Nat) → Option Nat
  | 0, _ => none
  | k + 1, p => if x.getD p 0 == 10 || x.getD p 0 == 13 then some p else find2 x k (p + 1)
theorem inSet2 (c : Nat) (sn : Sre.Seen) : Sre.inSet code2 c 36 5 true sn = if (c == 10) = true then .ok (true, sn.add 16) else if (c == 13) = true then .ok (true, (sn.add 16).add 16) else .ok (false, ((sn.add 16).add 16).add 0) := rfl
theorem admit2 (m : M) (hm : m.code = code2) : ∀ (k p fuel : Nat) (sn : Sre.Seen), p + k = m.lim → k + 1 ≤ fuel → ∃ sn', M.admitted m fuel p sn = .ok (find2 m.text k p, sn')
  | 0, p, fuel + 1, sn, h, hf => by
    refine ⟨sn, ?_⟩
    unfold M.admitted
    rw [if_pos (by omega)]; rfl
  | k + 1, p, fuel + 1, sn, h, hf => by
    unfold M.admitted find2
    rw [if_neg (by omega), hm, show code2.size = 36 by rfl, inSet2]
    cases h10 : m.text.getD p 0 == 10 with
    | true => exact ⟨_, rfl⟩
    | false =>
      cases h13 : m.text.getD p 0 == 13 with
      | true => exact ⟨_, rfl⟩
      | false =>
        obtain ⟨sn', e⟩ := admit2 m hm k (p + 1) fuel (((sn.add 16).add 16).add 0) (by omega) (by omega)
        exact ⟨sn', e⟩
  | 0, p, 0, sn, h, hf => by omega
  | k + 1, p, 0, sn, h, hf => by omega

theorem find2_lt {x : Array Nat} : ∀ {k p q : Nat}, find2 x k p = some q → p ≤ q ∧ q < p + k ∧ (x.getD q 0 == 10 || x.getD q 0 == 13) = true
  | k + 1, p, q, h => by
    unfold find2 at h
    split at h
    · rename_i hc; cases h; exact ⟨Nat.le_refl _, by omega, hc⟩
    · have := find2_lt h; exact ⟨by omega, by omega, this.2.2⟩

def ini2 (x : Array Nat) (p : Nat) (sn : Sre.Seen) : M := { code := code2, text := x, lim := x.size, start := p, lastStart := x.size, pc := 10, pos := p, handed := p, marks := #[], mustAdvance := false, seen := sn }
theorem fs2_go (x : Array Nat) (p : Nat) (h : p < x.size) : Sre.forSearch code2 x 0 p x.size false = M.attemptFrom (ini2 x p (({} : Sre.Seen).add 14)) p true := by
  have e : (decide (p > x.size) || decide (x.size - p < 1)) = false := by
    simp; omega
  unfold Sre.forSearch
  show (if (decide (p > x.size) || decide (x.size - p < 1)) = true then _ else _) = _
  rw [e, if_neg Bool.false_ne_true]
  rfl
def from2 (x : Array Nat) (p : Nat) (sn : Sre.Seen) : Option Nat → M
  | some s => mk2 x x.size s true sn 10 s s [fr2 s true] 1 none none
  | none => M.say (ini2 x p sn) false
theorem fs2_from (x : Array Nat) (p : Nat) (sn sn' : Sre.Seen) (r : Option Nat) (ea : M.admitted (ini2 x p sn) (x.size + 1 - p) p sn = .ok (r, sn')) : M.attemptFrom (ini2 x p sn) p true = from2 x p sn' r := by
  have ef : M.attemptFrom (ini2 x p sn) p true = match M.admitted (ini2 x p sn) (x.size + 1 - p) p sn with
        | .ok (some s, seen) => M.attemptAt { ini2 x p sn with mustAdvance := false, seen } s true
        | .ok (none, seen) => M.say { ini2 x p sn with seen } false
        | .error why => M.stick (ini2 x p sn) why := rfl
  rw [ef, ea]
  cases r <;> rfl
theorem say_no (m : M) (h1 : m.outcome = none) (h2 : m.frames = []) (k : Nat) : (M.runFor (k + 1) (M.say m false)).outcome = some .failed := by
  obtain ⟨c, t, l, s, ls, wt, ma, pc, pos, hd, om, mk, lm, li, lo, inn, fr, we, an, se, ou⟩ := m
  dsimp only at h1 h2
  subst h1 h2
  have e : M.step (M.say ⟨c, t, l, s, ls, wt, ma, pc, pos, hd, om, mk, lm, li, lo, inn, [], we, an, se, none⟩ false) = ⟨c, t, l, s, ls, wt, ma, pc, pos, hd, om, mk, lm, li, lo, inn, [], we, some false, se, some .failed⟩ := rfl
  rw [run1 rfl e, runFor_done rfl]
theorem forSearch2 (x : Array Nat) (p : Nat) (hp : p ≤ x.size) : ∃ m', M.runFor 20 (Sre.forSearch code2 x 0 p x.size false) = m' ∧
    match find2 x (x.size - p) p with
    | some q => m'.outcome = some .matched ∧ m'.start = q ∧ m'.handed = nlEnd x x.size q
    | none => m'.outcome = some .failed := by
  by_cases h : p < x.size
  · obtain ⟨sn', ea⟩ := admit2 (ini2 x p (({} : Sre.Seen).add 14)) rfl (x.size - p) p (x.size + 1 - p) (({} : Sre.Seen).add 14) (by show p + (x.size - p) = x.size; omega) (by omega)
    have e1 := (fs2_go x p h).trans (fs2_from x p _ sn' _ ea)
    have et : (ini2 x p (({} : Sre.Seen).add 14)).text = x := rfl
    rw [et] at e1
    rw [e1]
    cases hf : find2 x (x.size - p) p with
    | none => exact ⟨_, rfl, say_no _ rfl rfl 19⟩
    | some q =>
      have hq := find2_lt hf
      obtain ⟨sn'', e2⟩ := match2 x x.size q true sn' (by omega) hq.2.2
      exact ⟨_, e2, rfl, rfl, rfl⟩
  · have e : (decide (p > x.size) || decide (x.size - p < 1)) = true := by
      simp; omega
    have e1 : Sre.forSearch code2 x 0 p x.size false = M.say { code := code2, text := x, lim := x.size, start := p, pc := 10, pos := p, handed := p, marks := #[], mustAdvance := false, seen := ({} : Sre.Seen).add 14 } false := by
      unfold Sre.forSearch
      show (if (decide (p > x.size) || decide (x.size - p < 1)) = true then _ else _) = _
      rw [e, if_pos rfl]
      rfl
    rw [e1, show x.size - p = 0 by omega]
    exact ⟨_, rfl, say_no _ rfl rfl 19⟩
end Mine
end

section
open PySem PySem.Calls PySem.W PyProof.Rows
set_option maxRecDepth 100000
set_option linter.unusedVariables false
namespace Mine
open PySem.Builtin PySem.Builtin.Re

section
variable {prog : Program} {w : World} {A : Around} {E : Value → Shared → Prop} {s : Shared}


theorem wp_drive {M : Model} {m' : Sre.M} {Q : Sre.M → Shared → Prop} (ho : m'.outcome.isSome = true) (hq : Q m' s) : ∀ (turns j : Nat) (m : Sre.M), Sre.M.runFor j m = m' → j ≤ 4 * turns → 0 < turns → wpAny M A (reDrive turns m) Q E s
  | 0, _, _, _, _, h => absurd h (Nat.lt_irrefl 0)
  | t + 1, j, m, e, hj, _ => by
    unfold reDrive
    show wpAny M A (if (m.runFor reTurnSteps).outcome.isSome = true then pure (m.runFor reTurnSteps) else _) Q E s
    by_cases h : (m.runFor 4).outcome.isSome = true
    · have : m.runFor reTurnSteps = m' := by
        show m.runFor 4 = m'
        by_cases h4 : j ≤ 4
        · rw [← e] at ho ⊢
          rw [show 4 = j + (4 - j) by omega, runFor_add, runFor_done ho]
        · rw [← e, show j = 4 + (j - 4) by omega, runFor_add, runFor_done h]
      rw [this, if_pos ho]
      exact wpAny_pure hq
    · rw [if_neg (by exact h)]
      have h4 : 4 < j := by
        apply Nat.lt_of_not_le
        intro h4
        apply h
        rw [show 4 = j + (4 - j) by omega, runFor_add, e, runFor_done ho]; exact ho
      refine wpAny_bind (wpAny_rule ?_)
      refine wp_drive ho hq t (j - 4) (m.runFor reTurnSteps) ?_ (by omega) (by omega)
      show Sre.M.runFor (j - 4) (m.runFor 4) = m'
      rw [← e, ← runFor_add]; congr 1; omega

theorem wp_rules {M : Model} {Q : PUnit → Shared → Prop} {f : Nat → PUnit → Sem (ForInStep PUnit)} (hf : ∀ i Q', Q' (ForInStep.yield PUnit.unit) s → wpAny M A (f i ⟨⟩) Q' E s) (hq : Q ⟨⟩ s) : ∀ l : List Nat, wpAny M A (forIn l PUnit.unit f) Q E s
  | [] => by rw [List.forIn_nil]; exact wpAny_pure hq
  | i :: l => by
    rw [List.forIn_cons]
    exact wpAny_bind (hf i _ (wp_rules hf hq l))

theorem wp_toEnd {M : Model} {m m' : Sre.M} {j : Nat} {Q : Option Sre.M → Shared → Prop} (e : Sre.M.runFor j m = m') (hj : j ≤ 2 ^ 60) (h : (m'.outcome = some .matched ∧ Q (some m') s) ∨ (m'.outcome = some .failed ∧ Q none s)) : wpAny M A (reRunToEnd m) Q E s := by
  have ho : m'.outcome.isSome = true := by rcases h with h | h <;> rw [h.1] <;> rfl
  unfold reRunToEnd
  refine wpAny_bind (wp_drive ho ?_ (2 ^ 64) j m e (by omega) (by decide))
  refine wpAny_bind (wp_rules ?_ ?_ _)
  · intro i Q' hq'
    by_cases hs : m'.seen.has i = true
    · rw [if_pos hs]
      exact wpAny_bind (wpAny_rule (wpAny_pure hq'))
    · rw [if_neg hs]
      exact wpAny_pure hq'
  · rcases h with ⟨e1, q⟩ | ⟨e1, q⟩
    · rw [e1]; exact wpAny_pure q
    · rw [e1]; exact wpAny_pure q
end

/-- a compiled pattern of the top -/
structure PatAt (K : Frag) (p c : Addr) (code : Array Nat) : Prop where
  obj : ∃ f0 f1 f3 f4 sl, K.lookup p = some ⟨.type "re.Pattern", none, .fields #[f0, f1, .int 0 0, f3, f4, .ref c, .int 0 0], sl⟩
  cod : ∃ vs od n sl, K.lookup c = some ⟨.type "tuple", od, .seq vs n, sl⟩ ∧ (vs.map reRawOf).map (·.toNat) = code

section
variable {prog : Program} {w : World} {A : Around} {E : Value → Shared → Prop} {s : Shared} {K : Frag} {p c : Addr} {code : Array Nat} {x : Str} {t : Tok}

theorem wp_target {Q : ReTarget → Shared → Prop} (P : PatAt K p c code) (hk : K.In s.heap) (h : Q { pattern := .ref p, string := .str x t, code := code, text := x.cps, kind := 0, groups := 0, pos := 0, lim := x.cps.size } s) :
    wpAny (model prog w) A (reWholeTarget (.ref p) (.str x t)) Q E s := by
  obtain ⟨f0, f1, f3, f4, sl, ho⟩ := P.obj
  obtain ⟨vs, od, n, sl', hc, hv⟩ := P.cod
  unfold reWholeTarget
  refine wpAny_bind (wpAny_fieldsOf (hk _ _ ho) rfl ?_)
  refine wpAny_bind ?_
  show wpAny _ _ (pure (x.cps, 0)) _ _ _
  refine wpAny_pure ?_
  show wpAny _ _ (do
    let a ← reRawItems (.ref c)
    pure ({ pattern := .ref p, string := .str x t, code := a.map (·.toNat), text := x.cps, kind := 0, groups := 0, pos := 0, lim := x.cps.size } : ReTarget)) Q E s
  unfold reRawItems
  refine wpAny_bind (wpAny_bind (wpAny_seqItems (hk _ _ hc) rfl (wpAny_pure (wpAny_pure ?_))))
  show Q { pattern := .ref p, string := .str x t, code := (vs.map reRawOf).map (·.toNat), text := x.cps, kind := 0, groups := 0, pos := 0, lim := x.cps.size } s
  rw [hv]; exact h
end

/-! ## facts -/
theorem owner_pat : Manifest.owners.lookup (String.ofList ['n', 'r', 'e', 't', 't', 'a', 'P', '.', 'e', 'r'].reverse) = some Manifest.sig_re_Pattern := by kernel_rfl
theorem slot_sub : PySem.Slot "re.Pattern" "sub" "re.Pattern.sub" :=
  .of (owner := "re.Pattern") (n := "sub") (by rw [typeLookup_type, builtinLookup_eq_fast]; kernel_rfl) (by decide +kernel) (by decide +kernel) (by decide +kernel)
    (by first | exact .inl (by decide +kernel) | exact .inr (by decide +kernel)) (by rw [isSubtype_type]; kernel_rfl)
theorem type_sub : typeOf (.builtin "re.Pattern.sub") = pure (.type "method_descriptor") := by show builtinType _ = _; rw [builtinType_eq_fast]; kernel_rfl
theorem entry_sub : entryFor table "re.Pattern.sub" = some Builtin.«re.Pattern.sub» := entryFor_of_tree (by kernel_rfl)
theorem entry_subloop : entryFor table "re.Pattern.sub.loop" = some Builtin.«re.Pattern.sub.loop» := entryFor_of_tree (by kernel_rfl)
theorem args_sub (a b c : Value) : argsOk "re.Pattern.sub" ⟨[a, b, c], []⟩ := by
  unfold argsOk; rw [signature?_of (id := "re.Pattern.sub") (n := ['b', 'u', 's']) (o := ['n', 'r', 'e', 't', 't', 'a', 'P', '.', 'e', 'r']) (by kernel_rfl) owner_pat]; kernel_rfl
theorem plainAttrs_pat : PlainAttrs "re.Pattern" :=
  ⟨⟨"object.__getattribute__", by rw [typeLookup_type, builtinLookup_eq_fast]; kernel_rfl, by decide +kernel⟩, by rw [typeLookup_type, builtinLookup_eq_fast]; kernel_rfl⟩
theorem str_no_call : typeLookup (.type "str") "__call__" = pure none := by rw [typeLookup_type, builtinLookup_eq_fast]; kernel_rfl
end Mine
end

section
open PySem PySem.Calls PySem.W PyProof.Rows
set_option maxRecDepth 100000
set_option linter.unusedVariables false
namespace Mine
open PySem.Builtin PySem.Builtin.Re

structure Seeks (code : Array Nat) (f : Array Nat → Nat → Option (Nat × Nat)) : Prop where
  go : ∀ x p, p ≤ x.size → x.size ≤ 2 ^ 20 → ∃ j m', j ≤ 2 ^ 60 ∧ Sre.M.runFor j (Sre.forSearch code x 0 p x.size false) = m' ∧
    match f x p with
    | some (q, r) => m'.outcome = some .matched ∧ m'.start = q ∧ m'.handed = r ∧ p ≤ q ∧ q < r ∧ r ≤ x.size
    | none => m'.outcome = some .failed

/-- the pieces of which sub joins its answer -/
def pieces (f : Array Nat → Nat → Option (Nat × Nat)) (x : Array Nat) (r : Str) : Nat → Nat → List Str
  | 0, _ => []
  | k + 1, d => match f x d with
    | some (q, e) => (if d < q then [(⟨x.extract d q⟩ : Str)] else []) ++ r :: pieces f x r k e
    | none => if d < x.size then [(⟨x.extract d x.size⟩ : Str)] else []

section
variable {prog : Program} {w : World} {A : Around} {E : Value → Shared → Prop} {K : Frag} {p c : Addr} {code : Array Nat} {f : Array Nat → Nat → Option (Nat × Nat)} {x r : Str} {t u : Tok}

theorem wp_push {M : Model} {s₀ s : Shared} {a : Addr} (ha : s₀.heap.get? a = none) {l : List (Str × Tok)} {y : Str} {ty : Tok} {Q : Unit → Shared → Prop} (hs : Keeps s₀ s) (hl : s.heap.PlainList a (strValues l).toArray) (hz : l.length ≤ 2 ^ 23)
    (h : ∀ s', Keeps s₀ s' → s'.heap.PlainList a (strValues (l ++ [(y, ty)])).toArray → Q () s') : wpAny M A (updateSeq a fun z => z.push (.str y ty)) Q E s := by
  obtain ⟨n, e⟩ := hl
  have hl' : (strValues l).length = l.length := List.length_map _
  refine wpAny_updateSeq e rfl (h _ ?_ ?_) (by rw [sizeLine_eq]; simp [hl']; omega) (by rw [sizeLine_eq]; simp [hl']; omega)
  · obtain ⟨h', tk, rfl, hk⟩ := hs
    refine ⟨_, tk, rfl, fun b o eb => ?_⟩
    rw [Heap.get?_update_other _ _ (fun q => by subst q; rw [ha] at eb; cases eb)]
    exact hk b o eb
  · have h1 := Heap.get?_update_self (Obj.mapSeq fun z => z.push (.str y ty)) e rfl
    have h2 : (strValues l).toArray.push (.str y ty) = (strValues (l ++ [(y, ty)])).toArray := by simp [strValues]
    rw [← h2]
    exact ⟨_, h1⟩

theorem wp_loop (P : PatAt K p c code) (F : Seeks code f) (hx : x.length ≤ 2 ^ 20) {R : Result → Shared → Prop} {s₀ : Shared} (hk : K.In s₀.heap) {a : Addr} (ha : s₀.heap.get? a = none) :
    ∀ (k d n : Nat) (s : Shared) (l : List (Str × Tok)), x.length - d < k → d ≤ x.length → Keeps s₀ s → s.heap.PlainList a (strValues l).toArray → l.length + 2 * k ≤ 2 ^ 23 →
      JoinOk "" (l.map (·.1) ++ pieces f x.cps r k d) = true → (∀ t' s', Keeps s₀ s' → R (.ok (.ret (.str (Txt.join "" (l.map (·.1) ++ pieces f x.cps r k d)) t'))) s') →
      codeAny (model prog w) A (.builtin "re.Pattern.sub.loop" ⟨[.ref p, .str x t, .str r u, rawInt 0, rawInt 0, rawInt n, rawInt d, rawInt d, .bool false, .ref a, .bool false], []⟩) R s
  | 0, d, n, s, l, hd, _, _, _, _, _, _ => absurd hd (Nat.not_lt_zero _)
  | k + 1, d, n, s, l, hd, hdx, hs, hl, hsz, hj, hq => by
    have hks : K.In s.heap := fun b o e => kp_heap hs b o (hk b o e)
    refine codeAny_builtin entry_subloop ?_
    rw [Around.under_plainId (id := "re.Pattern.sub.loop") (by decide +kernel) _]
    unfold «re.Pattern.sub.loop» rawInt
    dsimp only
    refine wpAny_bind (wp_target P hks ?_)
    dsimp only
    refine wpAny_bind ?_
    show wpAny _ _ (pure ()) _ _ _
    refine wpAny_pure ?_
    have fin : ∀ (s : Shared) (l' : List (Str × Tok)), Keeps s₀ s → s.heap.PlainList a (strValues l').toArray → JoinOk "" (l'.map (·.1)) = true → (∀ t' s', Keeps s₀ s' → R (.ok (.ret (.str (Txt.join "" (l'.map (·.1))) t'))) s') →
        wpAny (model prog w) A.in1 (do
                let joiner ← reSlice x.cps 0 0 0
                let __do_lift ← seqItems? (Value.ref a)
                if (__do_lift.getD #[]).isEmpty = true then do
                    let text ← pure joiner
                    if false = true then do
                        let __do_lift ←
                          holding [text] do
                              let __do_lift ← mkInt ↑n
                              newTuple [text, __do_lift]
                        ret __do_lift
                      else ret text
                  else do
                    let text ←
                      call (Value.builtin (if ((0 : Nat) == 0) = true then "str.join" else "bytes.join")) [joiner, Value.ref a]
                    if false = true then do
                        let __do_lift ←
                          holding [text] do
                              let __do_lift ← mkInt ↑n
                              newTuple [text, __do_lift]
                        ret __do_lift
                      else ret text)
        (fun fin s' => match fin with | Fin.done f => R (Except.ok f) s' | Fin.again c' => c'.quiet = true ∧ codeAny (model prog w) A c' R s') (fun e s' => R (Except.error e) s') s := by
      intro s l' hs hl hj hq
      obtain ⟨m, e⟩ := id hl
      have he : (⟨x.cps.extract 0 0⟩ : Str) = "" := by
        show (⟨x.cps.extract 0 0⟩ : Str) = ⟨#[]⟩
        congr 1; simp
      refine wpAny_bind ?_
      show wpAny _ _ (mkStr ⟨x.cps.extract 0 0⟩) _ _ _
      rw [he]
      refine wpAny_mkStr ?_ (by decide)
      refine wpAny_bind (wpAny_seqItems e rfl ?_)
      cases l' with
      | nil =>
        rw [if_pos (by rfl)]
        exact wpAny_pure (hq _ _ (kp_trans hs (kp_tok _ _)))
      | cons y l' =>
        rw [if_neg (by simp [strValues])]
        refine wpAny_bind (SC.join (l := y :: l') hl.isList rfl hj fun t' k => ?_)
        exact wpAny_pure (hq _ _ (kp_trans (kp_trans hs (kp_tok _ _)) (kp_tok _ _)))
    obtain ⟨j, m', hj2, hrun, hm⟩ := F.go x.cps d hdx hx
    unfold pieces at hj hq
    refine wpAny_bind ?_
    rw [if_neg (by simp)]
    show wpAny _ _ (reRunToEnd (Sre.forSearch code x.cps 0 d x.cps.size false)) _ _ _
    refine wp_toEnd hrun hj2 ?_
    cases hf : f x.cps d with
    | none =>
      rw [hf] at hm hj hq
      dsimp only at hm hj hq
      refine .inr ⟨hm, ?_⟩
      dsimp only
      by_cases hlt : d < x.cps.size
      · rw [if_pos hlt] at hj hq
        rw [if_pos (show (d : Int).toNat < x.cps.size from hlt)]
        refine wpAny_bind ?_
        show wpAny _ _ (mkStr ⟨x.cps.extract d x.cps.size⟩) _ _ _
        refine wpAny_mkStr ?_ ?_
        · refine wpAny_bind (wp_push ha (kp_trans hs (kp_tok _ _)) hl (by omega) fun s' hs' hl' => ?_)
          refine fin s' _ hs' hl' ?_ ?_
          · rw [List.map_append]; exact hj
          · rw [List.map_append]; exact hq
        · show (x.cps.extract d x.cps.size).size ≤ sizeLine
          rw [sizeLine_eq, Array.size_extract]
          have : x.cps.size ≤ 1048576 := hx
          omega
      · rw [if_neg hlt, List.append_nil] at hj hq
        rw [if_neg (show ¬ (d : Int).toNat < x.cps.size from hlt)]
        exact fin s l hs hl hj hq
    | some qe =>
      obtain ⟨q, e⟩ := qe
      rw [hf] at hm hj hq
      dsimp only at hm hj hq
      obtain ⟨h1, h2, h3, h4, h5, h6⟩ := hm
      refine .inl ⟨h1, ?_⟩
      dsimp only
      have hsx : x.cps.size ≤ 1048576 := hx
      have hxl : x.length = x.cps.size := rfl
      have step : ∀ (s : Shared) (l' : List (Str × Tok)), Keeps s₀ s → s.heap.PlainList a (strValues l').toArray → l'.length ≤ l.length + 1 → l.map (·.1) ++ (if d < q then [(⟨x.cps.extract d q⟩ : Str)] else []) = l'.map (·.1) →
          wpAny (model prog w) A.in1 (do
             updateSeq a fun z => z.push (.str r u)
             again (Code.builtin "re.Pattern.sub.loop" { pos := [Value.ref p, Value.str x t, Value.str r u, Value.int 0 0, Value.int 0 0, Value.int (↑n + 1) 0, Value.int (↑m'.handed) 0, Value.int (↑m'.handed) 0, Value.bool (m'.handed == m'.start), Value.ref a, Value.bool false] }))
          (fun fin s' => match fin with | Fin.done f => R (Except.ok f) s' | Fin.again c' => c'.quiet = true ∧ codeAny (model prog w) A c' R s') (fun e s' => R (Except.error e) s') s := by
        intro s l' hs hl hlen hmap
        refine wpAny_bind (wp_push ha hs hl (by omega) fun s' hs' hl' => ?_)
        have heq : (l' ++ [(r, u)]).map (·.1) ++ pieces f x.cps r k e = l.map (·.1) ++ ((if d < q then [(⟨x.cps.extract d q⟩ : Str)] else []) ++ r :: pieces f x.cps r k e) := by
          rw [List.map_append, ← hmap]; simp
        refine wpAny_pure (a := Fin.again _) ⟨plainId_quiet (by decide +kernel) _, ?_⟩
        rw [h2, h3, show (e == q) = false by simp; omega]
        have := wp_loop P F hx hk ha k e (n + 1) s' (l' ++ [(r, u)]) (by omega) (by omega) hs' hl' (by simp; omega) (by rw [heq]; exact hj) (by rw [heq]; exact hq)
        exact this
      by_cases hlt : d < q
      · rw [if_pos (show (d : Int).toNat < m'.start by rw [h2]; exact hlt)]
        refine wpAny_bind ?_
        show wpAny _ _ (mkStr ⟨x.cps.extract d m'.start⟩) _ _ _
        refine wpAny_mkStr ?_ ?_
        · refine wpAny_bind (wp_push ha (kp_trans hs (kp_tok _ _)) hl (by omega) fun s' hs' hl' => ?_)
          refine step s' _ hs' hl' (by simp) ?_
          rw [if_pos hlt, h2]; simp
        · show (x.cps.extract d m'.start).size ≤ sizeLine
          rw [sizeLine_eq, Array.size_extract]
          omega
      · rw [if_neg (show ¬ (d : Int).toNat < m'.start by rw [h2]; exact hlt)]
        refine step s l hs hl (by omega) ?_
        rw [if_neg hlt]; simp
end
end Mine
end

section
open PySem PySem.Calls PySem.W PyProof.Rows
set_option maxRecDepth 100000
set_option linter.unusedVariables false
namespace Mine
open PySem.Builtin PySem.Builtin.Re

section
variable {prog : Program} {w : World} {A : Around} {E : Value → Shared → Prop} {K : Frag} {p c : Addr} {code : Array Nat} {f : Array Nat → Nat → Option (Nat × Nat)} {x r : Str} {t u : Tok}

theorem wp_named {M : Model} {s : Shared} {a b : Value} {Q : List (Option Value) → Shared → Prop} (h : Q [some a, some b, none] s) : wpAny M A (reNamed "re.Pattern.sub" "sub" ["repl", "string", "count"] 2 [a, b] []) Q E s := by
  have e : reNamed "re.Pattern.sub" "sub" ["repl", "string", "count"] 2 [a, b] [] = pure [some a, some b, none] := by rfl
  rw [e]; exact wpAny_pure h

theorem wp_sub (P : PatAt K p c code) (F : Seeks code f) (hx : x.length ≤ 2 ^ 20) (hr : r.cps.contains 92 = false) {s : Shared} (hk : K.In s.heap) {Q : Value → Shared → Prop}
    (hj : JoinOk "" (pieces f x.cps r (x.length + 1) 0) = true)
    (hq : ∀ t' s', Keeps s s' → Q (.str (Txt.join "" (pieces f x.cps r (x.length + 1) 0)) t') s') : wpAny (model prog w) A (call (.builtin "re.Pattern.sub") [.ref p, .str r u, .str x t]) Q E s := by
  obtain ⟨f0, f1, f3, f4, sl, ho⟩ := P.obj
  refine wpAny_call (codeAny_call_builtin slot_sub.plain entry_sub (slot_sub.check _ _ _ _ _ _ _ _ ⟨_, hk _ _ ho, rfl⟩ (args_sub _ _ _) ?_))
  unfold «re.Pattern.sub» reSubstitute
  dsimp only
  refine wpAny_bind (wp_named ?_)
  dsimp only
  refine wpAny_bind (wpAny_pure ?_)
  refine wpAny_bind (wpAny_specialOf (typeIs_str _ _ _) str_no_call ?_)
  rw [if_neg (by exact Bool.false_ne_true)]
  refine wpAny_bind ?_
  show wpAny _ _ (pure (some r)) _ _ _
  refine wpAny_pure ?_
  refine wpAny_bind (wpAny_pure ?_)
  rw [if_neg (by exact Bool.false_ne_true), hr, if_pos (by rfl)]
  refine wpAny_bind (wpAny_pure ?_)
  refine wpAny_bind (wpAny_holding (wp_target P hk ?_))
  rw [if_neg (by exact Bool.false_ne_true)]
  refine wpAny_bind (wpAny_newList ?_ (by decide))
  refine wpAny_pure (a := Fin.again _) ⟨plainId_quiet (by decide +kernel) _, ?_⟩
  have hf : s.heap.get? s.heap.objs.size = none := fresh_none (Nat.le_refl _)
  refine wp_loop P F hx hk hf (x.length + 1) 0 0 _ [] (by omega) (Nat.zero_le _) (kp_push _ _) ⟨0, Heap.get?_push_size _ rfl⟩ ?_ hj fun t' s' k => hq t' s' k
  have : x.length ≤ 1048576 := hx
  show 0 + 2 * (x.length + 1) ≤ 8388608
  omega

/-- a pattern of the top, its sub -/
theorem Ev.reSub {C : Cx} {n px apos e₁ e₂ pos pl} (hx : C.env.kindOf n = some .globalImplicit) (g : C.mg n = some (.ref p)) (P : PatAt C.K p c code) (F : Seeks code f) (ha : EvL C [e₁, e₂] [.str r, .str x])
    (hsz : x.length ≤ 2 ^ 20) (hr : r.cps.contains 92 = false) (hj : JoinOk "" (pieces f x.cps r (x.length + 1) 0) = true)
    (hd : (n == ("__debug__" : Str)) = false := by decide)
    (hs : starEach [e₁, e₂] C.env = (false, eval e₁ C.env) :: starEach [e₂] C.env := by rfl) (hplain : (backTo pos (starEach [e₂] C.env)).any (·.1) = false := by rfl)
    (he : eval (.Call (.Attribute (.Name n px) "sub" apos) [e₁, e₂] [] pos) C.env = (do
      let ov ← eval (.Name n px) C.env
      standAt apos.atName
      let (f, first) ← holding [ov] (getMethod ov "sub" pl)
      callWith pos f first (backTo pos (starEach [e₁, e₂] C.env)) []) := by rfl) : Ev C (.Call (.Attribute (.Name n px) "sub" apos) [e₁, e₂] [] pos) (.str (Txt.join "" (pieces f x.cps r (x.length + 1) 0))) := fun s o => by
  obtain ⟨f0, f1, f3, f4, sl, ho⟩ := P.obj
  refine MethodCall_ (load_glob o hx (.inl g) ?_ hd) he
  refine getMethod_builtin ⟨_, o.g.k _ _ ho, rfl⟩ plainAttrs_pat slot_sub type_sub (fun a e' => by cases e'; exact ⟨_, o.g.k _ _ ho, rfl⟩) ?_
  refine callWith_method1 (wp_useT (ha s pos o) fun vs s₁ ht q => ?_) hs hplain
  obtain ⟨k₁, r₁⟩ := q
  have o₁ := o.keepsS k₁ ht
  match vs, r₁ with
  | _, .cons (.str _ _) (.cons (.str _ _) .nil) =>
    exact wp_sub P F hsz hr o₁.g.k hj fun t' s' k => ⟨kp_trans k₁ k, .str _ _⟩
end
end Mine
end

section
open PySem PySem.Calls PySem.W PyProof.Rows
set_option maxRecDepth 100000
set_option linter.unusedVariables false
namespace Mine
open PySem.StrLaws PySem.Builtin PySem.Builtin.Str

/-! ## text as a list of signs -/
abbrev ch (x : Str) : List Nat := x.cps.toList
def ofL (l : List Nat) : Str := ⟨l.toArray⟩
theorem ch_ofL (l : List Nat) : ch (ofL l) = l := rfl
theorem ofL_ch (x : Str) : ofL (ch x) = x := by cases x; simp [ofL, ch]
theorem ch_inj {x y : Str} (h : ch x = ch y) : x = y := by rw [← ofL_ch x, h, ofL_ch]
theorem ch_app (x y : Str) : ch (x ++ y) = ch x ++ ch y := by show (x.cps ++ y.cps).toList = _; simp
theorem len_ch (x : Str) : x.length = (ch x).length := by simp [Str.length]
theorem join0 : ∀ ys : List Str, ch (Str.join "" ys) = (ys.map ch).flatten
  | [] => rfl
  | [x] => by show ch x = _; simp
  | x :: y :: r => by
    show ch (x ++ "" ++ Str.join "" (y :: r)) = _
    rw [ch_app, ch_app, join0 (y :: r)]
    have : ch (Str.ofString "") = [] := by decide
    rw [this]; simp
theorem tjoin0 (ys : List Str) : ch (Txt.join "" ys) = (ys.map ch).flatten := by
  show ch (glued "" ys) = _
  rw [glued_eq_join]; exact join0 ys
theorem sumLen (ys : List Str) : (ys.map (·.length)).sum = ((ys.map ch).flatten).length := by
  induction ys with
  | nil => rfl
  | cons x r ih => rw [List.map_cons, List.sum_cons, ih, List.map_cons, List.flatten_cons, List.length_append, len_ch]
theorem joinOk0 {ys : List Str} (h : ((ys.map ch).flatten).length ≤ 2 ^ 24) : JoinOk "" ys = true := by
  unfold JoinOk
  rw [joinTotal, Bool.not_eq_true']
  unfold tooLong
  have : (Str.ofString "").length = 0 := by decide
  rw [this, sumLen, sizeLine_eq, decide_eq_false_iff_not]
  omega

theorem drop_cons {x : Array Nat} {p : Nat} (h : p < x.size) : x.toList.drop p = x.getD p 0 :: x.toList.drop (p + 1) := by
  rw [List.drop_eq_getElem_cons (by simpa using h)]
  congr 1
  simp [Array.getD, h]

/-! ## the two patterns as finders -/
def f1 (x : Array Nat) (p : Nat) : Option (Nat × Nat) := (find1 x (x.size - p) p).map fun q => (q, q + 1)
def f2 (x : Array Nat) (p : Nat) : Option (Nat × Nat) := (find2 x (x.size - p) p).map fun q => (q, nlEnd x x.size q)

theorem find1_lt {x : Array Nat} : ∀ {k p q : Nat}, find1 x k p = some q → p ≤ q ∧ q < p + k ∧ ((q == 0 || x.getD (q - 1) 0 == 10) && x.getD q 0 == 46) = true
  | k + 1, p, q, h => by
    unfold find1 at h
    split at h
    · rename_i hc; cases h; exact ⟨Nat.le_refl _, by omega, hc⟩
    · have := find1_lt h; exact ⟨by omega, by omega, this.2.2⟩
theorem nlEnd_le {x : Array Nat} {q : Nat} (h : q < x.size) : q < nlEnd x x.size q ∧ nlEnd x x.size q ≤ x.size := by
  unfold nlEnd
  by_cases hc : (x.getD q 0 == 13 && decide (q + 1 < x.size) && x.getD (q + 1) 0 == 10) = true
  · rw [if_pos hc]
    simp only [Bool.and_eq_true, decide_eq_true_eq] at hc
    omega
  · rw [if_neg hc]; omega

theorem seeks1 : Seeks code1 f1 := ⟨fun x p hp hx => by
  obtain ⟨j, m', hj, hr, hm⟩ := forSearch1 x p hp
  refine ⟨j, m', by have : x.size ≤ 1048576 := hx; omega, hr, ?_⟩
  unfold f1
  cases hf : find1 x (x.size - p) p with
  | none => rw [hf] at hm; exact hm
  | some q =>
    rw [hf] at hm
    have := find1_lt hf
    exact ⟨hm.1, hm.2.1, hm.2.2, by omega, by omega, by omega⟩⟩
theorem seeks2 : Seeks code2 f2 := ⟨fun x p hp hx => by
  obtain ⟨m', hr, hm⟩ := forSearch2 x p hp
  refine ⟨20, m', by decide, hr, ?_⟩
  unfold f2
  cases hf : find2 x (x.size - p) p with
  | none => rw [hf] at hm; exact hm
  | some q =>
    rw [hf] at hm
    have h1 := find2_lt hf
    have h2 := nlEnd_le (x := x) (q := q) (by omega)
    exact ⟨hm.1, hm.2.1, hm.2.2, by omega, by omega, by omega⟩⟩

/-! ## what they make of a text -/
def nlL : List Nat → List Nat
  | [] => []
  | 13 :: 10 :: l => 13 :: 10 :: nlL l
  | c :: l => if c == 10 || c == 13 then 13 :: 10 :: nlL l else c :: nlL l
def ddL : Bool → List Nat → List Nat
  | _, [] => []
  | b, c :: l => if b && c == 46 then 46 :: 46 :: ddL false l else c :: ddL (c == 10) l

theorem nlL_plain {c : Nat} {l : List Nat} (h : (c == 10 || c == 13) = false) : nlL (c :: l) = c :: nlL l := by
  have h13 : c ≠ 13 := by intro e; subst e; simp at h
  rw [nlL.eq_def]
  split
  · rename_i e; cases e
  · rename_i e; cases e; exact absurd rfl h13
  · rename_i e; cases e; rw [h]; rfl
theorem nlL_two {l : List Nat} : nlL (13 :: 10 :: l) = 13 :: 10 :: nlL l := by rw [nlL]
theorem nlL_one {c : Nat} {l : List Nat} (h : (c == 10 || c == 13) = true) (hn : ¬ (c = 13 ∧ l.head? = some 10)) : nlL (c :: l) = 13 :: 10 :: nlL l := by
  rw [nlL.eq_def]
  split
  · rename_i e; cases e
  · rename_i e; cases e; exact absurd ⟨rfl, rfl⟩ hn
  · rename_i e; cases e; rw [h]; rfl

theorem head_drop (x : Array Nat) (p : Nat) : (x.toList.drop p).head? = x[p]? := by
  rw [List.head?_drop]; simp
theorem nl_find {x : Array Nat} : ∀ {k p : Nat}, p + k = x.size → match find2 x k p with
    | some q => nlL (x.toList.drop p) = (x.toList.drop p).take (q - p) ++ 13 :: 10 :: nlL (x.toList.drop (nlEnd x x.size q))
    | none => nlL (x.toList.drop p) = x.toList.drop p
  | 0, p, h => by
    show nlL (x.toList.drop p) = x.toList.drop p
    rw [List.drop_eq_nil_of_le (by simp; omega)]; rfl
  | k + 1, p, h => by
    have hp : p < x.size := by omega
    unfold find2
    by_cases hc : (x.getD p 0 == 10 || x.getD p 0 == 13) = true
    · rw [if_pos hc]
      dsimp only
      rw [Nat.sub_self, List.take_zero, List.nil_append]
      unfold nlEnd
      by_cases hn : (x.getD p 0 == 13 && decide (p + 1 < x.size) && x.getD (p + 1) 0 == 10) = true
      · rw [if_pos hn]
        simp only [Bool.and_eq_true, decide_eq_true_eq, beq_iff_eq] at hn
        rw [drop_cons hp, drop_cons hn.1.2, hn.1.1, hn.2, nlL_two]
      · rw [if_neg hn, drop_cons hp, nlL_one hc]
        rintro ⟨e1, e2⟩
        apply hn
        rw [head_drop] at e2
        have hlt : p + 1 < x.size := by
          rcases Nat.lt_or_ge (p + 1) x.size with h' | h'
          · exact h'
          · rw [Array.getElem?_eq_none h'] at e2; cases e2
        rw [Array.getElem?_eq_getElem hlt] at e2
        have e3 : x.getD (p + 1) 0 = 10 := by simp [Array.getD, hlt, Option.some.inj e2]
        rw [e1, e3]; simp [hlt]
    · rw [if_neg hc]
      have ih := nl_find (x := x) (k := k) (p := p + 1) (by omega)
      have hc' : (x.getD p 0 == 10 || x.getD p 0 == 13) = false := by simpa using hc
      cases hf : find2 x k (p + 1) with
      | none =>
        rw [hf] at ih
        dsimp only at ih ⊢
        rw [drop_cons hp, nlL_plain hc', ih]
      | some q =>
        rw [hf] at ih
        dsimp only at ih ⊢
        have hq := find2_lt hf
        rw [drop_cons hp, nlL_plain hc', ih, show q - p = (q - (p + 1)) + 1 by omega, List.take_succ_cons, List.cons_append]

def fl (x : Array Nat) (p : Nat) : Bool := p == 0 || x.getD (p - 1) 0 == 10
theorem dd_find {x : Array Nat} : ∀ {k p : Nat}, p + k = x.size → match find1 x k p with
    | some q => ddL (fl x p) (x.toList.drop p) = (x.toList.drop p).take (q - p) ++ 46 :: 46 :: ddL (fl x (q + 1)) (x.toList.drop (q + 1))
    | none => ddL (fl x p) (x.toList.drop p) = x.toList.drop p
  | 0, p, h => by
    show ddL _ (x.toList.drop p) = x.toList.drop p
    rw [List.drop_eq_nil_of_le (by simp; omega)]; rfl
  | k + 1, p, h => by
    have hp : p < x.size := by omega
    unfold find1
    have ef : fl x (p + 1) = (x.getD p 0 == 10) := by
      unfold fl; simp
    by_cases hc : ((p == 0 || x.getD (p - 1) 0 == 10) && x.getD p 0 == 46) = true
    · rw [if_pos hc]
      dsimp only
      rw [Nat.sub_self, List.take_zero, List.nil_append, drop_cons hp]
      have hc2 : (fl x p && x.getD p 0 == 46) = true := hc
      have e46 : x.getD p 0 = 46 := by
        simp only [Bool.and_eq_true, beq_iff_eq] at hc2; exact hc2.2
      rw [ef, e46, ddL.eq_def]
      rw [e46] at hc2
      dsimp only
      rw [if_pos hc2]; rfl
    · rw [if_neg hc]
      have hc2 : ¬ (fl x p && x.getD p 0 == 46) = true := hc
      have ih := dd_find (x := x) (k := k) (p := p + 1) (by omega)
      have es : ddL (fl x p) (x.toList.drop p) = x.getD p 0 :: ddL (fl x (p + 1)) (x.toList.drop (p + 1)) := by
        rw [drop_cons hp, ef, ddL.eq_def]
        dsimp only
        rw [if_neg hc2]
      cases hf : find1 x k (p + 1) with
      | none =>
        rw [hf] at ih
        dsimp only at ih ⊢
        rw [es, ih, ← drop_cons hp]
      | some q =>
        rw [hf] at ih
        dsimp only at ih ⊢
        have hq := find1_lt hf
        rw [es, ih, drop_cons hp, show q - p = (q - (p + 1)) + 1 by omega, List.take_succ_cons, List.cons_append]

theorem ext_ch (x : Array Nat) (a b : Nat) : ch (⟨x.extract a b⟩ : Str) = (x.toList.drop a).take (b - a) := by
  show (x.extract a b).toList = _
  simp [Array.toList_extract, List.extract]

theorem pieces2 (x : Array Nat) : ∀ (k d : Nat), x.size - d < k → d ≤ x.size → ((pieces f2 x "\r\n" k d).map ch).flatten = nlL (x.toList.drop d)
  | 0, d, h, _ => absurd h (Nat.not_lt_zero _)
  | k + 1, d, h, hd => by
    have key := nl_find (x := x) (k := x.size - d) (p := d) (by omega)
    have e : ch (Str.ofString "\r\n") = [13, 10] := by decide
    unfold pieces
    rw [show f2 x d = (find2 x (x.size - d) d).map fun q => (q, nlEnd x x.size q) from rfl]
    cases hf : find2 x (x.size - d) d with
    | none =>
      rw [hf] at key
      simp only [Option.map_none]
      rw [key]
      by_cases hlt : d < x.size
      · rw [if_pos hlt]
        simp only [List.map_cons, List.map_nil, List.flatten_cons, List.flatten_nil, List.append_nil, ext_ch]
        exact List.take_of_length_le (by simp)
      · rw [if_neg hlt, List.drop_eq_nil_of_le (by simp; omega)]; rfl
    | some q =>
      rw [hf] at key
      simp only [Option.map_some]
      have hq := find2_lt hf
      have hn := nlEnd_le (x := x) (q := q) (by omega)
      rw [key, List.map_append, List.flatten_append, List.map_cons, List.flatten_cons, pieces2 x k _ (by omega) hn.2, e]
      by_cases hlt : d < q
      · rw [if_pos hlt]; simp [ext_ch]
      · rw [if_neg hlt, show q - d = 0 by omega]; simp
theorem pieces1 (x : Array Nat) : ∀ (k d : Nat), x.size - d < k → d ≤ x.size → ((pieces f1 x ".." k d).map ch).flatten = ddL (fl x d) (x.toList.drop d)
  | 0, d, h, _ => absurd h (Nat.not_lt_zero _)
  | k + 1, d, h, hd => by
    have key := dd_find (x := x) (k := x.size - d) (p := d) (by omega)
    have e : ch (Str.ofString "..") = [46, 46] := by decide
    unfold pieces
    rw [show f1 x d = (find1 x (x.size - d) d).map fun q => (q, q + 1) from rfl]
    cases hf : find1 x (x.size - d) d with
    | none =>
      rw [hf] at key
      simp only [Option.map_none]
      rw [key]
      by_cases hlt : d < x.size
      · rw [if_pos hlt]
        simp only [List.map_cons, List.map_nil, List.flatten_cons, List.flatten_nil, List.append_nil, ext_ch]
        exact List.take_of_length_le (by simp)
      · rw [if_neg hlt, List.drop_eq_nil_of_le (by simp; omega)]; rfl
    | some q =>
      rw [hf] at key
      simp only [Option.map_some]
      have hq := find1_lt hf
      rw [key, List.map_append, List.flatten_append, List.map_cons, List.flatten_cons, pieces1 x k _ (by omega) (by omega), e]
      by_cases hlt : d < q
      · rw [if_pos hlt]; simp [ext_ch]
      · rw [if_neg hlt, show q - d = 0 by omega]; simp

theorem nlL_len : ∀ (n : Nat) (l : List Nat), l.length ≤ n → (nlL l).length ≤ 2 * l.length
  | _, [], _ => by rw [nlL]; simp
  | 0, c :: l, h => by simp at h
  | n + 1, c :: l, h => by
    rw [nlL.eq_def]
    split
    · simp
    · rename_i l' e
      cases e
      have := nlL_len n l' (by simp at h; omega)
      simp; omega
    · rename_i e
      cases e
      have := nlL_len n l (by simp at h; omega)
      split <;> (simp; omega)
theorem ddL_len : ∀ (l : List Nat) (b : Bool), (ddL b l).length ≤ 2 * l.length
  | [], b => by rw [ddL]; simp
  | c :: l, b => by
    rw [ddL]
    have h1 := ddL_len l false
    have h2 := ddL_len l (c == 10)
    split <;> (simp; omega)
end Mine
end

section
open PySem PySem.Calls PySem.W PyProof.Rows
set_option maxRecDepth 100000
set_option linter.unusedVariables false
namespace Mine
open PySem.StrLaws PySem.Builtin PySem.Builtin.Str

def quo : List Nat → List Nat
  | [] => []
  | c :: r => if c == 46 then 46 :: c :: r else c :: r
def Free (l : List Nat) : Prop := ∀ c ∈ l, c ≠ 10 ∧ c ≠ 13

theorem nlL_free : ∀ (r l : List Nat), Free r → nlL (r ++ l) = r ++ nlL l
  | [], l, _ => rfl
  | c :: r, l, h => by
    have hc := h c (List.mem_cons_self ..)
    rw [List.cons_append, nlL_plain (by simp [hc.1, hc.2]), nlL_free r l (fun d hd => h d (List.mem_cons_of_mem _ hd))]
    rfl
inductive IsEnd : List Nat → Prop
  | lf : IsEnd [10]
  | cr : IsEnd [13]
  | crlf : IsEnd [13, 10]
theorem nlL_rows {e : List Nat} (he : IsEnd e) : ∀ rows : List (List Nat), (∀ r ∈ rows, Free r) → nlL ((rows.map (· ++ e)).flatten) = (rows.map (· ++ [13, 10])).flatten
  | [], _ => by rw [List.map_nil, List.map_nil]; rfl
  | r :: rows, h => by
    have ih := nlL_rows he rows (fun r' hr => h r' (List.mem_cons_of_mem _ hr))
    rw [List.map_cons, List.flatten_cons, List.map_cons, List.flatten_cons, List.append_assoc, nlL_free _ _ (h r (List.mem_cons_self ..)), ← ih, List.append_assoc]
    congr 1
    cases he with
    | lf => exact nlL_one (by decide) (by simp)
    | crlf => exact nlL_two
    | cr =>
      refine nlL_one (by decide) ?_
      rintro ⟨_, e2⟩
      cases rows with
      | nil => simp at e2
      | cons r' rows =>
        rw [List.map_cons, List.flatten_cons] at e2
        cases r' with
        | nil => simp at e2
        | cons c r' =>
          simp at e2
          exact (h (c :: r') (by simp) c (by simp)).1 e2
theorem ddL_free : ∀ (r l : List Nat), Free r → ddL false (r ++ 13 :: 10 :: l) = r ++ 13 :: 10 :: ddL true l
  | [], l, _ => by
    show ddL false (13 :: 10 :: l) = 13 :: 10 :: ddL true l
    simp [ddL]
  | c :: r, l, h => by
    have hc := h c (List.mem_cons_self ..)
    have ih := ddL_free r l (fun d hd => h d (List.mem_cons_of_mem _ hd))
    rw [List.cons_append, ddL, Bool.false_and, if_neg Bool.false_ne_true, show (c == 10) = false by simp [hc.1], ih]
    rfl
theorem ddL_row (r l : List Nat) (h : Free r) : ddL true (r ++ 13 :: 10 :: l) = quo r ++ 13 :: 10 :: ddL true l := by
  cases r with
  | nil =>
    show ddL true (13 :: 10 :: l) = 13 :: 10 :: ddL true l
    simp [ddL]
  | cons c r =>
    have hc := h c (List.mem_cons_self ..)
    have ih := ddL_free r l (fun d hd => h d (List.mem_cons_of_mem _ hd))
    rw [List.cons_append, ddL, Bool.true_and, quo]
    by_cases h46 : (c == 46) = true
    · rw [if_pos h46, if_pos h46, ih, beq_iff_eq.mp h46]; rfl
    · rw [if_neg h46, if_neg h46, show (c == 10) = false by simp [hc.1], ih]; rfl
theorem ddL_rows : ∀ rows : List (List Nat), (∀ r ∈ rows, Free r) → ddL true ((rows.map (· ++ [13, 10])).flatten) = (rows.map fun r => quo r ++ [13, 10]).flatten
  | [], _ => by rw [List.map_nil, List.map_nil]; rfl
  | r :: rows, h => by
    rw [List.map_cons, List.flatten_cons, List.map_cons, List.flatten_cons, List.append_assoc]
    have := ddL_row r ((rows.map (· ++ [13, 10])).flatten) (h r (List.mem_cons_self ..))
    rw [List.append_assoc, ← ddL_rows rows (fun r' hr => h r' (List.mem_cons_of_mem _ hr))]
    exact this
theorem sent_rows {e : List Nat} (he : IsEnd e) (rows : List (List Nat)) (h : ∀ r ∈ rows, Free r) : ddL true (nlL ((rows.map (· ++ e)).flatten)) = ((rows.map quo).map (· ++ [13, 10])).flatten := by
  rw [nlL_rows he rows h, ddL_rows rows h, List.map_map]; rfl

/-! ## split at the line ends -/
theorem at_iff {x : Str} {i : Nat} : At x "\r\n" x.length i ↔ (ch x)[i]? = some 13 ∧ (ch x)[i + 1]? = some 10 := by
  have e : ch (Str.ofString "\r\n") = [13, 10] := by decide
  have el : (Str.ofString "\r\n").length = 2 := by decide
  unfold At
  rw [subAt_eq, el, show (Str.ofString "\r\n").cps.toList = [13, 10] from e, len_ch]
  show _ ∧ ((List.drop i (ch x)).take 2 == [13, 10]) = true ↔ _
  rw [beq_iff_eq]
  constructor
  · rintro ⟨h1, h2⟩
    have a1 : ((List.drop i (ch x)).take 2)[0]? = some 13 := by rw [h2]; rfl
    have a2 : ((List.drop i (ch x)).take 2)[1]? = some 10 := by rw [h2]; rfl
    rw [List.getElem?_take_of_lt (by omega), List.getElem?_drop] at a1 a2
    exact ⟨a1, a2⟩
  · rintro ⟨h1, h2⟩
    have l2 : i + 1 < (ch x).length := by
      rcases Nat.lt_or_ge (i + 1) (ch x).length with h | h
      · exact h
      · rw [List.getElem?_eq_none h] at h2; cases h2
    refine ⟨by omega, ?_⟩
    rw [List.drop_eq_getElem_cons (by omega), List.drop_eq_getElem_cons l2]
    rw [List.getElem?_eq_getElem (by omega)] at h1 h2
    simp [Option.some.inj h1, Option.some.inj h2]

theorem sub_ch (x : Str) (a b : Nat) : strSub x a b = ofL ((ch x |>.drop a).take (b - a)) := ch_inj (by rw [ch_ofL]; exact strSub_toList x a b)

theorem parts_rows (x : Str) : ∀ (rows : List (List Nat)) (a f : Nat) (cuts : List Nat), (∀ r ∈ rows, 13 ∉ r) → (ch x).drop a = (rows.map (· ++ [13, 10])).flatten → ChainG x "\r\n" x.length a cuts f → (∀ k, f ≤ k → ¬ At x "\r\n" x.length k) →
    partsFrom x 2 a cuts = rows.map ofL ++ [ofL []]
  | [], a, f, cuts, _, hd, hc, hn => by
    have hle : (ch x).length ≤ a := by
      have := congrArg List.length hd
      rw [List.length_drop, List.map_nil, List.flatten_nil, List.length_nil] at this; omega
    cases cuts with
    | nil =>
      show [strSub x a x.length] = [ofL []]
      rw [sub_ch, hd, List.map_nil, List.flatten_nil, List.take_nil]
    | cons c r =>
      have := at_iff.mp hc.2.1
      have h1 := hc.1
      rw [List.getElem?_eq_none (by omega)] at this
      cases this.1
  | r :: rows, a, f, cuts, hf, hd, hc, hn => by
    have hd' : (ch x).drop a = r ++ ([13, 10] ++ (rows.map (· ++ [13, 10])).flatten) := by rw [hd, List.map_cons, List.flatten_cons, List.append_assoc]
    have gi : ∀ i, (ch x)[a + i]? = (r ++ ([13, 10] ++ (rows.map (· ++ [13, 10])).flatten))[i]? := fun i => by rw [← hd', List.getElem?_drop]
    have hat : At x "\r\n" x.length (a + r.length) := by
      rw [at_iff]
      constructor
      · rw [gi, List.getElem?_append_right (Nat.le_refl _)]; simp
      · rw [Nat.add_assoc, gi, List.getElem?_append_right (by omega)]; simp
    have hno : ∀ k, a ≤ k → k < a + r.length → ¬ At x "\r\n" x.length k := fun k h1 h2 h3 => by
      have := (at_iff.mp h3).1
      rw [show k = a + (k - a) by omega, gi, List.getElem?_append_left (by omega)] at this
      exact hf r (List.mem_cons_self ..) (List.mem_of_getElem? this)
    cases cuts with
    | nil =>
      have e : f = a := hc
      exact absurd hat (hn _ (by omega))
    | cons c cs =>
      obtain ⟨h1, h2, h3, h4⟩ := hc
      have ec : c = a + r.length := by
        rcases Nat.lt_trichotomy c (a + r.length) with h | h | h
        · exact absurd h2 (hno c h1 h)
        · exact h
        · exact absurd hat (h3 _ (by omega) h)
      subst ec
      show strSub x a (a + r.length) :: partsFrom x 2 (a + r.length + 2) cs = _
      rw [parts_rows x rows (a + r.length + 2) f cs (fun r' hr => hf r' (List.mem_cons_of_mem _ hr)) ?_ h4 hn, sub_ch, hd']
      · simp
      · rw [show a + r.length + 2 = a + (r.length + 2) by omega, ← List.drop_drop, hd', List.drop_append, show r.length + 2 - r.length = 2 by omega, List.drop_eq_nil_of_le (by omega)]
        rfl

theorem split_rows (rows : List (List Nat)) (h : ∀ r ∈ rows, 13 ∉ r) (hne : rows ≠ []) : Txt.split (ofL ((rows.map (· ++ [13, 10])).flatten)) "\r\n" = rows.map ofL ++ [ofL []] ∧
    (partsBetween (ofL ((rows.map (· ++ [13, 10])).flatten)) (occurrences (ofL ((rows.map (· ++ [13, 10])).flatten)) "\r\n" 0 (ofL ((rows.map (· ++ [13, 10])).flatten)).length ((ofL ((rows.map (· ++ [13, 10])).flatten)).length + 1)) (Str.ofString "\r\n").length).length = rows.length + 1 := by
  generalize hx : ofL ((rows.map (· ++ [13, 10])).flatten) = x
  have hch : ch x = (rows.map (· ++ [13, 10])).flatten := by rw [← hx, ch_ofL]
  have el : (Str.ofString "\r\n").length = 2 := by decide
  obtain ⟨f, h1, h2⟩ := occ_tight x "\r\n" (by rw [el]; omega)
  have key : partsBetween x (occurrences x "\r\n" 0 x.length (x.length + 1)) (Str.ofString "\r\n").length = rows.map ofL ++ [ofL []] := by
    rw [partsBetween_eq, el]
    exact parts_rows x rows 0 f _ h (by rw [List.drop_zero, hch]) h1 h2
  refine ⟨?_, by rw [key]; simp⟩
  have hk : 1 ≤ Str.strKind x := by unfold Str.strKind; split <;> (try split) <;> omega
  have hl : 2 ≤ x.length := by
    rw [len_ch, hch]
    cases rows with
    | nil => exact absurd rfl hne
    | cons r rows => simp; omega
  unfold Txt.split
  rw [if_neg, if_neg, key]
  · intro he
    have h3 := List.isEmpty_iff.mp he
    rw [h3] at key
    cases rows with
    | nil => exact hne rfl
    | cons r rows =>
      have := congrArg List.length key
      simp [partsBetween] at this
  · rw [el]
    have : Str.strKind (Str.ofString "\r\n") = 1 := by decide +kernel
    rw [this]; simp; omega

/-! ## single signs -/
theorem map_join (c z : Nat) : ∀ parts : List Str, (∀ p ∈ parts, c ∉ ch p) → (ch (Str.join ⟨#[c]⟩ parts)).map (fun d => if d = c then z else d) = ch (Str.join ⟨#[z]⟩ parts)
  | [], _ => rfl
  | [x], h => by
    show (ch x).map _ = ch x
    have : ∀ d ∈ ch x, (fun d => if d = c then z else d) d = id d := fun d hd => if_neg (fun (e : d = c) => h x (by simp) (e ▸ hd))
    rw [List.map_congr_left this, List.map_id]
  | x :: y :: r, h => by
    show (ch (x ++ ⟨#[c]⟩ ++ Str.join ⟨#[c]⟩ (y :: r))).map _ = ch (x ++ ⟨#[z]⟩ ++ Str.join ⟨#[z]⟩ (y :: r))
    have ih := map_join c z (y :: r) (fun p hp => h p (List.mem_cons_of_mem _ hp))
    have : ∀ d ∈ ch x, (fun d => if d = c then z else d) d = id d := fun d hd => if_neg (fun (e : d = c) => h x (by simp) (e ▸ hd))
    rw [ch_app, ch_app, ch_app, ch_app, List.map_append, List.map_append, ih, List.map_congr_left this, List.map_id]
    simp [ch]
theorem ch_replace (x : Str) (c z : Nat) : ch (Txt.replace x ⟨#[c]⟩ ⟨#[z]⟩) = (ch x).map (fun d => if d = c then z else d) := by
  rw [replace_one, ← map_join c z _ (fun p hp => split_free x c p hp), join_split]
theorem ch_lstrip (x y : Str) : ch (Txt.lstripChars x y) = (ch x).dropWhile y.cps.contains := by
  show ch (Txt.stripBy y.cps.contains true false x) = _
  rw [PyProof.Rows.stripBy_eq, sub_ch, ch_ofL]
  simp only [stripLo, stripHi, if_true, Bool.false_eq_true, if_false]
  rw [len_ch]
  have : ∀ (l : List Nat) (p : Nat → Bool), (l.drop (l.takeWhile p).length).take (l.length - (l.takeWhile p).length) = l.dropWhile p := fun l p => by
    rw [List.take_of_length_le (by simp)]
    induction l with
    | nil => rfl
    | cons a l ih =>
      rw [List.takeWhile_cons, List.dropWhile_cons]
      split
      · simpa using ih
      · rfl
  exact this (ch x) _
theorem startswith_iff (x y : Str) : Txt.startswith x y = (ch y).isPrefixOf (ch x) := by
  unfold Txt.startswith
  rw [Bool.eq_iff_iff, Bool.and_eq_true, subAt_eq, List.isPrefixOf_iff_prefix, List.drop_zero, beq_iff_eq, decide_eq_true_eq]
  constructor
  · rintro ⟨_, h⟩
    have h' : (ch x).take y.length = ch y := h
    exact ⟨(ch x).drop y.length, by rw [← h']; exact List.take_append_drop _ _⟩
  · rintro ⟨t, h⟩
    have hl : y.length = (ch y).length := len_ch y
    refine ⟨by rw [len_ch, len_ch, ← h]; simp, ?_⟩
    show (ch x).take y.length = ch y
    rw [← h, hl, List.take_left']; rfl
theorem fold_rep (c : Nat) : ∀ (n : Nat) (acc : Array Nat), List.foldl (fun x1 x2 => x1 ++ x2) acc (List.replicate n #[c]) = acc ++ (List.replicate n c).toArray
  | 0, acc => by simp
  | n + 1, acc => by
    rw [List.replicate_succ, List.foldl_cons, fold_rep c n, List.replicate_succ, Array.append_assoc]
    congr 1
    apply Array.ext'
    rw [Array.toList_append]; rfl
theorem ch_mul (c n : Nat) : ch (Txt.mul ⟨#[c]⟩ n) = List.replicate n c := by
  unfold Txt.mul
  by_cases h0 : (n : Int) < 1
  · rw [if_pos h0, show n = 0 by omega]; rfl
  · rw [if_neg h0]
    by_cases h1 : n = 1
    · subst h1; rfl
    · rw [if_neg (by simp [Str.length]; omega)]
      show (List.foldl _ #[] (List.replicate (n : Int).toNat #[c])).toList = _
      rw [show ((n : Int).toNat) = n by simp, fold_rep]
      simp
theorem ch_slice (x : Str) {a b : Nat} (hab : a ≤ b) (hb : b ≤ x.length) : ch (Txt.slice x (some (a : Int)) (some (b : Int))) = ((ch x).drop a).take (b - a) := by
  show ch (sliceText x (some (a : Int)) (some (b : Int))) = _
  rw [sliceText_nat x hab hb]
end Mine
end

section
open PySem PySem.Calls PySem.W PyProof.Rows
set_option maxRecDepth 100000
set_option linter.unusedVariables false
namespace Mine
open PySem.StrLaws PySem.Builtin PySem.Builtin.Str

theorem at1 (x : Str) (c i : Nat) : At x ⟨#[c]⟩ x.length i ↔ (ch x)[i]? = some c := subAt_one x c i
theorem find_none {x : Str} {c : Nat} (h : c ∉ ch x) : Txt.find x ⟨#[c]⟩ = -1 := by
  unfold Txt.find
  rcases occ_head x ⟨#[c]⟩ 1 (Nat.le_refl _) with ⟨e, _⟩ | ⟨i, r, e, ha, _⟩
  · rw [e]
  · exact absurd (List.mem_of_getElem? ((at1 x c i).mp ha)) h
theorem findIn_at {x : Str} {c p : Nat} (h1 : (ch x)[p]? = some c) (h2 : ∀ k, k < p → (ch x)[k]? ≠ some c) : findIn x ⟨#[c]⟩ 0 x.length = p := by
  unfold findIn
  have e1 : fromIndex x.length 0 = 0 := rfl
  have e2 : fromIndex x.length x.length = x.length := by unfold fromIndex; rw [if_neg (by omega)]; omega
  rw [e1, e2, Nat.min_self]
  rcases occ_head x ⟨#[c]⟩ 1 (Nat.le_refl _) with ⟨e, hn⟩ | ⟨i, r, e, ha, hn⟩
  · exact absurd ((at1 x c p).mpr h1) (hn p)
  · rw [e]
    show (i : Int) = p
    have hi := (at1 x c i).mp ha
    rcases Nat.lt_trichotomy i p with h | h | h
    · exact absurd hi (h2 i h)
    · rw [h]
    · exact absurd ((at1 x c p).mpr h1) (hn p h)
theorem at1_hi (x : Str) (c i hi : Nat) (hh : hi ≤ x.length) : At x ⟨#[c]⟩ hi i ↔ i < hi ∧ (ch x)[i]? = some c := by
  constructor
  · rintro ⟨h1, h2⟩
    have h1' : i + 1 ≤ hi := h1
    exact ⟨by omega, (at1 x c i).mp ⟨by show i + 1 ≤ x.length; omega, h2⟩⟩
  · rintro ⟨h1, h2⟩
    exact ⟨h1, ((at1 x c i).mpr h2).2⟩
theorem rfindIn_at {x : Str} {c p q : Nat} (hp : p ≤ x.length) (h0 : q < p) (h1 : (ch x)[q]? = some c) (h2 : ∀ k, q < k → k < p → (ch x)[k]? ≠ some c) : rfindIn x ⟨#[c]⟩ 0 p = q := by
  unfold rfindIn
  have e1 : fromIndex x.length 0 = 0 := rfl
  have e2 : fromIndex x.length (p : Int) = p := by unfold fromIndex; rw [if_neg (by omega)]; omega
  rw [e1, e2, Nat.min_eq_left hp, last_eq]
  have key := last_run x ⟨#[c]⟩ p (List.range' 0 (p + 1 - 0)) [] none (by intro i hi; cases hi) (by intro i hi; cases hi) (by simpa using List.pairwise_lt_range')
  rw [List.nil_append] at key
  have hm : ∀ i, i < p → i ∈ List.range' 0 (p + 1 - 0) := fun i hi => by rw [List.mem_range'_1]; omega
  cases hr : (forIn (List.range' 0 (p + 1 - 0)) none (lastBody x ⟨#[c]⟩ p)).run with
  | none =>
    rw [hr] at key
    exact absurd ((at1_hi x c q p hp).mpr ⟨h0, h1⟩) (key q (hm q h0))
  | some a =>
    rw [hr] at key
    obtain ⟨k1, k2⟩ := key
    have ha := (at1_hi x c a p hp).mp k1
    show (a : Int) = q
    rcases Nat.lt_trichotomy a q with h | h | h
    · exact absurd ((at1_hi x c q p hp).mpr ⟨h0, h1⟩) (k2 q (hm q h0) h)
    · rw [h]
    · exact absurd ha.2 (h2 a h ha.1)

/-- what the bare name is taken from -/
theorem sed_text {row : Str} {pre : List Nat} {c : Nat} (hr : ch row = pre ++ [46, c]) (hp : 10 ∉ pre ∧ 58 ∉ pre) (hc : c ≠ 10 ∧ c ≠ 58 ∧ c ≠ 46) :
    Txt.find (row ++ ": x.y") "\n" = -1 ∧ findIn (row ++ ": x.y") ":" 0 (row ++ Str.ofString ": x.y").length = (pre.length + 2 : Nat) ∧ rfindIn (row ++ ": x.y") "." 0 (pre.length + 2 : Nat) = pre.length ∧
      Txt.slice (row ++ ": x.y") (some ((pre.length : Int) + 1)) (some (pre.length + 2 : Nat)) = ofL [c] := by
  generalize hx : row ++ Str.ofString ": x.y" = x
  have ex : ch x = pre ++ [46, c, 58, 32, 120, 46, 121] := by
    rw [← hx, ch_app, hr, show ch (Str.ofString ": x.y") = [58, 32, 120, 46, 121] by decide]; simp
  have g1 : ∀ k, k < pre.length → (ch x)[k]? = pre[k]? := fun k hk => by rw [ex, List.getElem?_append_left hk]
  have g2 : ∀ k, (ch x)[pre.length + k]? = [46, c, 58, 32, 120, 46, 121][k]? := fun k => by
    rw [ex, List.getElem?_append_right (by omega)]; congr 1; omega
  have hlen : x.length = pre.length + 7 := by rw [len_ch, ex]; simp
  refine ⟨?_, ?_, ?_, ?_⟩
  · refine find_none (c := 10) ?_
    rw [ex]; simp [hp.1]; omega
  · refine findIn_at (c := 58) (g2 2) fun k hk e => ?_
    by_cases h : k < pre.length
    · rw [g1 k h] at e; exact hp.2 (List.mem_of_getElem? e)
    · rw [show k = pre.length + (k - pre.length) by omega, g2] at e
      have : k - pre.length = 0 ∨ k - pre.length = 1 := by omega
      rcases this with q | q <;> rw [q] at e
      · cases e
      · exact hc.2.1 (Option.some.inj e)
  · refine rfindIn_at (c := 46) (by omega) (by omega) (g2 0) fun k h1 h2 e => ?_
    rw [show k = pre.length + 1 by omega, g2 1] at e
    exact hc.2.2 (Option.some.inj e)
  · apply ch_inj
    rw [show (pre.length : Int) + 1 = ((pre.length + 1 : Nat) : Int) by omega, ch_slice x (by omega) (by omega), ch_ofL, ex, show pre.length + 2 - (pre.length + 1) = 1 by omega]
    rw [List.drop_append, List.drop_eq_nil_of_le (by omega), show pre.length + 1 - pre.length = 1 by omega]
    rfl
end Mine
end

section
open PySem PySem.Calls PySem.W PyProof.Rows
set_option maxRecDepth 100000
set_option linter.unusedVariables false
namespace Mine
def rowOf (m : Nat) (x : Str) : Str := ofL (List.replicate m 46 ++ ch x)
theorem mulOk_dot {n : Nat} (h : n ≤ 100) : MulOk "." (n : Int) := by
  have e : (Str.ofString ".").length = 1 := by decide
  refine ⟨by simp; omega, fun h1 _ => ?_, fun _ _ => ?_⟩
  · rw [e]
    have h2 : (1 : Int) ≤ n := by omega
    have : (1 : Int) ≤ (2 ^ 63 - 1) / (n : Int) := by
      rw [Int.le_ediv_iff_mul_le (by omega)]; omega
    omega
  · rw [e]
    unfold Builtin.Str.tooLong
    rw [sizeLine_eq]; simp; omega
theorem mul_dot (n : Nat) : Txt.mul "." (n : Int) = ofL (List.replicate n 46) := ch_inj (by rw [ch_ofL]; exact ch_mul 46 n)
theorem row_cat (n : Nat) (x : Str) : Txt.mul "." (n : Int) ++ x = rowOf n x := by
  rw [mul_dot]; apply ch_inj; rw [ch_app]; rfl
theorem get_ints {n k : Nat} {f : Nat → Int} (h : k < n) : (((List.range n).map f).map PyData.int)[((k : Nat) : Int).toNat]? = some (.int (f k)) := by
  simp [h]
theorem get_strs {n k : Nat} {f : Nat → Str} (h : k < n) : (((List.range n).map f).map PyData.str)[((k : Nat) : Int).toNat]? = some (.str (f k)) := by
  simp [h]
theorem filter_all {α : Type} : ∀ l : List α, l.filter (fun _ => true) = l
  | [] => rfl
  | a :: l => by rw [List.filter_cons, if_pos rfl, filter_all l]
theorem lay_ints : ∀ (ns : List Int), (∀ i ∈ ns, i.natAbs ≤ 200) → PyData.canLayAll0 (ns.map .int) = true ∧ PyData.depthAll (ns.map .int) = 0 ∧ PyData.weightAll (ns.map .int) ≤ 202 * ns.length
  | [], _ => ⟨rfl, rfl, by decide⟩
  | i :: ns, h => by
    obtain ⟨a, b, c⟩ := lay_ints ns (fun j hj => h j (List.mem_cons_of_mem _ hj))
    have hi := h i (List.mem_cons_self ..)
    have hl : i.natAbs.log2 ≤ i.natAbs := Nat.log2_le_self _
    refine ⟨?_, ?_, ?_⟩
    · rw [List.map_cons, PyData.canLayAll0, a]; rfl
    · rw [List.map_cons, PyData.depthAll, b]; rfl
    · rw [List.map_cons, PyData.weightAll, PyData.weight, List.length_cons]
      split <;> omega
theorem layable_ints {ns : List Int} (h : ∀ i ∈ ns, i.natAbs ≤ 200) (hl : ns.length ≤ 1000) : PyData.layable0 (.list (ns.map .int)) = true := by
  obtain ⟨a, b, c⟩ := lay_ints ns h
  unfold PyData.layable0
  rw [PyData.canLay0, a, PyData.depth, b, PyData.weight]
  simp; omega
theorem idx_at {x : Int} : ∀ {l : List Int} {i : Nat}, l[i]? = some x → (∀ j, j < i → l[j]? ≠ some x) → l.idxOf x = i
  | [], i, h, _ => by simp at h
  | a :: l, 0, h, _ => by
    have : a = x := by simpa using h
    rw [this]; simp
  | a :: l, i + 1, h, hn => by
    have ha : a ≠ x := by simpa using hn 0 (by omega)
    rw [List.idxOf_cons, show (a == x) = false by simpa using ha]
    show l.idxOf x + 1 = i + 1
    rw [idx_at (i := i) (by simpa using h) fun j hj => by simpa using hn (j + 1) (by omega)]
theorem idx_range {n u : Nat} {f : Nat → Int} {x : Int} (hu : u < n) (hx : f u = x) (hi : ∀ k, k < n → f k = x → k = u) : ((List.range n).map f).idxOf x = u := by
  refine idx_at (by simp [hu, hx]) fun j hj e => ?_
  have hjn : j < n := by omega
  have : f j = x := by simpa [hjn] using e
  have := hi j hjn this
  omega
theorem EvN.to {C : Cx} {e ds ds'} (h : EvN C e ds) (q : ds = ds') : EvN C e ds' := q ▸ h
def tiedB (ab : Nat → Int) (u v : Nat) : Bool := ab u == (v : Int) || ab v == (u : Int)
theorem filter_one {p : Nat → Bool} {u : Nat} : ∀ {n : Nat}, (∀ k, k < n → (p k = true ↔ k = u)) → (List.range n).filter p = if u < n then [u] else []
  | 0, _ => by simp
  | n + 1, h => by
    have ih := filter_one (p := p) (u := u) (n := n) fun k hk => h k (by omega)
    rw [List.range_succ, List.filter_append, ih]
    have hn := h n (by omega)
    by_cases hu : u < n
    · rw [if_pos hu, if_pos (by omega)]
      have : p n = false := by
        cases hp : p n with
        | false => rfl
        | true => have := hn.mp hp; omega
      simp [this]
    · rw [if_neg hu]
      by_cases he : u = n
      · subst he
        rw [if_pos (by omega)]
        simp [hn.mpr rfl]
      · rw [if_neg (by omega)]
        have : p n = false := by
          cases hp : p n with
          | false => rfl
          | true => exact absurd (hn.mp hp).symm he
        simp [this]
/-- what is known of a name -/
structure NmOk (x : Str) (c : Nat) : Prop where
  ends : ∃ pre, ch x = pre ++ [46, c]
  head : (ch x).head? = some 67
  free : ∀ d ∈ ch x, d ≠ 10 ∧ d ≠ 13 ∧ d ≠ 58 ∧ d ≠ 32
  len : x.length ≤ 100
theorem NmOk.cons {x : Str} {c : Nat} (h : NmOk x c) : ∃ r, ch x = 67 :: r := by
  have := h.head
  cases hx : ch x with
  | nil => rw [hx] at this; cases this
  | cons a r => rw [hx] at this; cases this; exact ⟨r, rfl⟩
theorem dots_strip (r : List Nat) : ∀ (a : Nat), (List.replicate a 46 ++ 67 :: r).dropWhile (fun d => d == 46) = 67 :: r
  | 0 => by simp
  | a + 1 => by rw [List.replicate_succ, List.cons_append, List.dropWhile_cons, if_pos (by rfl), dots_strip r a]
theorem lstrip_row {x : Str} {c m : Nat} (h : NmOk x c) : Txt.lstripChars (rowOf m x) "." = x := by
  obtain ⟨r, hr⟩ := h.cons
  apply ch_inj
  rw [ch_lstrip]
  have e : (Str.ofString ".").cps.contains = fun d => d == 46 := by
    funext d
    show (#[46] : Array Nat).contains d = (d == 46)
    simp
    exact Bool.eq_iff_iff.mpr (by simp)
  rw [e]
  show (List.replicate m 46 ++ ch x).dropWhile _ = ch x
  rw [hr, dots_strip]
theorem row_len (m : Nat) (x : Str) : (rowOf m x).length = m + x.length := by
  rw [len_ch, len_ch]; show (List.replicate m 46 ++ ch x).length = _; simp
/-- dots taken off -/
theorem padded {y : Str} {o m : Nat} {z : List Nat} (hy : ch y = List.replicate m 46 ++ z) (ho : o ≤ m) (h32 : 32 ∉ ch y) :
    (∀ i, i < o → (Txt.replace y "." " ").cps[i]? = some 32) ∧ o ≤ (Txt.replace y "." " ").length ∧ (Txt.replace y "." " ").length = y.length ∧
      Txt.replace (Txt.slice (Txt.replace y "." " ") (some (o : Int)) (some ((Txt.replace y "." " ").length : Int))) " " "." = ofL (List.replicate (m - o) 46 ++ z) := by
  have e1 : ch (Txt.replace y "." " ") = (ch y).map (fun d => if d = 46 then 32 else d) := ch_replace y 46 32
  generalize Txt.replace y "." " " = x at e1
  have hl : x.length = y.length := by rw [len_ch, len_ch, e1]; simp
  have hym : m ≤ y.length := by rw [len_ch, hy]; simp
  refine ⟨fun i hi => ?_, by omega, hl, ?_⟩
  · have : (ch x)[i]? = some 32 := by
      rw [e1, hy, List.getElem?_map, List.getElem?_append_left (by simp; omega), List.getElem?_replicate, if_pos (by omega)]
      rfl
    simpa [ch] using this
  · apply ch_inj
    have e2 := ch_replace (Txt.slice x (some (o : Int)) (some (x.length : Int))) 32 46
    refine e2.trans ?_
    rw [ch_slice x (by omega) (Nat.le_refl _), List.take_of_length_le (by rw [List.length_drop, ← len_ch]; omega), e1, ← List.map_drop, List.map_map]
    have : ∀ d ∈ (ch y).drop o, ((fun d => if d = 32 then 46 else d) ∘ fun d => if d = 46 then 32 else d) d = id d := fun d hd => by
      have hd' := List.mem_of_mem_drop hd
      show (if (if d = 46 then 32 else d) = 32 then 46 else if d = 46 then 32 else d) = d
      by_cases h : d = 46
      · simp [h]
      · rw [if_neg h, if_neg (fun (e : d = 32) => h32 (e ▸ hd'))]
    rw [List.map_congr_left this, List.map_id, hy, ch_ofL, List.drop_append, List.drop_replicate]
    congr 1
    rw [List.length_replicate, show o - m = 0 by omega]; rfl
def abC (cs : List Nat) (k : Nat) : Int := (cs.getD k 0 : Int) - 1
def forests : Nat → List (List Nat)
  | 0 => [[]]
  | k + 1 => (forests k).flatMap fun cs => (List.range (k + 1)).map fun c => cs ++ [c]
def gl {α : Type} (f : Nat → List α → α) : Nat → List α
  | 0 => []
  | k + 1 => gl f k ++ [f k (gl f k)]
def gv {α : Type} (f : Nat → List α → α) (k : Nat) : α := f k (gl f k)
theorem gl_eq {α : Type} (f : Nat → List α → α) : ∀ n, gl f n = (List.range n).map (gv f)
  | 0 => rfl
  | n + 1 => by rw [List.range_succ, List.map_append, ← gl_eq f n]; rfl
structure CsOk (n : Nat) (cs : List Nat) : Prop where
  len : cs.length = n
  le : ∀ k, k < n → cs.getD k 0 ≤ k
def nmF (cs : List Nat) (k : Nat) (l : List Str) : Str := (if cs.getD k 0 = 0 then Str.ofString "C" else l.getD (cs.getD k 0 - 1) (Str.ofString "")) ++ Str.ofString "." ++ ofL [97 + k]
def nm (cs : List Nat) : Nat → Str := gv (nmF cs)
def trF (cs : List Nat) (k : Nat) (l : List Nat) : Nat := if cs.getD k 0 = 0 then k else l.getD (cs.getD k 0 - 1) 0
def tr (cs : List Nat) : Nat → Nat := gv (trF cs)
theorem range_getD {α : Type} {f : Nat → α} {n k : Nat} {d : α} (h : k < n) : ((List.range n).map f).getD k d = f k := by
  simp [h]
theorem nm_root {cs : List Nat} {k : Nat} (h : cs.getD k 0 = 0) : nm cs k = Str.ofString "C" ++ Str.ofString "." ++ ofL [97 + k] := by
  show nmF cs k _ = _
  unfold nmF; rw [if_pos h]
theorem nm_on {cs : List Nat} {k : Nat} (h : cs.getD k 0 ≠ 0) (hk : cs.getD k 0 ≤ k) : nm cs k = nm cs (cs.getD k 0 - 1) ++ Str.ofString "." ++ ofL [97 + k] := by
  show nmF cs k _ = _
  unfold nmF; rw [if_neg h, gl_eq, range_getD (by omega)]; rfl
theorem tr_root {cs : List Nat} {k : Nat} (h : cs.getD k 0 = 0) : tr cs k = k := by
  show trF cs k _ = _
  unfold trF; rw [if_pos h]
theorem tr_on {cs : List Nat} {k : Nat} (h : cs.getD k 0 ≠ 0) (hk : cs.getD k 0 ≤ k) : tr cs k = tr cs (cs.getD k 0 - 1) := by
  show trF cs k _ = _
  unfold trF; rw [if_neg h, gl_eq, range_getD (by omega)]; rfl
theorem cC : ch (Str.ofString "C") = [67] := by decide
theorem cDot : ch (Str.ofString ".") = [46] := by decide
theorem ch_dot (x : Str) (c : Nat) : ch (x ++ Str.ofString "." ++ ofL [c]) = ch x ++ [46, c] := by
  rw [ch_app, ch_app, cDot, ch_ofL, List.append_assoc]; rfl
theorem nm_ok {n : Nat} {cs : List Nat} (ok : CsOk n cs) (hn : n ≤ 6) : ∀ k, k < n → NmOk (nm cs k) (97 + k) ∧ (nm cs k).length ≤ 1 + 2 * (k + 1) := fun k => by
  induction k using Nat.strongRecOn with
  | _ k ih =>
    intro hk
    have step : ∀ x : Str, nm cs k = x ++ Str.ofString "." ++ ofL [97 + k] → (ch x).head? = some 67 → (∀ d ∈ ch x, d ≠ 10 ∧ d ≠ 13 ∧ d ≠ 58 ∧ d ≠ 32) → x.length ≤ 1 + 2 * k → NmOk (nm cs k) (97 + k) ∧ (nm cs k).length ≤ 1 + 2 * (k + 1) := fun x e h1 h2 h3 => by
      have ec : ch (nm cs k) = ch x ++ [46, 97 + k] := by rw [e, ch_dot]
      have el : (nm cs k).length = x.length + 2 := by rw [len_ch, ec, len_ch x]; simp
      refine ⟨⟨⟨_, ec⟩, ?_, ?_, by omega⟩, by omega⟩
      · rw [ec]; cases hx : ch x with
        | nil => rw [hx] at h1; cases h1
        | cons a r => rw [hx] at h1; exact h1
      · intro d hd
        rw [ec] at hd
        rcases List.mem_append.mp hd with q | q
        · exact h2 d q
        · simp at q; omega
    by_cases h0 : cs.getD k 0 = 0
    · refine step _ (nm_root h0) (by rw [cC]; rfl) (fun d hd => ?_) ?_
      · rw [cC] at hd; simp at hd; omega
      · have : (Str.ofString "C").length = 1 := by decide
        omega
    · have hle := ok.le k hk
      obtain ⟨a, b⟩ := ih (cs.getD k 0 - 1) (by omega) (by omega)
      exact step _ (nm_on h0 hle) a.head a.free (by omega)
theorem nm_small {n : Nat} {cs : List Nat} (ok : CsOk n cs) (hn : n ≤ 6) : ∀ k, k < n → ∀ d ∈ ch (nm cs k), d < 200 := fun k => by
  induction k using Nat.strongRecOn with
  | _ k ih =>
    intro hk d hd
    by_cases h0 : cs.getD k 0 = 0
    · rw [nm_root h0, ch_dot, cC] at hd
      simp at hd; omega
    · have hle := ok.le k hk
      rw [nm_on h0 hle, ch_dot] at hd
      rcases List.mem_append.mp hd with q | q
      · exact ih (cs.getD k 0 - 1) (by omega) (by omega) d q
      · simp at q; omega
theorem nm_inj {n : Nat} {cs : List Nat} (ok : CsOk n cs) (hn : n ≤ 6) {i j : Nat} (hi : i < n) (hj : j < n) (e : nm cs i = nm cs j) : i = j := by
  obtain ⟨p, hp⟩ := (nm_ok ok hn i hi).1.ends
  obtain ⟨q, hq⟩ := (nm_ok ok hn j hj).1.ends
  rw [e, hq] at hp
  have h1 := congrArg List.getLast? hp
  simp at h1
  omega
theorem nm_tied {n : Nat} {cs : List Nat} (ok : CsOk n cs) (hn : n ≤ 6) (i j : Nat) (hi : i < n) (hj : j < n) : ((nm cs j ++ Str.ofString "." ++ ofL [97 + i]) == nm cs i) = (abC cs i == (j : Int)) := by
  have can : ∀ x y : Str, x ++ Str.ofString "." ++ ofL [97 + i] = y ++ Str.ofString "." ++ ofL [97 + i] → x = y := fun x y h => by
    have h' := congrArg ch h
    rw [ch_dot, ch_dot] at h'
    exact ch_inj (List.append_cancel_right h')
  have hle := ok.le i hi
  have key : nm cs j ++ Str.ofString "." ++ ofL [97 + i] = nm cs i ↔ abC cs i = (j : Int) := by
    unfold abC
    by_cases h0 : cs.getD i 0 = 0
    · refine ⟨fun h => ?_, fun h => by omega⟩
      rw [nm_root h0] at h
      have := can _ _ h
      obtain ⟨p, hp⟩ := (nm_ok ok hn j hj).1.ends
      rw [this, cC] at hp
      have := congrArg List.length hp
      simp at this
    · rw [nm_on h0 hle]
      refine ⟨fun h => ?_, fun h => ?_⟩
      · have := nm_inj ok hn hj (by omega) (can _ _ h)
        omega
      · have : cs.getD i 0 - 1 = j := by omega
        rw [this]
  by_cases h : abC cs i = (j : Int)
  · rw [beq_iff_eq.mpr (key.mpr h), beq_iff_eq.mpr h]
  · rw [beq_eq_false_iff_ne.mpr fun q => h (key.mp q), beq_eq_false_iff_ne.mpr h]
theorem mem_forests (c : Nat → Nat) : ∀ n, (∀ k, k < n → c k ≤ k) → (List.range n).map c ∈ forests n
  | 0, _ => by simp [forests]
  | n + 1, h => by
    have ih := mem_forests c n fun k hk => h k (by omega)
    rw [List.range_succ, List.map_append]
    show _ ∈ (forests n).flatMap _
    refine List.mem_flatMap.mpr ⟨_, ih, List.mem_map.mpr ⟨c n, List.mem_range.mpr ?_, rfl⟩⟩
    have := h n (by omega)
    omega
theorem CsOk.mem {n : Nat} {cs : List Nat} (ok : CsOk n cs) : cs ∈ forests n := by
  have : cs = (List.range n).map fun k => cs.getD k 0 := by
    apply List.ext_getElem?
    intro i
    by_cases hi : i < n
    · have : i < cs.length := by rw [ok.len]; exact hi
      simp [hi, List.getD, this]
    · rw [List.getElem?_eq_none (by rw [ok.len]; omega), List.getElem?_eq_none (by simp; omega)]
  rw [this]
  exact mem_forests _ n ok.le
def ordL (pl : Nat → Nat) : Nat → List Nat
  | 0 => [0]
  | k + 1 => (ordL pl k).take (pl (k + 1)) ++ [k + 1] ++ (ordL pl k).drop (pl (k + 1))
theorem ord_perm (pl : Nat → Nat) : ∀ k, (ordL pl k).Perm (List.range (k + 1))
  | 0 => .refl _
  | k + 1 => by
    have ih := ord_perm pl k
    rw [List.range_succ]
    show (((ordL pl k).take (pl (k + 1)) ++ [k + 1]) ++ (ordL pl k).drop (pl (k + 1))).Perm _
    have h1 : (((ordL pl k).take (pl (k + 1)) ++ [k + 1]) ++ (ordL pl k).drop (pl (k + 1))).Perm ((k + 1) :: ((ordL pl k).take (pl (k + 1)) ++ (ordL pl k).drop (pl (k + 1)))) := by
      rw [List.append_assoc]
      exact List.perm_middle
    rw [List.take_append_drop] at h1
    exact h1.trans ((ih.cons _).trans (List.perm_append_singleton _ _).symm)
theorem eqv_strs : ∀ a b : List Str, PyData.eqvAll (a.map PyData.str) (b.map PyData.str) = decide (a = b)
  | [], [] => rfl
  | [], _ :: _ => rfl
  | _ :: _, [] => rfl
  | x :: a, y :: b => by
    rw [List.map_cons, List.map_cons, PyData.eqvAll, eqv_strs a b]
    show (x == y && decide (a = b)) = _
    by_cases h : x = y
    · subst h; simp
    · simp [h]
theorem eqv_dStrs (a b : List Str) : PyData.eqv (dStrs a) (dStrs b) = decide (a = b) := eqv_strs a b
theorem canLay_strs : ∀ a : List Str, (∀ x ∈ a, PyData.strOk x = true) → PyData.canLayAll0 (a.map PyData.str) = true
  | [], _ => rfl
  | x :: a, h => by
    rw [List.map_cons, PyData.canLayAll0, canLay_strs a fun y hy => h y (List.mem_cons_of_mem _ hy), Bool.and_true]
    exact h x (List.mem_cons_self ..)
theorem depth_strs : ∀ a : List Str, PyData.depthAll (a.map PyData.str) = 0
  | [] => rfl
  | x :: a => by rw [List.map_cons, PyData.depthAll, depth_strs a]; rfl
theorem canLay_pages : ∀ a : List (List Str), (∀ p ∈ a, ∀ x ∈ p, PyData.strOk x = true) → PyData.canLayAll0 (a.map fun p => dStrs p) = true
  | [], _ => rfl
  | p :: a, h => by
    rw [List.map_cons, PyData.canLayAll0, canLay_pages a fun y hy => h y (List.mem_cons_of_mem _ hy), Bool.and_true]
    exact canLay_strs p (h p (List.mem_cons_self ..))
theorem depth_pages : ∀ a : List (List Str), PyData.depthAll (a.map fun p => dStrs p) ≤ 1
  | [] => by decide
  | p :: a => by
    have := depth_pages a
    have h2 := depth_strs p
    rw [List.map_cons, PyData.depthAll, PyData.depth, h2]
    omega
theorem shaped_strs {a : List Str} (h : ∀ x ∈ a, PyData.strOk x = true) : SeqAt.shaped (dStrs a) = true := by
  unfold SeqAt.shaped
  rw [PyData.canLay0, canLay_strs a h, PyData.depth, depth_strs]; rfl
theorem shaped_pages {a : List (List Str)} (h : ∀ p ∈ a, ∀ x ∈ p, PyData.strOk x = true) : SeqAt.shaped (.list (a.map fun p => dStrs p)) = true := by
  unfold SeqAt.shaped
  have := depth_pages a
  rw [PyData.canLay0, canLay_pages a h, PyData.depth, Bool.true_and, decide_eq_true_eq]
  omega
def cNat (N : List Int) (k : Nat) : Nat := if k = 0 then 0 else ((N.getD (k - 1) 0).fmod ((k : Int) + 1)).toNat
def plN (N : List Int) (k : Nat) : Nat := (((N.getD (k - 1) 0).fdiv ((k : Int) + 1)).fmod ((k : Int) + 1)).toNat
theorem fmod_nat (a : Int) (k : Nat) : ((a.fmod ((k : Int) + 1)).toNat : Int) = a.fmod ((k : Int) + 1) ∧ (a.fmod ((k : Int) + 1)).toNat ≤ k := by
  have h1 : a.fmod ((k : Int) + 1) = a % ((k : Int) + 1) := Int.fmod_eq_emod_of_nonneg _ (by omega)
  have h2 := Int.emod_nonneg a (b := (k : Int) + 1) (by omega)
  have h3 := Int.emod_lt_of_pos a (b := (k : Int) + 1) (by omega)
  rw [h1]; omega
theorem cNat_on (N : List Int) {k : Nat} (hk : 0 < k) : ((cNat N k : Nat) : Int) = (N.getD (k - 1) 0).fmod ((k : Int) + 1) := by
  unfold cNat; rw [if_neg (by omega)]; exact (fmod_nat _ k).1
theorem cNat_le (N : List Int) (k : Nat) : cNat N k ≤ k := by
  unfold cNat; split
  · omega
  · exact (fmod_nat _ k).2
def csN (N : List Int) (n : Nat) : List Nat := (List.range n).map (cNat N)
theorem csN_ok (N : List Int) (n : Nat) : CsOk n (csN N n) := ⟨by simp [csN], fun k hk => by unfold csN; rw [range_getD hk]; exact cNat_le N k⟩
theorem csN_at (N : List Int) {n k : Nat} (hk : k < n) : (csN N n).getD k 0 = cNat N k := by unfold csN; exact range_getD hk
theorem sliceL_to {α : Type} (ds : List α) (p : Nat) : sliceL ds none (some (p : Int)) = ds.take p := by
  have e : clipAt ds.length (p : Int) = min p ds.length := by unfold clipAt; rw [if_neg (by omega)]; omega
  show (ds.drop 0).take (clipAt ds.length (p : Int) - 0) = _
  rw [e, List.drop_zero, Nat.sub_zero]
  by_cases h : p ≤ ds.length
  · rw [Nat.min_eq_left h]
  · rw [Nat.min_eq_right (by omega), List.take_of_length_le (Nat.le_refl _), List.take_of_length_le (by omega)]
theorem sliceL_from {α : Type} (ds : List α) (p : Nat) : sliceL ds (some (p : Int)) none = ds.drop p := by
  have e : clipAt ds.length (p : Int) = min p ds.length := by unfold clipAt; rw [if_neg (by omega)]; omega
  show (ds.drop (clipAt ds.length (p : Int))).take (ds.length - clipAt ds.length (p : Int)) = _
  rw [e]
  by_cases h : p ≤ ds.length
  · rw [Nat.min_eq_left h, List.take_of_length_le (by rw [List.length_drop]; exact Nat.le_refl _)]
  · rw [Nat.min_eq_right (by omega), List.drop_of_length_le (Nat.le_refl _), List.drop_of_length_le (by omega)]; simp
theorem idx_nat (x : Nat) : ∀ l : List Nat, (l.map fun k : Nat => (k : Int)).idxOf (x : Int) = l.idxOf x
  | [] => rfl
  | a :: l => by
    rw [List.map_cons, List.idxOf_cons, List.idxOf_cons, idx_nat x l]
    have : ((a : Int) == (x : Int)) = (a == x) := by
      by_cases h : a = x
      · subst h; simp
      · rw [beq_eq_false_iff_ne.mpr h, beq_eq_false_iff_ne.mpr (by omega)]
    rw [this]
theorem count_nat (x : Nat) : ∀ l : List Nat, (l.map fun k : Nat => (k : Int)).count (x : Int) = l.count x
  | [] => rfl
  | a :: l => by
    rw [List.map_cons, List.count_cons, List.count_cons, count_nat x l]
    have : ((a : Int) == (x : Int)) = (a == x) := by
      by_cases h : a = x
      · subst h; simp
      · rw [beq_eq_false_iff_ne.mpr h, beq_eq_false_iff_ne.mpr (by omega)]
    rw [this]
theorem Bin.mul_int {C : Cx} {a b : Int} (h1 : -(2 ^ 64) < b) (h2 : b < 2 ^ 64) : Bin C .Mult (.int a) (.int b) (.int (a * b)) := by
  rintro s _ _ _ ⟨⟩ ⟨⟩; exact PyProof.Rows.mul_int ⟨kp_tok _ _, .int _ _⟩ (IntMulOk.of_right (intBits_le_64 h1 h2))
theorem It.to {C : Cx} {e : PySem.Expr} {ds ds' : List PyData} (h : It C e ds) (q : ds = ds') : It C e ds' := q ▸ h
theorem get_own {f : Nat → PyData} {i j : Nat} (h : j < i) : ((List.range i).map f)[((j : Nat) : Int).toNat]? = some (f j) := by simp [h]
theorem Bin.to {C : Cx} {op : Operator} {a b d d' : PyData} (h : Bin C op a b d) (q : d = d') : Bin C op a b d' := q ▸ h
/-- a stretch whose first step counts one token up (nothing is known of the tokens before) -/
def ExT (F : Fcx) (γ : Gam) (t : Sem Flow) (P : Out → Prop) : Prop :=
  ∀ W own s, Fs F W own γ { s with toks := s.toks + 1 } → wpAny (model F.prog F.w) F.A t (fun f s' => ∃ out, P out ∧ OutOk F W { s with toks := s.toks + 1 } out f s') (fun _ _ => False) s
theorem ExT.cons {F : Fcx} {γ : Gam} {P : Out → Prop} {st : Stmt} {rest : List Stmt} (h : ExT F γ (exec st F.env) (fun out => match out with | .next γ' => Ex F γ' (execs rest F.env) P | .ret d => P (.ret d))) : ExT F γ (execs (st :: rest) F.env) P := fun W own s fs =>
  wpAny_execs_cons (wp_use (h W own s fs) fun f s' ⟨out, p, q⟩ => by
    cases out with
    | next γ' =>
      obtain ⟨rfl, W', own', fs', g⟩ := q
      refine wp_use (p W' own' s' fs') fun f s'' ⟨out, p, q⟩ => ⟨out, p, ?_⟩
      cases out with
      | next γ'' => obtain ⟨e, W'', own'', fs'', g'⟩ := q; exact ⟨e, W'', own'', fs'', g.trans g'⟩
      | ret d => exact q
    | ret d =>
      obtain ⟨v, rfl, q⟩ := q
      exact ⟨_, p, v, rfl, q⟩)
theorem ExT.first {F : Fcx} {γ : Gam} {P : Out → Prop} {x : Str} {px : Pos} {i : Int} {k : Nat} {cpos : Pos} {op : Operator} {r : PySem.Expr} {pos spos : Pos} {d dr : PyData} (hr : ∀ W, Ev (F.cx W γ) r dr) (hb : ∀ W, Bin (F.cx W γ) op (.int i) dr d) (h : P (.next ((x, .sh d) :: γ)))
    (hx : stOk F.env x = true := by rfl) (hs : swapsWith (.BinOp (.Constant (.int i) k cpos) op r pos) (some (.Name x px)) spos.line F.env = pure false := by rfl) :
    ExT F γ (exec (.Assign [.Name x px] (.BinOp (.Constant (.int i) k cpos) op r pos) spos) F.env) P := fun W own s fs =>
  wpAny_Assign_Name (wpAny_BinOp (wpAny_Constant_int (wp_useT (hr W _ fs.ok) fun v₂ s₂ ht₂ ⟨k₂, r₂⟩ => wp_useT (hb W s₂ _ v₂ (fs.ok.keepsS k₂ ht₂) (.int _ _) r₂) fun v s₃ ht₃ ⟨k₃, r₃⟩ => by
    have fs₁ := fs.keeps (kp_trans k₂ k₃) (Nat.le_trans ht₂ ht₃)
    refine fs₁.store hx (.sh r₃) (fun a l y l' _ e => by cases e) fun own' h' tk b fs₂ _ _ hsb hW _ _ => ?_
    exact ⟨_, h, rfl, W, own', fs₂, (Go.ofKeeps (kp_trans k₂ k₃)).trans (Go.ofStore hsb hW (fs₁.wltS hsb hW fs₂.ok.wlt))⟩))) hs
/-- a def of one argument, a list that it only reads -/
theorem fn_ro {prog : Program} {w : World} {K : Frag} {mg mb : Str → Option Value} {n : Nat} {f : Addr} {cls : Value} {od : Option Addr} {osl : Array (Option Value)} {fd : FuncData} {body : List Stmt} {l : List PyData} {d : PyData} {x : Str}
    (hk : K.lookup f = some ⟨cls, od, .func fd, osl⟩) (hcd : codeIn K fd.code fd.qualname = true) (hbody : fd.body = .stmts body) (hclo : fd.closure = []) (hglo : fd.globals = mainGlobals) (hbui : fd.builtins = builtinsNs)
    (hbind : ∀ v : Value, bindArgs fd ⟨[v], []⟩ = pure [(x, v)]) (hkind : kindsOk fd.scope [x] = true)
    (hco : fd.scope.isCoroutine = false) (hgen : fd.scope.isGenerator = false) (hki : fd.scope.kind = .function)
    (h : ∀ (A : Around) (s₀ : Shared) (W₀ : Addr → Prop) (L : Addr), RoomA n A → ExT ⟨prog, w, K, mg, mb, A, callEnvC fd L f, s₀, W₀⟩ [(x, .ro l)] (execs body (callEnvC fd L f)) (fun out => out = .ret d))
    {A : Around} {s : Shared} {W : Addr → Prop} {a : Addr} {vs : List Value} (hr : RoomA (n + 1) A) (hg : GH K mg mb s.heap) (hw : ∀ a, W a → ∃ o, s.heap.get? a = some o) (hl : s.heap.IsList a (List.toArray vs)) (hvs : RepL W s.heap vs l) (hWa : ¬ W a) :
    wpAny (model prog w) A (call (.ref f) [.ref a]) (fun v s' => Keeps s s' ∧ Rep W s'.heap v d) (fun _ _ => False) s := by
  have kz : ∀ p ∈ [(x, Value.ref a)], fd.scope.names.lookup p.1 = some .local ∨ (fd.scope.names.lookup p.1 = some .cell ∧ ∀ n, ((cellsFrom n fd.scope.names []).lookup p.1).isSome = true) := fun p hp => by
    rw [List.mem_singleton.mp hp]; exact kindsOk_get hkind x (.head _)
  refine wpAny_call (call_cellsT (binds := [(x, Value.ref a)]) (by have := hr.2.1; show _ < 1000; omega) (hg.k _ _ hk) rfl hg.lim (codeRec_of hg.k hcd) hbody (hbind _) hclo (fun y hy => (kz y hy).imp id fun q => ⟨q.1, q.2 _⟩) (fun s₁ ht I => ?_) hco hgen hki)
  have fs := fs_start (prog := prog) (w := w) (A := A.deeper (callEnvC fd s.heap.objs.size f)) (γ := [(x, .ro l)]) hg (Nat.le_add_left 1 s₁.toks) hw hglo hbui hki (I.tok _) fun y sl e => by
    rw [List.lookup_cons] at e
    cases hb : y == x with
    | true =>
      rw [hb] at e; cases e
      have := beq_iff_eq.mp hb; subst this
      exact .inr ⟨l, a, vs, rfl, bound_start (by simp) I kz (.head _), hl, hvs, hWa⟩
    | false => rw [hb] at e; cases e
  refine wp_use (h (A.deeper _) s W s.heap.objs.size hr.deeper _ _ s₁ fs) fun fl s' ⟨out, p, q⟩ => ?_
  subst p
  obtain ⟨v, rfl, k, r⟩ := q
  exact ⟨k, r⟩
end Mine
end

section
open PySem PySem.Calls PySem.W PyProof.Rows
set_option maxRecDepth 100000
set_option linter.unusedVariables false
namespace Mine
open PySem.StrLaws PySem.Builtin PySem.Builtin.Str

theorem at5 {x : Str} {i : Nat} : At x "\r\nx\r\n" x.length i ↔ (List.drop i (ch x)).take 5 = [13, 10, 120, 13, 10] := by
  have e : ch (Str.ofString "\r\nx\r\n") = [13, 10, 120, 13, 10] := by decide
  have el : (Str.ofString "\r\nx\r\n").length = 5 := by decide
  unfold At
  rw [subAt_eq, el, show (Str.ofString "\r\nx\r\n").cps.toList = [13, 10, 120, 13, 10] from e, len_ch]
  show _ ∧ ((List.drop i (ch x)).take 5 == [13, 10, 120, 13, 10]) = true ↔ _
  rw [beq_iff_eq]
  refine ⟨fun h => h.2, fun h => ⟨?_, h⟩⟩
  have := congrArg List.length h
  rw [List.length_take, List.length_drop] at this
  have h5 : ([13, 10, 120, 13, 10] : List Nat).length = 5 := rfl
  rw [h5] at this
  omega

theorem split_once {x : Str} {q : List Nat} (hx : ch x = q ++ [13, 10, 120, 13, 10]) (hq : 13 ∉ q) : Txt.split x "\r\nx\r\n" = [ofL q, ofL []] ∧
    (partsBetween x (occurrences x "\r\nx\r\n" 0 x.length (x.length + 1)) (Str.ofString "\r\nx\r\n").length).length = 2 := by
  have el : (Str.ofString "\r\nx\r\n").length = 5 := by decide
  have hlen : (ch x).length = q.length + 5 := by rw [hx, List.length_append]; rfl
  obtain ⟨f, h1, h2⟩ := occ_tight x "\r\nx\r\n" (by rw [el]; omega)
  have hat : At x "\r\nx\r\n" x.length q.length := by rw [at5, hx, List.drop_append]; simp
  have hno : ∀ k, k < q.length → ¬ At x "\r\nx\r\n" x.length k := fun k hk h => by
    rw [at5] at h
    have a1 : ((List.drop k (ch x)).take 5)[0]? = some 13 := by rw [h]; rfl
    rw [List.getElem?_take_of_lt (by omega), List.getElem?_drop, hx, List.getElem?_append_left (by omega)] at a1
    exact hq (List.mem_of_getElem? a1)
  have hno2 : ∀ k, q.length + 5 ≤ k → ¬ At x "\r\nx\r\n" x.length k := fun k hk h => by
    rw [at5, List.drop_of_length_le (by omega)] at h
    cases h
  have key : partsBetween x (occurrences x "\r\nx\r\n" 0 x.length (x.length + 1)) (Str.ofString "\r\nx\r\n").length = [ofL q, ofL []] := by
    rw [partsBetween_eq, el]
    generalize occurrences x "\r\nx\r\n" 0 x.length (x.length + 1) = cuts at h1
    cases cuts with
    | nil =>
      have e : f = 0 := h1
      exact absurd hat (h2 _ (by omega))
    | cons c cs =>
      obtain ⟨g1, g2, g3, g4⟩ := h1
      have ec : c = q.length := by
        rcases Nat.lt_trichotomy c q.length with h | h | h
        · exact absurd g2 (hno c h)
        · exact h
        · exact absurd hat (g3 _ (Nat.zero_le _) h)
      subst ec
      cases cs with
      | nil =>
        show [strSub x 0 q.length, strSub x (q.length + 5) x.length] = _
        rw [sub_ch, sub_ch, hx]
        simp
      | cons c2 cs2 =>
        obtain ⟨k1, k2, _⟩ := g4
        rw [el] at k1
        exact absurd k2 (hno2 c2 k1)
  refine ⟨?_, by rw [key]; rfl⟩
  have hk : 1 ≤ Str.strKind x := by unfold Str.strKind; split <;> (try split) <;> omega
  unfold Txt.split
  rw [if_neg, if_neg, key]
  · intro he
    have h3 := List.isEmpty_iff.mp he
    rw [h3] at key
    have := congrArg List.length key
    simp [partsBetween] at this
  · rw [el]
    have : Str.strKind (Str.ofString "\r\nx\r\n") = 1 := by decide +kernel
    rw [this, len_ch, hlen]; simp; omega
end Mine
end

section
open PySem PySem.W PyProof.Rows
set_option maxRecDepth 100000
set_option maxHeartbeats 0
namespace Mine
open_top hd for PySem.Challenge.rw_rl0019_02
end Mine
end

section
open PySem PySem.Calls PySem.W PyProof.Rows
set_option maxRecDepth 100000
set_option linter.unusedVariables false
namespace Mine
noncomputable abbrev K2 (w : World) : Frag := Mine.hd.heap_39 w.params
abbrev pr2 : Program := PySem.Challenge.pw_rl0019_02
/-- what the names of the top hold -/
structure NB (mg mb : Str → Option Value) : Prop where
  len : mg "len" = none ∧ mb "len" = some (.builtin "len")
  range : mg "range" = none ∧ mb "range" = some (.type "range")
  min : mg "min" = none ∧ mb "min" = some (.builtin "min")
  sum : mg "sum" = none ∧ mb "sum" = some (.builtin "sum")
  max : mg "max" = none ∧ mb "max" = some (.builtin "max")
  sorted : mg "sorted" = none ∧ mb "sorted" = some (.builtin "sorted")
theorem strip_padding_ok {w : World} {mg mb : Str → Option Value} (nb : NB mg mb) {x : Str} {n : Nat} (hx : ∀ i, i < n → x.cps[i]? = some 32) (hn : n ≤ x.length) (hsz : x.length ≤ 2 ^ 20) :
    FnOk pr2 w (K2 w) mg mb 2 38 [.str x, .int n] (.str (Txt.slice x (some n) (some x.length))) := by
  refine fn_of (xs := ["s", "amount"]) (by rfl) (by kernel_rfl) rfl rfl rfl rfl ?_ rfl (by decide) rfl rfl rfl rfl ?_
  · intro vs hv
    match vs, hv with
    | [a, b], _ => rfl
  intro A s₀ W₀ L hr
  have e0 : ∀ i : Nat, i < n → (i : Int) < 2 ^ 63 := fun i hi => by
    have : x.length ≤ 1048576 := hsz
    omega
  have hl : x.length ≤ 1048576 := hsz
  refine Ex.cons (Ex.assign (fun W => Ev.int) ?_)
  refine Ex.cons (Ex.whileG (fun i => [("s", .sh (.str x)), ("amount", .sh (.int (n - i))), ("lpos", .sh (.int i))]) n ?_ ?_ ?_ ?_ ?_)
  · exact Fewer.get (.cons rfl (.int rfl (by simp) (.int rfl (by simp) .nil)))
  · intro i hi W
    refine Tr.and2 (b₁ := true) (b₂ := true) ?_ fun _ => ?_
    · have e : (((n : Int) - i) != 0) = true := by simp; omega
      exact e ▸ Tr.plain (Ev.name rfl) TruV.int
    · have e : ((⟨#[32]⟩ : Str) == Str.ofString " ") = true := by decide
      exact e ▸ Tr.cmp (Ev.sub (Ev.name rfl) (Ev.name rfl) (Item.str (by omega) (e0 i hi) (by simpa using hx i hi))) Ev.str Cmp.eq_str
  · intro W
    have e : (((n : Int) - n) != 0) = false := by simp
    exact Tr.and2 (b₁ := false) (b₂ := false) (e ▸ Tr.plain (Ev.name rfl) TruV.int) fun h => by cases h
  · intro i hi
    refine Ex.cons (Ex.aug rfl (fun W => Ev.int) (fun W => Aug.add_int) ?_)
    refine Ex.cons (Ex.aug rfl (fun W => Ev.int) (fun W => Aug.sub_int) ?_)
    exact Ex.nil ⟨_, rfl, Fewer.get (.cons rfl (.int rfl (by push_cast; omega) (.int rfl (by push_cast; omega) .nil)))⟩
  · refine Ex.cons (Ex.assign (fun W => Ev.bin (Ev.callB rfl (.inr nb.len) (EvL.cons (Ev.name rfl) EvL.nil) (Bi.len_str (by omega))) Ev.int Bin.sub_int) ?_)
    refine Ex.cons (Ex.whileG (fun i => [("s", .sh (.str x)), ("lpos", .sh (.int n)), ("rpos", .sh (.int (x.length - 1))), ("amount", .sh (.int (n - n)))]) 0 ?_ ?_ ?_ ?_ ?_)
    · exact Fewer.get (.cons rfl (.cons rfl (.cons rfl (.cons rfl .nil))))
    · intro i hi; omega
    · intro W
      have e : (((n : Int) - n) != 0) = false := by simp
      exact Tr.and2 (b₁ := false) (b₂ := false) (e ▸ Tr.plain (Ev.name rfl) TruV.int) fun h => by cases h
    · intro i hi; omega
    · refine Ex.cons (Ex.ret (d := .str (Txt.slice x (some n) (some (x.length - 1 + 1)))) (fun W => Ev.slice_str (Ev.name rfl) (.some (Ev.name rfl)) (.some (Ev.bin (Ev.name rfl) Ev.int Bin.add_int)) (by rw [sizeLine_eq]; omega)) ?_)
      rw [show ((x.length : Int) - 1 + 1) = x.length by omega]
theorem build_ok {w : World} {mg mb : Str → Option Value} {x y : Str} (h : x.length + 1 + y.length ≤ 2 ^ 20) :
    FnOk pr2 w (K2 w) mg mb 2 45 [.tuple [.str x, .str y]] (.str (x ++ "." ++ y)) := by
  refine fn_of (xs := ["localetuple"]) (by rfl) (by kernel_rfl) rfl rfl rfl rfl ?_ rfl (by decide) rfl rfl rfl rfl ?_
  · intro vs hv
    match vs, hv with
    | [a], _ => rfl
  intro A s₀ W₀ L hr
  have h' : x.length + 1 + y.length ≤ 1048576 := h
  have h1 : (Str.ofString ".").length = 1 := by decide
  refine Ex.cons (Ex.try_ ?_)
  refine Ex.cons (Ex.assignT [("language", _), ("encoding", _)] rfl (EvT.ev fun W => Ev.name rfl) rfl ?_ hr.1)
  refine Ex.cons (Ex.ifS (b := false) (fun W => Tr.cmp (Ev.name rfl) Ev.noneC Cmp.is_str_none) (fun h => by cases h) fun _ => Ex.nil ?_)
  refine Ex.cons (Ex.ifS (b := false) (fun W => Tr.cmp (Ev.name rfl) Ev.noneC Cmp.is_str_none) (fun h => by cases h) fun _ => ?_)
  refine Ex.cons (Ex.ret (fun W => Ev.bin (Ev.bin (Ev.name rfl) Ev.str (Bin.add_str (by rw [sizeLine_eq, h1]; omega))) (Ev.name rfl) (Bin.add_str (by rw [Str.length_append, sizeLine_eq, h1]; omega))) rfl)
theorem build_none_ok {w : World} {mg mb : Str → Option Value} {y : Str} (h : 2 + y.length ≤ 2 ^ 20) :
    FnOk pr2 w (K2 w) mg mb 2 45 [.tuple [.none, .str y]] (.str ("C" ++ "." ++ y)) := by
  refine fn_of (xs := ["localetuple"]) (by rfl) (by kernel_rfl) rfl rfl rfl rfl ?_ rfl (by decide) rfl rfl rfl rfl ?_
  · intro vs hv
    match vs, hv with
    | [a], _ => rfl
  intro A s₀ W₀ L hr
  have h' : 2 + y.length ≤ 1048576 := h
  have h1 : (Str.ofString ".").length = 1 := by decide
  have h2 : (Str.ofString "C").length = 1 := by decide
  refine Ex.cons (Ex.try_ ?_)
  refine Ex.cons (Ex.assignT [("language", _), ("encoding", _)] rfl (EvT.ev fun W => Ev.name rfl) rfl ?_ hr.1)
  refine Ex.cons (Ex.ifS (b := true) (fun W => Tr.cmp (Ev.name rfl) Ev.noneC Cmp.is_none_none) (fun _ => Ex.cons (Ex.assign (fun W => Ev.str) (Ex.nil ?_))) fun h => by cases h)
  refine Ex.cons (Ex.ifS (b := false) (fun W => Tr.cmp (Ev.name rfl) Ev.noneC Cmp.is_str_none) (fun h => by cases h) fun _ => ?_)
  refine Ex.cons (Ex.ret (fun W => Ev.bin (Ev.bin (Ev.name rfl) Ev.str (Bin.add_str (by rw [sizeLine_eq, h1, h2]; omega))) (Ev.name rfl) (Bin.add_str (by rw [Str.length_append, sizeLine_eq, h1, h2]; omega))) rfl)
theorem sed_ok {w : World} {mg mb : Str → Option Value} (nb : NB mg mb) {x : Str} {p q : Nat} (hsz : x.length ≤ 2 ^ 20) (hf : Txt.find x "\n" = -1) (hp : findIn x ":" 0 x.length = p) (hq : rfindIn x "." 0 p = q) :
    FnOk pr2 w (K2 w) mg mb 2 52 [.str x] (.str (Txt.slice x (some (q + 1)) (some p))) := by
  refine fn_of (xs := ["msg"]) (by rfl) (by kernel_rfl) rfl rfl rfl rfl ?_ rfl (by decide) rfl rfl rfl rfl ?_
  · intro vs hv
    match vs, hv with
    | [a], _ => rfl
  intro A s₀ W₀ L hr
  have hl : x.length ≤ 1048576 := hsz
  refine Ex.cons (Ex.assignTS ["start", "end"] (EvT.display (EvX.sh (fun W => Ev.int) (EvX.sh (fun W => Ev.callB rfl (.inr nb.len) (EvL.cons (Ev.name rfl) EvL.nil) (Bi.len_str (by omega))) EvX.nil)) (by decide) (by simp)) rfl ?_ hr.1)
  refine Ex.cons (Ex.assign (fun W => Ev.meth (Ev.name rfl) (GMeth.str F.slot_str_find F.type_str_find) (EvL.cons Ev.str EvL.nil) Bi.find) ?_)
  refine Ex.cons (Ex.ifS (b := false) (fun W => (Tr.cmp (Ev.name rfl) Ev.int Cmp.ge_int).to (by rw [hf]; rfl)) (fun h => by cases h) fun _ => Ex.nil ?_)
  refine Ex.cons (Ex.assign (fun W => Ev.meth (Ev.name rfl) (GMeth.str F.slot_str_find F.type_str_find) (EvL.cons Ev.str (EvL.cons Ev.int (EvL.cons (Ev.name rfl) EvL.nil))) Bi.find4) ?_)
  refine Ex.cons (Ex.ifS (b := true) (fun W => (Tr.cmp (Ev.name rfl) Ev.int Cmp.ge_int).to (by rw [hp]; simp)) (fun _ => Ex.cons (Ex.assign (fun W => Ev.name rfl) (Ex.nil ?_))) fun h => by cases h)
  rw [hp]
  refine Ex.cons (Ex.assign (fun W => Ev.meth (Ev.name rfl) (GMeth.str F.slot_str_rfind F.type_str_rfind) (EvL.cons Ev.str (EvL.cons Ev.int (EvL.cons (Ev.name rfl) EvL.nil))) Bi.rfind4) ?_)
  refine Ex.cons (Ex.ifS (b := true) (fun W => (Tr.cmp (Ev.name rfl) Ev.int Cmp.ge_int).to (by rw [hq]; simp)) (fun _ => Ex.cons (Ex.assign (fun W => Ev.bin (Ev.name rfl) Ev.int Bin.add_int) (Ex.nil ?_))) fun h => by cases h)
  rw [hq]
  exact Ex.cons (Ex.ret (fun W => Ev.slice_str (Ev.name rfl) (.some (Ev.name rfl)) (.some (Ev.name rfl)) (by rw [sizeLine_eq]; omega)) rfl)
structure NF (mg : Str → Option Value) : Prop where
  pad : mg "_strip_padding" = some (.ref 38)
  build : mg "_build_localename" = some (.ref 45)
  sed : mg "_strip_exception_details" = some (.ref 52)
  re1 : mg "_twin_re_1" = some (.ref 57)
  re2 : mg "_twin_re_2" = some (.ref 62)
  crlf : mg "CRLF" = some (.str "\r\n" 375)
  quote : mg "quotedata" = some (.ref 69)
  behind : mg "_law_behind" = some (.ref 76)
  sent : mg "_law_sent" = some (.ref 83)
  page : mg "_law_page" = some (.ref 88)
  reached : mg "_law_reached" = some (.ref 93)
  worth : mg "_law_worth" = some (.ref 100)
theorem pat1 (w : World) : PatAt (K2 w) 57 56 code1 := ⟨⟨_, _, _, _, _, by rfl⟩, ⟨_, _, _, _, by rfl, by decide +kernel⟩⟩
theorem pat2 (w : World) : PatAt (K2 w) 62 61 code2 := ⟨⟨_, _, _, _, _, by rfl⟩, ⟨_, _, _, _, by rfl, by decide +kernel⟩⟩
theorem quotedata_ok {w : World} {mg mb : Str → Option Value} (nf : NF mg) {x : Str} (h : x.length ≤ 2 ^ 18) :
    FnOk pr2 w (K2 w) mg mb 2 69 [.str x] (.str (ofL (ddL true (nlL (ch x))))) := by
  refine fn_of (xs := ["data"]) (by rfl) (by kernel_rfl) rfl rfl rfl rfl ?_ rfl (by decide) rfl rfl rfl rfl ?_
  · intro vs hv
    match vs, hv with
    | [a], _ => rfl
  intro A s₀ W₀ L hr
  have hl : (ch x).length ≤ 262144 := by rw [← len_ch]; exact h
  have e2 : ((pieces f2 x.cps "\r\n" (x.length + 1) 0).map ch).flatten = nlL (ch x) := pieces2 x.cps _ 0 (by show x.cps.size - 0 < x.cps.size + 1; omega) (Nat.zero_le _)
  have l2 := nlL_len _ (ch x) (Nat.le_refl _)
  generalize hy : Txt.join "" (pieces f2 x.cps "\r\n" (x.length + 1) 0) = y
  have ey : ch y = nlL (ch x) := by rw [← hy, tjoin0, e2]
  have e1 : ((pieces f1 y.cps ".." (y.length + 1) 0).map ch).flatten = ddL true (ch y) := pieces1 y.cps _ 0 (by show y.cps.size - 0 < y.cps.size + 1; omega) (Nat.zero_le _)
  have l1 := ddL_len (ch y) true
  have ly : y.length ≤ 524288 := by rw [len_ch, ey]; omega
  have l1' : (ddL true (ch y)).length ≤ 1048576 := by rw [len_ch] at ly; omega
  refine Ex.cons (Ex.ret (fun W => (Ev.reSub rfl nf.re1 (pat1 w) seeks1 (EvL.cons Ev.str (EvL.cons ((Ev.reSub rfl nf.re2 (pat2 w) seeks2 (EvL.cons (Ev.gstr rfl (.inl nf.crlf)) (EvL.cons (Ev.name rfl) EvL.nil)) (by show x.length ≤ 1048576; rw [len_ch]; omega) (by decide +kernel) (joinOk0 (by rw [e2]; show _ ≤ 16777216; omega))).to (by rw [hy])) EvL.nil))
    (by show y.length ≤ 1048576; omega) (by decide +kernel) (joinOk0 (by rw [e1]; show _ ≤ 16777216; omega))).to (by rw [ch_inj (x := Txt.join "" (pieces f1 y.cps ".." (y.length + 1) 0)) (y := ofL (ddL true (nlL (ch x)))) (by rw [tjoin0, e1, ey, ch_ofL])])) rfl)
end Mine
end

section
open PySem PySem.Calls PySem.W PyProof.Rows
set_option maxRecDepth 100000
set_option linter.unusedVariables false
namespace Mine
open PySem.StrLaws PySem.Builtin PySem.Builtin.Str

theorem behind_ok {w : World} {mg mb : Str → Option Value} (nb : NB mg mb) (nf : NF mg) {name other : Str} {pre : List Nat} {c : Nat} (hr : ch name = pre ++ [46, c]) (hp : 10 ∉ pre ∧ 58 ∉ pre) (hc : c ≠ 10 ∧ c ≠ 58 ∧ c ≠ 46) (h1 : name.length ≤ 2 ^ 10) (h2 : other.length ≤ 2 ^ 10) :
    FnOk pr2 w (K2 w) mg mb 3 76 [.str name, .str other] (.bool ((other ++ "." ++ ofL [c]) == name)) := by
  refine fn_of (xs := ["name", "other"]) (by rfl) (by kernel_rfl) rfl rfl rfl rfl ?_ rfl (by decide) rfl rfl rfl rfl ?_
  · intro vs hv
    match vs, hv with
    | [a, b], _ => rfl
  intro A s₀ W₀ L hroom
  have h1' : name.length ≤ 1024 := h1
  have h2' : other.length ≤ 1024 := h2
  obtain ⟨s1, s2, s3, s4⟩ := sed_text hr hp hc
  have l5 : (Str.ofString ": x.y").length = 5 := by decide
  have lx : (name ++ Str.ofString ": x.y").length ≤ 2 ^ 20 := by rw [Str.length_append, l5]; show _ ≤ 1048576; omega
  refine Ex.cons (Ex.ret (fun W => Ev.cmp (Ev.callF rfl nf.build rfl (EvL.cons (Ev.tupled (EvL.cons (Ev.name rfl) (EvL.cons ((Ev.callF rfl nf.sed rfl (EvL.cons (Ev.bin (Ev.name rfl) Ev.str (Bin.add_str (by rw [sizeLine_eq, l5]; omega))) EvL.nil) (sed_ok nb lx s1 s2 s3) hroom).to (by rw [s4])) EvL.nil)) (by rw [sizeLine_eq]; show 2 ≤ 16777216; omega)) EvL.nil) (build_ok (by show _ ≤ 1048576; have : (ofL [c]).length = 1 := rfl; omega)) hroom)
    (Ev.name rfl) Cmp.eq_str) rfl)

/-- a standing's page -/
def pgL (n : Nat) (nm : Nat → Str) (d : List Nat) : List Str := (List.range n).map fun k => rowOf (d.getD k 0) (nm k)
def dL (d : List Nat) : PyData := dInts (d.map fun x : Nat => (x : Int))
theorem get_dL {d : List Nat} {k : Nat} (h : k < d.length) : ((d.map fun x : Nat => (x : Int)).map PyData.int)[((k : Nat) : Int).toNat]? = some (.int (d.getD k 0 : Nat)) := by
  simp [h]

theorem page2_ok {w : World} {mg mb : Str → Option Value} (nb : NB mg mb) {n : Nat} {d : List Nat} {nm : Nat → Str} (hn : n ≤ 100) (hd : d.length = n) (hl : ∀ k, k < n → d.getD k 0 ≤ 100) (hnm : ∀ k, k < n → (nm k).length ≤ 100) :
    FnOk pr2 w (K2 w) mg mb 2 88 [dL d, dStrs ((List.range n).map nm)] (dStrs (pgL n nm d)) := by
  refine fn_of (xs := ["dots", "names"]) (by rfl) (by kernel_rfl) rfl rfl rfl rfl ?_ rfl (by decide) rfl rfl rfl rfl ?_
  · intro vs hv
    match vs, hv with
    | [a, b], _ => rfl
  intro A s₀ W₀ L hroom
  refine Ex.cons (Ex.ret (fun W => ((EvN.comp (ys := List.range n) (g := fun k : Nat => PyData.int k) (p := fun _ => true) (f := fun k => .str (rowOf (d.getD k 0) (nm k))) (It.range1 (n := n) rfl (.inr nb.range) ((Ev.callB rfl (.inr nb.len) (EvL.cons (Ev.name rfl) EvL.nil) (Bi.len_list (by simp; omega))).to (by simp)) (by omega) hroom.1) (by simp [sizeLine_eq]; omega)
    (fun k hk W' c => TrL.nil) (fun k hk _ W' c => ?_)).ev).to ?_) rfl)
  · have hk' : k < n := List.mem_range.mp hk
    have h1 := hl k hk'
    have h2 := hnm k hk'
    refine (Ev.bin (Ev.bin Ev.str (Ev.sub (Ev.name rfl) (Ev.name rfl) (Item.list (by omega) (by omega) (get_dL (by omega)))) (Bin.mul_str (mulOk_dot h1))) (Ev.sub (Ev.name rfl) (Ev.name rfl) (Item.list (by omega) (by omega) (get_strs (f := nm) hk'))) (Bin.add_str ?_)).to (by rw [row_cat])
    rw [mul_dot, sizeLine_eq]
    have : (ofL (List.replicate (d.getD k 0) 46)).length = d.getD k 0 := by rw [len_ch, ch_ofL]; simp
    omega
  · rw [filter_all]
    unfold dStrs pgL
    rw [List.map_map]; rfl

theorem sent_ok {w : World} {mg mb : Str → Option Value} (nb : NB mg mb) (nf : NF mg) {m t c : Nat} {x e : Str} (hx : NmOk x c) (hm : 1 ≤ m) (hmt : m + t ≤ 50) (he : IsEnd (ch e)) :
    FnOk pr2 w (K2 w) mg mb 3 83 [.str (rowOf m x), .int t, .str e] (.str (rowOf (m + t) x)) := by
  refine fn_of (xs := ["row", "times", "end"]) (by rfl) (by kernel_rfl) rfl rfl rfl rfl ?_ rfl (by decide) rfl rfl rfl rfl ?_
  · intro vs hv
    match vs, hv with
    | [a, b, c], _ => rfl
  intro A s₀ W₀ L hroom
  have hel : (ch e).length ≤ 2 := by
    generalize ch e = l at he
    cases he <;> decide
  have le : e.length ≤ 2 := by rw [len_ch]; exact hel
  have l1 : (Str.ofString "x").length = 1 := by decide
  have c1 : ch (Str.ofString "x") = [120] := by decide
  have lx := hx.len
  refine Ex.cons (Ex.forI (ks := (List.range t).map fun i : Nat => (i : Int)) (fun i => [("end", .sh (.str e)), ("row", .sh (.str (rowOf (m + i) x)))])
    (fun W => (It.range1 (n := t) rfl (.inr nb.range) (Ev.name rfl) (by omega) hroom.1).to (by rw [List.map_map]; rfl)) ?_ ?_ ?_)
  · exact Fewer.get (.cons rfl (.cons rfl .nil))
  · intro i k hki
    have hi : i < t := by
      have := (List.getElem?_eq_some_iff.mp hki).1
      simpa using this
    have lr : (rowOf (m + i) x).length ≤ 150 := by rw [row_len]; omega
    have free : Free (ch (rowOf (m + i) x)) := fun d hd => by
      have hd' : d ∈ List.replicate (m + i) 46 ++ ch x := hd
      rcases List.mem_append.mp hd' with q | q
      · have := (List.mem_replicate.mp q).2; omega
      · have := hx.free d q; exact ⟨this.1, this.2.1⟩
    have hy : ch (rowOf (m + i) x ++ e ++ Str.ofString "x" ++ e) = (([ch (rowOf (m + i) x), [120]]).map (· ++ ch e)).flatten := by
      rw [ch_app, ch_app, ch_app, c1]; simp
    have hq : ddL true (nlL (ch (rowOf (m + i) x ++ e ++ Str.ofString "x" ++ e))) = ch (rowOf (m + (i + 1)) x) ++ [13, 10, 120, 13, 10] := by
      rw [hy, sent_rows he _ (by
        intro r hr
        rcases List.mem_cons.mp hr with q | q
        · rw [q]; exact free
        · rw [List.mem_singleton.mp q]; intro d hd; have := List.mem_singleton.mp hd; omega)]
      have e1 : quo (ch (rowOf (m + i) x)) = ch (rowOf (m + (i + 1)) x) := by
        obtain ⟨m', hm'⟩ : ∃ m', m + i = m' + 1 := ⟨m + i - 1, by omega⟩
        show quo (List.replicate (m + i) 46 ++ ch x) = List.replicate (m + (i + 1)) 46 ++ ch x
        rw [show m + (i + 1) = m' + 1 + 1 by omega, hm']
        simp only [List.replicate_succ, List.cons_append, quo]
        rfl
      have e2 : quo [120] = [120] := rfl
      simp only [List.map_cons, List.map_nil, e1, e2]
      simp
    have ly : (rowOf (m + i) x ++ e ++ Str.ofString "x" ++ e).length ≤ 200 := by
      rw [Str.length_append, Str.length_append, Str.length_append, l1]; omega
    have h13 : 13 ∉ ch (rowOf (m + (i + 1)) x) := fun hd => by
      have hd' : 13 ∈ List.replicate (m + (i + 1)) 46 ++ ch x := hd
      rcases List.mem_append.mp hd' with q | q
      · have := (List.mem_replicate.mp q).2; omega
      · exact (hx.free 13 q).2.1 rfl
    obtain ⟨sp1, sp2⟩ := split_once (x := ofL (ddL true (nlL (ch (rowOf (m + i) x ++ e ++ Str.ofString "x" ++ e))))) (q := ch (rowOf (m + (i + 1)) x)) (by rw [ch_ofL, hq]) h13
    have lo : (ofL (ddL true (nlL (ch (rowOf (m + i) x ++ e ++ Str.ofString "x" ++ e))))).length ≤ 300 := by
      rw [len_ch, ch_ofL, hq, List.length_append, ← len_ch, row_len]
      show m + (i + 1) + x.length + 5 ≤ 300
      omega
    refine Ex.cons (Ex.assign (d := .str (rowOf (m + (i + 1)) x)) (fun W => Ev.sub (Ev.meth (Ev.callF rfl nf.quote rfl (EvL.cons (Ev.bin (Ev.bin (Ev.bin (Ev.name rfl) (Ev.name rfl) (Bin.add_str (by rw [sizeLine_eq]; omega))) Ev.str (Bin.add_str (by rw [sizeLine_eq, Str.length_append, l1]; omega))) (Ev.name rfl) (Bin.add_str (by rw [sizeLine_eq, Str.length_append, Str.length_append, l1]; omega))) EvL.nil) (quotedata_ok nf (by show _ ≤ 262144; omega)) hroom)
      (GMeth.str F.slot_str_split F.type_str_split) (EvL.cons Ev.str EvL.nil) (Bi.split (by decide) (by rw [sizeLine_eq]; omega) (by rw [sp2, sizeLine_eq]; omega))) Ev.int (Item.list (by decide) (by decide) (by rw [sp1]; show some (PyData.str (ofL (ch _))) = _; rw [ofL_ch]))) ?_)
    exact Ex.nil ⟨_, rfl, Fewer.get (.cons rfl (.cons rfl .nil))⟩
  rw [List.length_map, List.length_range]
  exact Ex.cons (Ex.ret (fun W => Ev.name rfl) rfl)
end Mine
end

section
set_option linter.unusedVariables false
set_option maxRecDepth 100000
namespace Mine

/-! ## the search of _law_reached, in plain words: a standing is the list of its labels -/
def okSw (n : Nat) (sg : Nat → Nat → Bool) (d : List Nat) (lo hi : Nat) : Bool := ((d.getD hi 0 == d.getD lo 0 + 1) || (d.getD hi 0 == d.getD lo 0 + (n - 1))) && !sg lo hi
def swp (d : List Nat) (lo hi : Nat) : List Nat := (d.set lo (d.getD hi 0)).set hi (d.getD lo 0)
def vis (n : Nat) (sg : Nat → Nat → Bool) (d : List Nat) (lo : Nat) (acc : List (List Nat)) (hi : Nat) : List (List Nat) := if (okSw n sg d lo hi && !acc.contains (swp d lo hi)) = true then acc ++ [swp d lo hi] else acc
def rowF (n : Nat) (sg : Nat → Nat → Bool) (d : List Nat) (lo : Nat) (acc : List (List Nat)) (j : Nat) : List (List Nat) := (List.range j).foldl (vis n sg d lo) acc
def colF (n : Nat) (sg : Nat → Nat → Bool) (d : List Nat) (acc : List (List Nat)) (i : Nat) : List (List Nat) := (List.range i).foldl (fun acc lo => rowF n sg d lo acc n) acc
def st (n : Nat) (sg : Nat → Nat → Bool) (d0 : List Nat) : Nat → List (List Nat)
  | 0 => [d0]
  | t + 1 => colF n sg ((st n sg d0 t).getD t []) (st n sg d0 t) n

section
variable {n : Nat} {sg : Nat → Nat → Bool} {d d0 : List Nat} {lo hi : Nat} {acc : List (List Nat)}
theorem rowF_succ (j : Nat) : rowF n sg d lo acc (j + 1) = vis n sg d lo (rowF n sg d lo acc j) j := by
  unfold rowF; rw [List.range_succ, List.foldl_append]; rfl
theorem colF_succ (i : Nat) : colF n sg d acc (i + 1) = rowF n sg d i (colF n sg d acc i) n := by
  unfold colF; rw [List.range_succ, List.foldl_append]; rfl
theorem rowF_ind {J : List (List Nat) → Prop} (h0 : J acc) (hs : ∀ a hi, hi < n → J a → J (vis n sg d lo a hi)) : ∀ j, j ≤ n → J (rowF n sg d lo acc j)
  | 0, _ => h0
  | j + 1, h => by rw [rowF_succ]; exact hs _ j (by omega) (rowF_ind h0 hs j (by omega))
theorem colF_ind {J : List (List Nat) → Prop} (h0 : J acc) (hs : ∀ a lo hi, lo < n → hi < n → J a → J (vis n sg d lo a hi)) : ∀ i, i ≤ n → J (colF n sg d acc i)
  | 0, _ => h0
  | i + 1, h => by rw [colF_succ]; exact rowF_ind (colF_ind h0 hs i (by omega)) (fun a hi h2 => hs a i hi (by omega) h2) n (Nat.le_refl _)
theorem rowF_len : ∀ j, (rowF n sg d lo acc j).length ≤ acc.length + j
  | 0 => Nat.le_refl _
  | j + 1 => by
    rw [rowF_succ]
    have := rowF_len j
    unfold vis
    split
    · rw [List.length_append, List.length_singleton]; omega
    · omega
theorem colF_len : ∀ i, (colF n sg d acc i).length ≤ acc.length + i * n
  | 0 => by rw [Nat.zero_mul]; exact Nat.le_refl _
  | i + 1 => by
    rw [colF_succ]
    have h1 := colF_len i
    have h2 := rowF_len (n := n) (sg := sg) (d := d) (lo := i) (acc := colF n sg d acc i) n
    rw [Nat.succ_mul]; omega
theorem st_len : ∀ t, (st n sg d0 t).length ≤ 1 + t * (n * n)
  | 0 => by rw [Nat.zero_mul]; exact Nat.le_refl _
  | t + 1 => by
    have h1 := st_len t
    have h2 := colF_len (n := n) (sg := sg) (d := (st n sg d0 t).getD t []) (acc := st n sg d0 t) n
    show (colF n sg _ _ n).length ≤ _
    rw [Nat.succ_mul]; omega

/-- labels from 1 to n -/
def WfS (n : Nat) (d : List Nat) : Prop := d.length = n ∧ ∀ k, k < n → 1 ≤ d.getD k 0 ∧ d.getD k 0 ≤ n
theorem swp_len : (swp d lo hi).length = d.length := by unfold swp; simp
theorem swp_get (hl : lo < d.length) (hh : hi < d.length) (k : Nat) : (swp d lo hi).getD k 0 = if k = hi then d.getD lo 0 else if k = lo then d.getD hi 0 else d.getD k 0 := by
  unfold swp
  simp only [List.getD_eq_getElem?_getD]
  by_cases h1 : k = hi
  · subst h1; rw [if_pos rfl]; simp [hh]
  · rw [if_neg h1, List.getElem?_set_ne (Ne.symm h1)]
    by_cases h2 : k = lo
    · subst h2; rw [if_pos rfl]; simp [hl]
    · rw [if_neg h2, List.getElem?_set_ne (Ne.symm h2)]
theorem WfS.swp (w : WfS n d) (hl : lo < n) (hh : hi < n) : WfS n (Mine.swp d lo hi) := by
  refine ⟨by rw [swp_len]; exact w.1, fun k hk => ?_⟩
  rw [swp_get (by rw [w.1]; exact hl) (by rw [w.1]; exact hh)]
  split
  · exact w.2 lo hl
  · split
    · exact w.2 hi hh
    · exact w.2 k hk
def AllW (n : Nat) (acc : List (List Nat)) : Prop := ∀ d ∈ acc, WfS n d
theorem AllW.vis (a : AllW n acc) (w : WfS n d) (hl : lo < n) (hh : hi < n) : AllW n (Mine.vis n sg d lo acc hi) := by
  unfold Mine.vis
  split
  · intro x hx
    rcases List.mem_append.mp hx with q | q
    · exact a x q
    · rw [List.mem_singleton.mp q]; exact w.swp hl hh
  · exact a
theorem AllW.at (a : AllW n acc) {t : Nat} (h : t < acc.length) : WfS n (acc.getD t []) := by
  have e : acc.getD t [] = acc[t] := by simp [h]
  rw [e]; exact a _ (List.getElem_mem h)
theorem st_wf (w : WfS n d0) : ∀ t, (∀ i, i < t → i < (st n sg d0 i).length) → AllW n (st n sg d0 t)
  | 0, _ => fun d hd => by rw [List.mem_singleton.mp hd]; exact w
  | t + 1, h => by
    have ih := st_wf w t fun i hi => h i (by omega)
    exact colF_ind ih (fun a lo hi h1 h2 ha => ha.vis (ih.at (h t (by omega))) h1 h2) n (Nat.le_refl _)

/-- how many turns the while takes -/
theorem turns (P : Nat → Prop) : ∀ m, ¬ P m → ∃ N, N ≤ m ∧ (∀ i, i < N → P i) ∧ ¬ P N := fun j => by
  induction j using Nat.strongRecOn with
  | _ j ih =>
    intro hp
    by_cases hall : ∀ i, i < j → P i
    · exact ⟨j, Nat.le_refl _, hall, hp⟩
    · obtain ⟨i, hi⟩ := Classical.not_forall.mp hall
      have hi' : i < j ∧ ¬ P i := by
        by_cases q : i < j
        · exact ⟨q, fun p => hi fun _ => p⟩
        · exact absurd (fun q' => absurd q' q) hi
      obtain ⟨N, a, b, c⟩ := ih i hi'.1 hi'.2
      exact ⟨N, by omega, b, c⟩
end
end Mine
end

section
open PySem PySem.Calls PySem.W PyProof.Rows
set_option maxRecDepth 100000
set_option linter.unusedVariables false
namespace Mine

theorem pgL_inj {n : Nat} {nm : Nat → Str} {d d' : List Nat} (h1 : d.length = n) (h2 : d'.length = n) (h : pgL n nm d = pgL n nm d') : d = d' := by
  apply List.ext_getElem?
  intro k
  by_cases hk : k < n
  · have h' := congrArg (fun l : List Str => l[k]?) h
    unfold pgL at h'
    simp [hk] at h'
    have := congrArg Str.length h'
    rw [row_len, row_len] at this
    have e : d[k]?.getD 0 = d'[k]?.getD 0 := by omega
    have l1 : k < d.length := by omega
    have l2 : k < d'.length := by omega
    simpa [l1, l2] using e
  · rw [List.getElem?_eq_none (by omega), List.getElem?_eq_none (by omega)]
theorem pg_any {n : Nat} {nm : Nat → Str} {acc : List (List Nat)} {c : List Nat} (ha : AllW n acc) (hc : c.length = n) : ((acc.map fun d => dStrs (pgL n nm d)).any fun y => PyData.eqv y (dStrs (pgL n nm c))) = acc.contains c := by
  induction acc with
  | nil => rfl
  | cons d acc ih =>
    have ih' := ih fun x hx => ha x (List.mem_cons_of_mem _ hx)
    rw [List.map_cons, List.any_cons, ih', eqv_dStrs, List.contains_cons]
    congr 1
    have hd := (ha d (List.mem_cons_self ..)).1
    by_cases h : c = d
    · subst h; simp
    · rw [beq_eq_false_iff_ne.mpr h, decide_eq_false fun q => h (pgL_inj hd hc q).symm]
theorem strOk_pgL {n : Nat} {nm : Nat → Str} {d : List Nat} (h : ∀ k, k < n → ∀ c ∈ ch (nm k), c < 200) : ∀ x ∈ pgL n nm d, PyData.strOk x = true := by
  intro x hx
  obtain ⟨k, hk, ex⟩ := List.mem_map.mp hx
  unfold PyData.strOk
  rw [Array.all_eq_true_iff_forall_mem]
  intro c hc
  have hc2 : c ∈ ch x := by simpa [ch] using hc
  rw [← ex] at hc2
  have hc' : c ∈ List.replicate (d.getD k 0) 46 ++ ch (nm k) := hc2
  rw [decide_eq_true_eq]
  rcases List.mem_append.mp hc' with r | r
  · have := (List.mem_replicate.mp r).2; omega
  · have := h k (List.mem_range.mp hk) c r; omega

def sgD (n : Nat) (sg : Nat → Nat → Bool) : PyData := .list ((List.range n).map fun i => .list ((List.range n).map fun j => .bool (sg i j)))

set_option maxHeartbeats 8000000 in
theorem reached_ok {w : World} {mg mb : Str → Option Value} (nb : NB mg mb) (nf : NF mg) {n : Nat} {nm : Nat → Str} {sg : Nat → Nat → Bool} {d0 : List Nat} {e : Str} {N : Nat} (h3 : 3 ≤ n) (h4 : n ≤ 4) (hnm : ∀ k, k < n → NmOk (nm k) (97 + k)) (hsm : ∀ k, k < n → ∀ c ∈ ch (nm k), c < 200) (w0 : WfS n d0) (he : IsEnd (ch e))
    (hN : N ≤ 24) (hT : ∀ i, i < N → i < (st n sg d0 i).length ∧ i < 24) (hF : ¬ (N < (st n sg d0 N).length ∧ N < 24)) :
    FnOk pr2 w (K2 w) mg mb 4 93 [dStrs (pgL n nm d0), sgD n sg, .str e] (.list ((st n sg d0 N).map fun d => dStrs (pgL n nm d))) := by
  refine fn_of (xs := ["first", "strange", "end"]) (by rfl) (by kernel_rfl) rfl rfl rfl rfl ?_ rfl (by decide) rfl rfl rfl rfl ?_
  · intro vs hv
    match vs, hv with
    | [a, b, c], _ => rfl
  intro A s₀ W₀ L hroom
  have hr1 : RoomA 1 A := ⟨hroom.1, by have := hroom.2.1; omega, by have := hroom.2.2; omega⟩
  have hr2 : RoomA 2 A := ⟨hroom.1, by have := hroom.2.1; omega, by have := hroom.2.2; omega⟩
  have hpl : ∀ d, (pgL n nm d).length = n := fun d => by simp [pgL]
  have slen : ∀ t, t ≤ N → (st n sg d0 t).length ≤ 400 := fun t ht => by
    have := st_len (n := n) (sg := sg) (d0 := d0) t
    have h1 : t * (n * n) ≤ 24 * (4 * 4) := Nat.mul_le_mul (by omega) (Nat.mul_le_mul h4 h4)
    omega
  refine Ex.cons (Ex.assignTS (sls := [.sh (.int n), .ow [dStrs (pgL n nm d0)], .sh (.int 0)]) ["size", "pages", "done"] (EvT.display (EvX.sh (fun W => (Ev.callB rfl (.inr nb.len) (EvL.cons (Ev.name rfl) EvL.nil) (Bi.len_list (by simp [hpl]; omega))).to (by simp [hpl])) (EvX.ow (fun W => EvN.listd (EvL.cons (Ev.name rfl) EvL.nil) (by rw [sizeLine_eq]; show 1 ≤ 16777216; omega)) (EvX.sh (fun W => Ev.int) EvX.nil))) (by decide) (by simp)) rfl ?_ hroom.1)
  refine Ex.cons (Ex.whileG (fun t => [("strange", .sh (sgD n sg)), ("end", .sh (.str e)), ("size", .sh (.int n)), ("pages", .ow ((st n sg d0 t).map fun d => dStrs (pgL n nm d))), ("done", .sh (.int t))]) N ?_ ?_ ?_ ?_ ?_)
  · exact Fewer.get (.cons rfl (.cons rfl (.cons rfl (.cons rfl (.cons rfl .nil)))))
  · intro t ht W
    have := hT t ht
    have hl := slen t (by omega)
    exact (Tr.and2 (Tr.cmp (Ev.name rfl) (Ev.len_list rfl (.inr nb.len) (.inl rfl) (by simp; omega)) Cmp.lt_int) fun _ => Tr.cmp (Ev.name rfl) Ev.int Cmp.lt_int).to (by rw [Bool.and_eq_true, decide_eq_true_eq, decide_eq_true_eq, List.length_map]; omega)
  · intro W
    have hl := slen N (Nat.le_refl _)
    exact (Tr.and2 (Tr.cmp (Ev.name rfl) (Ev.len_list rfl (.inr nb.len) (.inl rfl) (by simp; omega)) Cmp.lt_int) fun _ => Tr.cmp (Ev.name rfl) Ev.int Cmp.lt_int).to (by
      rw [← Bool.not_eq_true, Bool.and_eq_true, decide_eq_true_eq, decide_eq_true_eq, List.length_map]
      intro h; exact hF ⟨by omega, by omega⟩)
  · intro t ht
    obtain ⟨ht1, ht2⟩ := hT t ht
    have allw := st_wf (sg := sg) w0 t fun i hi => (hT i (by omega)).1
    have wd := allw.at ht1
    have hl := slen t (by omega)
    generalize hd : (st n sg d0 t).getD t [] = d at wd
    have hstep : st n sg d0 (t + 1) = colF n sg d (st n sg d0 t) n := by rw [← hd]; rfl
    have hget : ((st n sg d0 t).map fun d => dStrs (pgL n nm d))[((t : Nat) : Int).toNat]? = some (dStrs (pgL n nm d)) := by
      rw [← hd]; simp [ht1]
    have dle : ∀ k, k < n → d.getD k 0 ≤ 4 := fun k hk => by have := (wd.2 k hk).2; omega
    have rl : ∀ k, k < n → (rowOf (d.getD k 0) (nm k)).length ≤ 120 := fun k hk => by rw [row_len]; have := dle k hk; have := (hnm k hk).len; omega
    have grow : ∀ k, k < n → (((List.range n).map fun k => rowOf (d.getD k 0) (nm k)).map PyData.str)[((k : Nat) : Int).toNat]? = some (.str (rowOf (d.getD k 0) (nm k))) := fun k hk => get_strs (f := fun k => rowOf (d.getD k 0) (nm k)) hk
    refine Ex.cons (Ex.assign (d := dStrs (pgL n nm d)) (fun W => Ev.sub_ow rfl (Ev.name rfl) (by omega) (by omega) hget) ?_)
    -- dots
    refine Ex.cons (Ex.assignC (ys := List.range n) (g := fun k => PyData.str (rowOf (d.getD k 0) (nm k))) (p := fun _ => true) (f := fun k => .int (d.getD k 0 : Nat)) (fun W => It.list ((Ev.name rfl).to (by simp [pgL, dStrs])) hroom.1) (by simp [sizeLine_eq]; omega) (fun W k hk W' c => TrL.nil)
      (fun W k hk _ W' c => (Ev.bin (Ev.callB rfl (.inr nb.len) (EvL.cons (Ev.name rfl) EvL.nil) (Bi.len_str (by have := rl k (List.mem_range.mp hk); omega))) (Ev.callB rfl (.inr nb.len) (EvL.cons (Ev.meth (Ev.name rfl) (GMeth.str F.slot_str_lstrip F.type_str_lstrip) (EvL.cons Ev.str EvL.nil) (Bi.lstrip (by have := rl k (List.mem_range.mp hk); rw [sizeLine_eq]; omega))) EvL.nil) (Bi.len_str (by
        rw [lstrip_row (hnm k (List.mem_range.mp hk))]; have := (hnm k (List.mem_range.mp hk)).len; omega))) Bin.sub_int).to (by
        rw [lstrip_row (hnm k (List.mem_range.mp hk)), row_len]; congr 1; push_cast; omega)) ?_)
    rw [filter_all]
    refine Ex.freeze (x := "dots") rfl ?_
    have gd : ∀ k, k < n → ((List.range n).map fun k => PyData.int (d.getD k 0 : Nat))[((k : Nat) : Int).toNat]? = some (.int (d.getD k 0 : Nat)) := fun k hk => get_own (f := fun k => PyData.int (d.getD k 0 : Nat)) hk
    -- the two loops
    refine Ex.cons (Ex.forI (ks := (List.range n).map fun i : Nat => (i : Int)) (fun lo => [("strange", .sh (sgD n sg)), ("end", .sh (.str e)), ("size", .sh (.int n)), ("done", .sh (.int t)), ("page", .sh (dStrs (pgL n nm d))), ("dots", .sh (.list ((List.range n).map fun k => PyData.int (d.getD k 0 : Nat)))), ("pages", .ow ((colF n sg d (st n sg d0 t) lo).map fun d => dStrs (pgL n nm d)))])
      (fun W => (It.range1 (n := n) rfl (.inr nb.range) (Ev.name rfl) (by omega) hroom.1).to (by rw [List.map_map]; rfl)) ?_ ?_ ?_)
    · exact Fewer.get (.cons rfl (.cons rfl (.cons rfl (.cons rfl (.cons rfl (.cons rfl (.cons rfl .nil)))))))
    · intro lo k hk
      have hlo : lo < n := by
        have := (List.getElem?_eq_some_iff.mp hk).1
        simpa using this
      have ek : k = (lo : Int) := by
        rw [List.getElem?_map, List.getElem?_range hlo] at hk
        simpa using hk.symm
      subst ek
      have cl := colF_len (n := n) (sg := sg) (d := d) (acc := st n sg d0 t) lo
      have cl2 : lo * n ≤ 4 * 4 := Nat.mul_le_mul (by omega) h4
      have cw : AllW n (colF n sg d (st n sg d0 t) lo) := colF_ind allw (fun a lo hi h1 h2 ha => ha.vis wd h1 h2) lo (by omega)
      generalize hacc : colF n sg d (st n sg d0 t) lo = acc at cl cw
      refine Ex.cons (Ex.forI (ks := (List.range n).map fun i : Nat => (i : Int)) (fun hi => [("strange", .sh (sgD n sg)), ("end", .sh (.str e)), ("size", .sh (.int n)), ("done", .sh (.int t)), ("page", .sh (dStrs (pgL n nm d))), ("dots", .sh (.list ((List.range n).map fun k => PyData.int (d.getD k 0 : Nat)))), ("low", .sh (.int lo)), ("pages", .ow ((rowF n sg d lo acc hi).map fun d => dStrs (pgL n nm d)))])
        (fun W => (It.range1 (n := n) rfl (.inr nb.range) (Ev.name rfl) (by omega) hroom.1).to (by rw [List.map_map]; rfl)) ?_ ?_ ?_)
      · exact Fewer.get (.cons rfl (.cons rfl (.cons rfl (.cons rfl (.cons rfl (.cons rfl (.cons rfl (.cons rfl .nil))))))))
      · intro hi k hk
        have hhi : hi < n := by
          have := (List.getElem?_eq_some_iff.mp hk).1
          simpa using this
        have ek : k = (hi : Int) := by
          rw [List.getElem?_map, List.getElem?_range hhi] at hk
          simpa using hk.symm
        subst ek
        have rlen := rowF_len (n := n) (sg := sg) (d := d) (lo := lo) (acc := acc) hi
        have rw' : AllW n (rowF n sg d lo acc hi) := rowF_ind cw (fun a hi h2 ha => ha.vis wd hlo h2) hi (by omega)
        have hsucc := rowF_succ (n := n) (sg := sg) (d := d) (lo := lo) (acc := acc) hi
        generalize rowF n sg d lo acc hi = acc2 at rlen rw' hsucc
        -- gap
        have lo1 := wd.2 lo hlo
        have hi1 := wd.2 hi hhi
        refine Ex.cons (Ex.assign (d := .int ((d.getD hi 0 : Nat) - (d.getD lo 0 : Nat) : Int)) (fun W => Ev.bin (Ev.sub (Ev.name rfl) (Ev.name rfl) (Item.list (by omega) (by omega) (gd hi hhi))) (Ev.sub (Ev.name rfl) (Ev.name rfl) (Item.list (by omega) (by omega) (gd lo hlo))) Bin.sub_int) ?_)
        have gs : ∀ i, i < n → ((List.range n).map fun i => PyData.list ((List.range n).map fun j => .bool (sg i j)))[((i : Nat) : Int).toNat]? = some (.list ((List.range n).map fun j => .bool (sg i j))) := fun i h => get_own (f := fun i => PyData.list ((List.range n).map fun j => .bool (sg i j))) h
        have gs2 : ∀ i j, j < n → ((List.range n).map fun j => PyData.bool (sg i j))[((j : Nat) : Int).toNat]? = some (.bool (sg i j)) := fun i j h => get_own (f := fun j => PyData.bool (sg i j)) h
        have eok : (([.int 1, .int ((n : Int) - 1)] : List PyData).any fun y => PyData.eqv y (.int ((d.getD hi 0 : Nat) - (d.getD lo 0 : Nat) : Int))) = ((d.getD hi 0 == d.getD lo 0 + 1) || (d.getD hi 0 == d.getD lo 0 + (n - 1))) := by
          rw [List.any_cons, List.any_cons, List.any_nil, Bool.or_false]
          congr 1
          · show ((1 : Int) == _) = _
            rw [Bool.eq_iff_iff, beq_iff_eq, beq_iff_eq]; omega
          · show (((n : Int) - 1) == _) = _
            rw [Bool.eq_iff_iff, beq_iff_eq, beq_iff_eq]; omega
        refine Ex.cons (Ex.ifS (b := okSw n sg d lo hi) (fun W => (Tr.and2 (Tr.cmp (Ev.name rfl) (Ev.tupled (EvL.cons Ev.int (EvL.cons (Ev.bin (Ev.name rfl) Ev.int Bin.sub_int) EvL.nil)) (by rw [sizeLine_eq]; show 2 ≤ 16777216; omega)) (Cmp.in_tuple rfl rfl (Nat.zero_le _) hr1)) fun _ => Tr.not (Tr.plain (Ev.sub (Ev.sub (Ev.name rfl) (Ev.name rfl) (Item.list (by omega) (by omega) (gs lo hlo))) (Ev.name rfl) (Item.list (by omega) (by omega) (gs2 lo hi hhi))) TruV.bool)).to (by rw [eok]; rfl)) (fun hok => ?_) fun hno => ?_)
        · have hgap : d.getD hi 0 = d.getD lo 0 + 1 ∨ d.getD hi 0 = d.getD lo 0 + (n - 1) := by
            unfold okSw at hok
            rw [Bool.and_eq_true, Bool.or_eq_true, beq_iff_eq, beq_iff_eq] at hok
            exact hok.1
          have hne : lo ≠ hi := fun q => by subst q; omega
          have hg : ((d.getD hi 0 : Nat) - (d.getD lo 0 : Nat) : Int) = ((d.getD hi 0 - d.getD lo 0 : Nat) : Int) := by omega
          have r1 : (Str.ofString " ").length = 1 := by decide
          have r2 : (Str.ofString ".").length = 1 := by decide
          have n32 : 32 ∉ ch (rowOf (d.getD hi 0) (nm hi)) := fun h => by
            have h' : 32 ∈ List.replicate (d.getD hi 0) 46 ++ ch (nm hi) := h
            rcases List.mem_append.mp h' with q | q
            · have := (List.mem_replicate.mp q).2; omega
            · exact ((hnm hi hhi).free 32 q).2.2.2 rfl
          obtain ⟨t1, t2, t3, t4⟩ := padded (y := rowOf (d.getD hi 0) (nm hi)) (o := d.getD hi 0 - d.getD lo 0) (m := d.getD hi 0) (z := ch (nm hi)) rfl (by omega) n32
          have rlh := rl hi hhi
          refine Ex.cons (Ex.assign (d := .str (rowOf (d.getD hi 0) (nm lo))) (fun W => (Ev.callF rfl nf.sent rfl (EvL.cons (Ev.sub (Ev.name rfl) (Ev.name rfl) (Item.list (by omega) (by omega) (grow lo hlo))) (EvL.cons ((Ev.name rfl).to (show PyData.int _ = PyData.int ((d.getD hi 0 - d.getD lo 0 : Nat) : Int) by rw [hg])) (EvL.cons (Ev.name rfl) EvL.nil))) (sent_ok nb nf (hnm lo hlo) lo1.1 (by omega) he) hroom).to (by rw [show d.getD lo 0 + (d.getD hi 0 - d.getD lo 0) = d.getD hi 0 by omega])) ?_)
          refine Ex.cons (Ex.assign (d := .str (rowOf (d.getD lo 0) (nm hi))) (fun W => (Ev.replaceC (Ev.callF rfl nf.pad rfl (EvL.cons (Ev.replaceC (Ev.sub (Ev.name rfl) (Ev.name rfl) (Item.list (by omega) (by omega) (grow hi hhi))) (by decide) (by rw [r1]; omega)) (EvL.cons ((Ev.name rfl).to (show PyData.int _ = PyData.int ((d.getD hi 0 - d.getD lo 0 : Nat) : Int) by rw [hg])) EvL.nil)) (strip_padding_ok nb t1 t2 (by rw [t3]; show _ ≤ 1048576; omega)) hr2) (by decide) (by
              have := Txt.slice_le (Txt.replace (rowOf (d.getD hi 0) (nm hi)) "." " ") (some ((d.getD hi 0 - d.getD lo 0 : Nat) : Int)) (some ((Txt.replace (rowOf (d.getD hi 0) (nm hi)) "." " ").length : Int))
              rw [r2]; omega)).to (by rw [t4, show d.getD hi 0 - (d.getD hi 0 - d.getD lo 0) = d.getD lo 0 by omega]; rfl)) ?_)
          have sg' : ∀ k, (swp d lo hi).getD k 0 = if k = hi then d.getD lo 0 else if k = lo then d.getD hi 0 else d.getD k 0 := fun k => swp_get (by rw [wd.1]; exact hlo) (by rw [wd.1]; exact hhi) k
          refine Ex.cons (Ex.assignC (ys := List.range n) (g := fun k : Nat => PyData.int k) (p := fun _ => true) (f := fun k => .str (rowOf ((swp d lo hi).getD k 0) (nm k))) (fun W => It.range1 (n := n) rfl (.inr nb.range) (Ev.name rfl) (by omega) hroom.1) (by simp [sizeLine_eq]; omega) (fun W k hk W' c => TrL.nil)
            (fun W k hk _ W' c => Ev.ifexp (c := ((k : Int) == (lo : Int))) (Tr.cmp (Ev.name rfl) (Ev.name rfl) Cmp.eq_int) (fun h => (Ev.name rfl).to (by
              have e : k = lo := by have := beq_iff_eq.mp h; omega
              rw [sg' k, if_neg (by omega), if_pos e, e])) (fun h => Ev.ifexp (c := ((k : Int) == (hi : Int))) (Tr.cmp (Ev.name rfl) (Ev.name rfl) Cmp.eq_int) (fun h2 => (Ev.name rfl).to (by
              have e : k = hi := by have := beq_iff_eq.mp h2; omega
              rw [sg' k, if_pos e, e])) (fun h2 => (Ev.sub (Ev.name rfl) (Ev.name rfl) (Item.list (by omega) (by have := List.mem_range.mp hk; omega) (grow k (List.mem_range.mp hk)))).to (by
              have e1 : k ≠ lo := fun q => by have := beq_eq_false_iff_ne.mp h; omega
              have e2 : k ≠ hi := fun q => by have := beq_eq_false_iff_ne.mp h2; omega
              rw [sg' k, if_neg e2, if_neg e1])))) ?_)
          rw [filter_all]
          refine Ex.freeze (x := "changed") rfl ?_
          have ech : PyData.list ((List.range n).map fun k => PyData.str (rowOf ((swp d lo hi).getD k 0) (nm k))) = dStrs (pgL n nm (swp d lo hi)) := by
            unfold dStrs pgL; rw [List.map_map]; rfl
          have hsw : (swp d lo hi).length = n := by rw [swp_len]; exact wd.1
          have hlay : PyData.canLayAll0 (acc2.map fun d => dStrs (pgL n nm d)) = true := by
            have := canLay_pages (acc2.map fun d => pgL n nm d) fun p hp => by
              obtain ⟨x, _, rfl⟩ := List.mem_map.mp hp
              exact strOk_pgL hsm
            rw [List.map_map] at this
            exact this
          have hlay2 : (dStrs (pgL n nm (swp d lo hi))).canLay0 = true := canLay_strs _ (strOk_pgL hsm)
          have hdep2 : (dStrs (pgL n nm (swp d lo hi))).depth ≤ 64 := by
            show PyData.depthAll _ + 1 ≤ 64
            rw [depth_strs]; omega
          refine Ex.cons (Ex.ifS (b := !acc2.contains (swp d lo hi)) (fun W => (Tr.notInOw ((Ev.name rfl).to ech) rfl hlay hlay2 hdep2 hr1).to (by rw [pg_any rw' hsw])) (fun hc => ?_) fun hc => ?_)
          · refine Ex.cons (Ex.append (d := dStrs (pgL n nm (swp d lo hi))) rfl (fun W => (Ev.name rfl).to ech) (by rw [sizeLine_eq, List.length_map]; omega) ?_)
            refine Ex.nil (Ex.nil (Ex.nil ⟨_, rfl, Fewer.get (.cons rfl (.cons rfl (.cons rfl (.cons rfl (.cons rfl (.cons rfl (.cons rfl (.ow rfl ?_ .nil))))))))⟩))
            rw [hsucc]
            unfold vis
            rw [hok, hc, Bool.and_self, if_pos rfl, List.map_append]; rfl
          · refine Ex.nil (Ex.nil (Ex.nil ⟨_, rfl, Fewer.get (.cons rfl (.cons rfl (.cons rfl (.cons rfl (.cons rfl (.cons rfl (.cons rfl (.ow rfl ?_ .nil))))))))⟩))
            rw [hsucc]
            unfold vis
            rw [hok, hc]; rfl
        · refine Ex.nil ?_
          exact Ex.nil ⟨_, rfl, Fewer.get (.cons rfl (.cons rfl (.cons rfl (.cons rfl (.cons rfl (.cons rfl (.cons rfl (.ow rfl (by rw [hsucc]; unfold vis; rw [hno]; simp) .nil))))))))⟩
      · rw [List.length_map, List.length_range]
        exact Ex.nil ⟨_, rfl, Fewer.get (.cons rfl (.cons rfl (.cons rfl (.cons rfl (.cons rfl (.cons rfl (.ow rfl (by rw [colF_succ, hacc]) .nil)))))))⟩
    · rw [List.length_map, List.length_range]
      refine Ex.cons (Ex.aug rfl (fun W => Ev.int) (fun W => Aug.add_int) ?_)
      exact Ex.nil ⟨_, rfl, Fewer.get (.cons rfl (.cons rfl (.cons rfl (.ow rfl (by rw [hstep]) (.int rfl (by push_cast; rfl) .nil)))))⟩
  · refine Ex.freeze (x := "pages") rfl ?_
    exact Ex.cons (Ex.ret (fun W => Ev.name rfl) rfl)
end Mine
end

section
open PySem PySem.Calls PySem.W PyProof.Rows
set_option maxRecDepth 100000
set_option linter.unusedVariables false
namespace Mine

/-! ## heights and worth -/
def hgF (n : Nat) (cs d : List Nat) (k : Nat) (l : List Int) : Int :=
  (if cs.getD k 0 = 0 then (d.getD k 0 : Int) else l.getD (cs.getD k 0 - 1) 0) + ((d.getD k 0 : Int) - (if cs.getD k 0 = 0 then (d.getD k 0 : Int) else l.getD (cs.getD k 0 - 1) 0)).fmod n
def hg (n : Nat) (cs d : List Nat) : Nat → Int := gv (hgF n cs d)
def wor (n : Nat) (cs d : List Nat) (M : Int) : Int := ((((List.range n).map (hg n cs d)).sum - (d.map fun x : Nat => (x : Int)).sum).fdiv n).fmod M
def gro (n : Nat) (cs d : List Nat) (k : Nat) : Int := if cs.getD k 0 = 0 then (d.getD k 0 : Int) else hg n cs d (cs.getD k 0 - 1)
theorem hg_eq {n : Nat} {cs d : List Nat} {k : Nat} (hk : cs.getD k 0 ≤ k) : hg n cs d k = gro n cs d k + ((d.getD k 0 : Int) - gro n cs d k).fmod n := by
  have e : (if cs.getD k 0 = 0 then (d.getD k 0 : Int) else (gl (hgF n cs d) k).getD (cs.getD k 0 - 1) 0) = gro n cs d k := by
    unfold gro
    split
    · rfl
    · rw [gl_eq, range_getD (by omega)]; rfl
  show (if cs.getD k 0 = 0 then (d.getD k 0 : Int) else (gl (hgF n cs d) k).getD (cs.getD k 0 - 1) 0) + ((d.getD k 0 : Int) - (if cs.getD k 0 = 0 then (d.getD k 0 : Int) else (gl (hgF n cs d) k).getD (cs.getD k 0 - 1) 0)).fmod n = _
  rw [e]

theorem worth_ok {w : World} {mg mb : Str → Option Value} (nb : NB mg mb) {n : Nat} {cs d : List Nat} {M : Int} (h3 : 3 ≤ n) (h4 : n ≤ 4) (ok : CsOk n cs) (hd : d.length = n) (hM : M ≠ 0) :
    FnOk pr2 w (K2 w) mg mb 2 100 [dL d, dInts ((List.range n).map (abC cs)), .int M] (.int (wor n cs d M)) := by
  refine fn_of (xs := ["dots", "above", "measure"]) (by rfl) (by kernel_rfl) rfl rfl rfl rfl ?_ rfl (by decide) rfl rfl rfl rfl ?_
  · intro vs hv
    match vs, hv with
    | [a, b, c], _ => rfl
  intro A s₀ W₀ L hroom
  refine Ex.cons (Ex.assignTS (sls := [.sh (.int n), .ow []]) ["size", "heights"] (EvT.display (EvX.sh (fun W => (Ev.callB rfl (.inr nb.len) (EvL.cons (Ev.name rfl) EvL.nil) (Bi.len_list (by simp; omega))).to (by simp [hd])) (EvX.ow (fun W => EvN.listd EvL.nil (by rw [sizeLine_eq]; decide)) EvX.nil)) (by decide) (by simp)) rfl ?_ hroom.1)
  refine Ex.cons (Ex.forI (ks := (List.range n).map fun i : Nat => (i : Int)) (fun k => [("dots", .sh (dL d)), ("above", .sh (dInts ((List.range n).map (abC cs)))), ("measure", .sh (.int M)), ("size", .sh (.int n)), ("heights", .ow ((List.range k).map fun j => .int (hg n cs d j)))])
    (fun W => (It.range1 (n := n) rfl (.inr nb.range) (Ev.name rfl) (by omega) hroom.1).to (by rw [List.map_map]; rfl)) ?_ ?_ ?_)
  · exact Fewer.get (.cons rfl (.cons rfl (.cons rfl (.cons rfl (.cons rfl .nil)))))
  · intro i k hki
    have hi : i < n := by
      have := (List.getElem?_eq_some_iff.mp hki).1
      simpa using this
    have ek : k = (i : Int) := by
      rw [List.getElem?_map, List.getElem?_range hi] at hki
      simpa using hki.symm
    subst ek
    have hle := ok.le i hi
    have hab : abC cs i = (cs.getD i 0 : Int) - 1 := rfl
    refine Ex.cons (Ex.assign (d := .int (gro n cs d i)) (fun W => Ev.ifexp (c := decide (abC cs i < 0)) (Tr.cmp (Ev.sub (Ev.name rfl) (Ev.name rfl) (Item.list (by omega) (by omega) (get_ints (f := abC cs) hi))) Ev.int Cmp.lt_int) (fun h => ?_) (fun h => ?_)) ?_)
    · have h0 : cs.getD i 0 = 0 := by have := of_decide_eq_true h; omega
      exact (Ev.sub (Ev.name rfl) (Ev.name rfl) (Item.list (by omega) (by omega) (get_dL (by omega)))).to (by unfold gro; rw [if_pos h0])
    · have h0 : cs.getD i 0 ≠ 0 := by have := of_decide_eq_false h; omega
      have ej : abC cs i = ((cs.getD i 0 - 1 : Nat) : Int) := by rw [hab]; omega
      exact (Ev.sub_ow rfl ((Ev.sub (Ev.name rfl) (Ev.name rfl) (Item.list (by omega) (by omega) (get_ints (f := abC cs) hi))).to (by rw [ej])) (by omega) (by omega) (get_own (f := fun j => PyData.int (hg n cs d j)) (show cs.getD i 0 - 1 < i by omega))).to (by unfold gro; rw [if_neg h0])
    refine Ex.cons (Ex.append (d := .int (hg n cs d i)) rfl (fun W => (Ev.bin (Ev.name rfl) (Ev.bin (Ev.bin (Ev.sub (Ev.name rfl) (Ev.name rfl) (Item.list (by omega) (by omega) (get_dL (by omega)))) (Ev.name rfl) Bin.sub_int) (Ev.name rfl) (Bin.mod_int (by omega))) Bin.add_int).to (by rw [hg_eq hle])) (by rw [sizeLine_eq]; simp; omega) ?_)
    refine Ex.nil ⟨_, rfl, Fewer.get (.cons rfl (.cons rfl (.cons rfl (.cons rfl (.ow rfl ?_ .nil)))))⟩
    rw [List.range_succ, List.map_append]; rfl
  rw [List.length_map, List.length_range]
  refine Ex.freeze (x := "heights") rfl ?_
  have eh : PyData.list ((List.range n).map fun j => PyData.int (hg n cs d j)) = dInts ((List.range n).map (hg n cs d)) := by unfold dInts; rw [List.map_map]; rfl
  refine Ex.cons (Ex.ret (fun W => Ev.bin (Ev.bin (Ev.bin (Ev.callB rfl (.inr nb.sum) (EvL.cons ((Ev.name rfl).to eh) EvL.nil) (Bi.sum hroom.1)) (Ev.callB rfl (.inr nb.sum) (EvL.cons (Ev.name rfl) EvL.nil) (Bi.sum hroom.1)) Bin.sub_int) (Ev.name rfl) (Bin.fdiv_int (by omega) (PyProof.noPylong_small (by omega)))) (Ev.name rfl) (Bin.mod_int hM)) rfl)
end Mine
end

section
open PySem PySem.Calls PySem.W PyProof.Rows
set_option maxRecDepth 100000
set_option linter.unusedVariables false
namespace Mine

/-- all standings -/
def standL : Nat → List (List Nat)
  | 0 => [[]]
  | k + 1 => (standL k).flatMap fun one => (List.range (k + 1)).map fun p => one.take p ++ [k + 1] ++ one.drop p
theorem stand_len : ∀ k, ∀ d ∈ standL k, d.length = k
  | 0, d, h => by rw [List.mem_singleton.mp h]; rfl
  | k + 1, d, h => by
    obtain ⟨one, h1, h2⟩ := List.mem_flatMap.mp h
    obtain ⟨p, hp, rfl⟩ := List.mem_map.mp h2
    have ih := stand_len k one h1
    have := List.mem_range.mp hp
    simp; omega
theorem stand_count {k : Nat} (h : k ≤ 4) : (standL k).length ≤ 24 := by
  rcases (by omega : k = 0 ∨ k = 1 ∨ k = 2 ∨ k = 3 ∨ k = 4) with rfl | rfl | rfl | rfl | rfl <;> decide +kernel

/-- the greatest number that divides all lots -/
def cntT (n : Nat) (cs : List Nat) (k : Nat) : Nat := ((List.range n).map (tr cs)).count k
def dv (n : Nat) (cs : List Nat) (i : Nat) : Bool := ((List.range n).map (tr cs)).all fun k => cntT n cs k % (i + 1) == 0
def maxS : List Nat → Nat
  | [] => 0
  | i :: l => max (i + 1) (maxS l)
theorem maxS_le {i : Nat} : ∀ {l : List Nat}, i ∈ l → i + 1 ≤ maxS l
  | j :: l, h => by
    show _ ≤ max _ _
    rcases List.mem_cons.mp h with q | q
    · subst q; exact Nat.le_max_left _ _
    · exact Nat.le_trans (maxS_le q) (Nat.le_max_right _ _)
theorem maxS_mem : ∀ {l : List Nat}, l ≠ [] → ∃ i ∈ l, maxS l = i + 1
  | [], h => absurd rfl h
  | [i], _ => ⟨i, List.mem_cons_self .., by show max (i + 1) 0 = i + 1; omega⟩
  | i :: j :: l, _ => by
    obtain ⟨x, hx, e⟩ := maxS_mem (l := j :: l) (by simp)
    show ∃ y ∈ _, max (i + 1) (maxS (j :: l)) = _
    rw [e]
    by_cases q : i + 1 ≤ x + 1
    · exact ⟨x, List.mem_cons_of_mem _ hx, by omega⟩
    · exact ⟨i, List.mem_cons_self .., by omega⟩
def measN (n : Nat) (cs : List Nat) : Nat := maxS ((List.range n).filter (dv n cs))
theorem meas_max {n : Nat} {cs : List Nat} (h : 0 < n) : ((measN n cs : Nat) : Int) ∈ ((List.range n).filter (dv n cs)).map (fun i : Nat => (1 : Int) + i) ∧ (∀ a ∈ ((List.range n).filter (dv n cs)).map (fun i : Nat => (1 : Int) + i), a ≤ ((measN n cs : Nat) : Int)) ∧ 0 < measN n cs := by
  have hne : (List.range n).filter (dv n cs) ≠ [] := by
    have : 0 ∈ (List.range n).filter (dv n cs) := by
      rw [List.mem_filter]
      refine ⟨List.mem_range.mpr h, ?_⟩
      unfold dv
      rw [List.all_eq_true]
      intro k _
      rw [Nat.zero_add, Nat.mod_one]; rfl
    intro e; rw [e] at this; cases this
  obtain ⟨i, hi, e⟩ := maxS_mem hne
  refine ⟨List.mem_map.mpr ⟨i, hi, ?_⟩, fun a ha => ?_, ?_⟩
  · unfold measN; rw [e]; push_cast; omega
  · obtain ⟨j, hj, rfl⟩ := List.mem_map.mp ha
    have := maxS_le hj
    unfold measN; omega
  · unfold measN; omega

/-- a list of texts has its sorted one -/
theorem sorted_ex : ∀ ps : List (List Str), ps.Nodup → ∃ qs : List (List Str), qs.Perm ps ∧ qs.Pairwise fun x y => ltS x y = true
  | [], _ => ⟨[], .refl _, .nil⟩
  | p :: ps, nd => by
    rw [List.nodup_cons] at nd
    obtain ⟨qs, h1, h2⟩ := sorted_ex ps nd.2
    have hp : p ∉ qs := fun h => nd.1 (h1.mem_iff.mp h)
    have ins : ∀ qs : List (List Str), p ∉ qs → qs.Pairwise (fun x y => ltS x y = true) → ∃ rs : List (List Str), rs.Perm (p :: qs) ∧ rs.Pairwise fun x y => ltS x y = true := by
      intro qs
      induction qs with
      | nil => intro _ _; exact ⟨[p], .refl _, by simp⟩
      | cons q qs ih =>
        intro hp hs
        rw [List.pairwise_cons] at hs
        cases hlt : ltS p q with
        | true =>
          refine ⟨p :: q :: qs, .refl _, List.pairwise_cons.mpr ⟨fun x hx => ?_, List.pairwise_cons.mpr hs⟩⟩
          rcases List.mem_cons.mp hx with e | hx
          · rw [e]; exact hlt
          · exact ltS_trans _ _ _ hlt (hs.1 x hx)
        | false =>
          obtain ⟨rs, r1, r2⟩ := ih (fun h => hp (List.mem_cons_of_mem _ h)) hs.2
          refine ⟨q :: rs, (r1.cons q).trans (List.Perm.swap p q qs), List.pairwise_cons.mpr ⟨fun x hx => ?_, r2⟩⟩
          rcases List.mem_cons.mp (r1.mem_iff.mp hx) with e | hx
          · subst e
            cases hl2 : ltS q x with
            | true => rfl
            | false => exact absurd (ltS_total _ _ hlt hl2) (fun e => hp (e ▸ List.mem_cons_self ..))
          · exact hs.1 x hx
    obtain ⟨rs, r1, r2⟩ := ins qs hp h2
    exact ⟨rs, r1.trans (h1.cons p), r2⟩

/-- what the search comes to -/
structure Comes (n : Nat) (cs d0 : List Nat) (N : Nat) : Prop where
  le : N ≤ 24
  go : ∀ i, i < N → i < (st n (tiedB (abC cs)) d0 i).length ∧ i < 24
  stop : ¬ (N < (st n (tiedB (abC cs)) d0 N).length ∧ N < 24)
  nodup : (st n (tiedB (abC cs)) d0 N).Nodup
  perm : (st n (tiedB (abC cs)) d0 N).Perm ((standL n).filter fun d => wor n cs d (measN n cs : Nat) == wor n cs d0 (measN n cs : Nat))
  two : 2 ≤ (st n (tiedB (abC cs)) d0 N).length
end Mine
end

section
open PySem PySem.Calls PySem.W PyProof.Rows
set_option maxRecDepth 100000
set_option linter.unusedVariables false
namespace Mine

/-- what a script gives -/
structure ScOk (ns : List Int) (n : Nat) (N : List Int) : Prop where
  len : ns.length ≤ 63
  en : n = 3 + min 1 (ns.length / 2)
  eN : N = (ns ++ ([3, 5, 14] : List Int).drop ns.length).take (n - 1)
theorem ScOk.lo {ns n N} (h : ScOk ns n N) : 3 ≤ n := by rw [h.en]; omega
theorem ScOk.hi {ns n N} (h : ScOk ns n N) : n ≤ 4 := by rw [h.en]; omega
theorem ScOk.lenN {ns n N} (h : ScOk ns n N) : N.length = n - 1 := by
  have := h.en
  rw [h.eN, List.length_take, List.length_append, List.length_drop]
  show min (n - 1) (ns.length + (3 - ns.length)) = n - 1
  omega
theorem letter_at {k : Nat} (h : k < 4) : (Str.ofString "abcd").cps[((k : Nat) : Int).toNat]? = some (97 + k) := by
  rw [Int.toNat_natCast]
  rcases (by omega : k = 0 ∨ k = 1 ∨ k = 2 ∨ k = 3) with rfl | rfl | rfl | rfl <;> decide

theorem g0_one {C : Cx} {scope : Scope} {x : Str} {d : PyData} (h1 : C.γ.lookup x = some (.sh d)) (h2 : scope.names.lookup x = some .free) : ∀ y e, [(x, d)].lookup y = some e → C.γ.lookup y = some (.sh e) ∧ scope.names.lookup y = some .free := fun y e h => by
  rw [List.lookup_cons] at h
  cases hb : y == x with
  | true => rw [hb] at h; cases h; rw [beq_iff_eq.mp hb]; exact ⟨h1, h2⟩
  | false => rw [hb] at h; cases h
theorem CompRule.to {C : Cx} {e iter : PySem.Expr} {scope : Scope} {ds ds' : List PyData} (h : CompRule C e iter scope ds) (q : ds = ds') : CompRule C e iter scope ds' := q ▸ h
theorem dL_app (a b : List Nat) : (a.map fun x : Nat => (x : Int)).map PyData.int ++ (b.map fun x : Nat => (x : Int)).map PyData.int = ((a ++ b).map fun x : Nat => (x : Int)).map PyData.int := by simp
theorem plN_le (N : List Int) (k : Nat) : plN N k ≤ k := (fmod_nat _ k).2
/-- all orders -/
def ordsL : Nat → List (List Nat)
  | 0 => [[0]]
  | k + 1 => (ordsL k).flatMap fun l => (List.range (k + 2)).map fun p => l.take p ++ [k + 1] ++ l.drop p
theorem ord_mem (pl : Nat → Nat) (h : ∀ k, pl k ≤ k) : ∀ k, ordL pl k ∈ ordsL k
  | 0 => List.mem_singleton.mpr rfl
  | k + 1 => List.mem_flatMap.mpr ⟨_, ord_mem pl h k, List.mem_map.mpr ⟨pl (k + 1), List.mem_range.mpr (by have := h (k + 1); omega), rfl⟩⟩
def d0L (n : Nat) (l : List Nat) : List Nat := (List.range n).map fun k => l.idxOf k + 1
def wfB (n : Nat) (d : List Nat) : Bool := d.length == n && (List.range n).all fun k => Nat.ble 1 (d.getD k 0) && Nat.ble (d.getD k 0) n
theorem d0_chk3 : (ordsL 2).all (fun l => (standL 3).contains (d0L 3 l)) = true := by decide +kernel
theorem d0_chk4 : (ordsL 3).all (fun l => (standL 4).contains (d0L 4 l)) = true := by decide +kernel
theorem wf_chk3 : (standL 3).all (wfB 3) = true := by decide +kernel
theorem wf_chk4 : (standL 4).all (wfB 4) = true := by decide +kernel
theorem d0_mem {n : Nat} {l : List Nat} (h3 : 3 ≤ n) (h4 : n ≤ 4) (h : l ∈ ordsL (n - 1)) : d0L n l ∈ standL n := by
  rcases (by omega : n = 3 ∨ n = 4) with rfl | rfl
  · exact List.contains_iff_mem.mp (List.all_eq_true.mp d0_chk3 l h)
  · exact List.contains_iff_mem.mp (List.all_eq_true.mp d0_chk4 l h)
theorem wf_of {n : Nat} {d : List Nat} (h3 : 3 ≤ n) (h4 : n ≤ 4) (h : d ∈ standL n) : WfS n d := by
  have key : wfB n d = true := by
    rcases (by omega : n = 3 ∨ n = 4) with rfl | rfl
    · exact List.all_eq_true.mp wf_chk3 d h
    · exact List.all_eq_true.mp wf_chk4 d h
  unfold wfB at key
  rw [Bool.and_eq_true, beq_iff_eq, List.all_eq_true] at key
  refine ⟨key.1, fun k hk => ?_⟩
  have := key.2 k (List.mem_range.mpr hk)
  rw [Bool.and_eq_true] at this
  exact ⟨Nat.le_of_ble_eq_true this.1, Nat.le_of_ble_eq_true this.2⟩

set_option maxHeartbeats 8000000 in
theorem law_ok {w : World} {mg mb : Str → Option Value} (nb : NB mg mb) (nf : NF mg) (cm : ∀ {n : Nat} {cs d0 : List Nat}, 3 ≤ n → n ≤ 4 → CsOk n cs → d0 ∈ standL n → ∃ N, Comes n cs d0 N) {ns : List Int} {n : Nat} {N : List Int} (sc : ScOk ns n N)
    {A : Around} {s : Shared} {W : Addr → Prop} {a : Addr} {vs : List Value} (hr : RoomA 7 A) (hg : GH (K2 w) mg mb s.heap) (hw : ∀ a, W a → ∃ o, s.heap.get? a = some o) (hl : s.heap.IsList a (List.toArray vs)) (hvs : RepL W s.heap vs (ns.map PyData.int)) (hWa : ¬ W a) :
    wpAny (model pr2 w) A (call (.ref 105) [.ref a]) (fun v s' => Keeps s s' ∧ Rep W s'.heap v (.bool true)) (fun _ _ => False) s := by
  refine fn_ro (n := 6) (x := "script") (l := ns.map PyData.int) (by rfl) (by kernel_rfl) rfl rfl rfl rfl (fun v => rfl) rfl rfl rfl rfl ?_ hr hg hw hl hvs hWa
  clear hr hg hw hl hvs hWa s W a vs
  intro A s₀ W₀ L hroom
  have hr1 : RoomA 1 A := ⟨hroom.1, by have := hroom.2.1; omega, by have := hroom.2.2; omega⟩
  have hr2 : RoomA 2 A := ⟨hroom.1, by have := hroom.2.1; omega, by have := hroom.2.2; omega⟩
  have hr3 : RoomA 3 A := ⟨hroom.1, by have := hroom.2.1; omega, by have := hroom.2.2; omega⟩
  have hr4 : RoomA 4 A := ⟨hroom.1, by have := hroom.2.1; omega, by have := hroom.2.2; omega⟩
  have h3 := sc.lo
  have h4 := sc.hi
  have h6 : n ≤ 6 := by omega
  have hN := sc.lenN
  have hlen := sc.len
  have hsl : (ns.map PyData.int).length = ns.length := List.length_map ..
  have e5 : (([.int 3, .int 5, .int 14] : List PyData).drop ns.length) = (([3, 5, 14] : List Int).drop ns.length).map PyData.int := by rw [List.map_drop]; rfl
  -- size
  refine ExT.cons (ExT.first (d := .int n) (fun W => Ev.callB rfl (.inr nb.min) (EvL.cons Ev.int (EvL.cons (Ev.bin (Ev.len_list rfl (.inr nb.len) (.inr rfl) (by rw [hsl]; omega)) Ev.int (Bin.fdiv_int (by decide) (PyProof.noPylong_small (by decide)))) EvL.nil)) (Bi.min2 hroom.1)) (fun W => Bin.to Bin.add_int (by
    rw [hsl, sc.en, Int.fdiv_eq_ediv_of_nonneg _ (by decide)]
    congr 1
    split <;> omega)) ?_)
  -- numbers
  refine Ex.cons (Ex.assign (d := dInts N) (fun W => (Ev.slice_list (Ev.add_ro rfl (Ev.slice_list (Ev.listd (EvL.cons Ev.int (EvL.cons Ev.int (EvL.cons Ev.int EvL.nil))) (by rw [sizeLine_eq]; decide)) (.some (Ev.len_list rfl (.inr nb.len) (.inr rfl) (by rw [hsl]; omega))) .none (by rw [sizeLine_eq]; decide)) ?_) .none (.some ((Ev.bin (Ev.name rfl) Ev.int Bin.sub_int).to (d' := .int ((n - 1 : Nat) : Int)) (by congr 1; omega))) ?_).to ?_) ?_)
  · rw [hsl, sliceL_from, e5, List.length_map, sizeLine_eq, List.length_drop]; show ns.length + (3 - ns.length) ≤ 16777216; omega
  · rw [hsl, sliceL_from, e5, List.length_append, List.length_map, List.length_map, sizeLine_eq, List.length_drop]; show ns.length + (3 - ns.length) ≤ 16777216; omega
  · rw [hsl, sliceL_from, sliceL_to, e5, ← List.map_append, ← List.map_take, ← sc.eN]
  -- above, order, names, plain, trees
  refine Ex.cons (Ex.assignT (sls := [.ow [.int (-1)], .sh (dInts [0]), .ow [], .ow [], .ow []]) [("above", _), ("order", _), ("names", _), ("plain", _), ("trees", _)] rfl (EvT.display (EvX.ow (fun W => EvN.listd (EvL.cons (Ev.neg Ev.int) EvL.nil) (by rw [sizeLine_eq]; decide)) (EvX.sh (fun W => Ev.listd (EvL.cons Ev.int EvL.nil) (by rw [sizeLine_eq]; decide)) (EvX.ow (fun W => EvN.listd EvL.nil (by rw [sizeLine_eq]; decide)) (EvX.ow (fun W => EvN.listd EvL.nil (by rw [sizeLine_eq]; decide)) (EvX.ow (fun W => EvN.listd EvL.nil (by rw [sizeLine_eq]; decide)) EvX.nil))))) (by decide) (by decide)) rfl ?_ hroom.1)
  -- the first loop
  have gN : ∀ i, i < n - 1 → (N.map PyData.int)[((1 : Int) + (i : Int) - 1).toNat]? = some (.int (N.getD i 0)) := fun i hi => by
    rw [show ((1 : Int) + (i : Int) - 1).toNat = i by omega]
    have : i < N.length := by omega
    simp [this]
  refine Ex.cons (Ex.forI (ks := (List.range (n - 1)).map fun i : Nat => (1 : Int) + i) (fun i => [("numbers", .sh (dInts N)), ("size", .sh (.int n)), ("above", .ow ((List.range (i + 1)).map fun k => .int ((cNat N k : Int) - 1))), ("order", .sh (dInts ((ordL (plN N) i).map fun k : Nat => (k : Int)))), ("names", .ow []), ("plain", .ow []), ("trees", .ow [])])
    (fun W => (It.range2 (n := n - 1) rfl (.inr nb.range) Ev.int (Ev.name rfl) (by decide) (by decide) (by omega) (by omega) (by omega) hroom.1).to (by rw [List.map_map]; rfl)) ?_ ?_ ?_)
  · exact Fewer.get (.cons rfl (.cons rfl (.cons rfl (.cons rfl (.cons rfl (.cons rfl (.cons rfl .nil)))))))
  · intro i k hki
    have hi : i < n - 1 := by
      have := (List.getElem?_eq_some_iff.mp hki).1
      simpa using this
    have ek : k = 1 + (i : Int) := by
      rw [List.getElem?_map, List.getElem?_range hi] at hki
      simpa using hki.symm
    subst ek
    have hfd : Builtin.divisionGoesByPylong (N.getD i 0) (1 + (i : Int) + 1) = false := PyProof.noPylong_small (by omega)
    have ord_len : (ordL (plN N) i).length = i + 1 := by rw [(ord_perm _ i).length_eq]; simp
    have ec : (N.getD i 0).fmod (1 + (i : Int) + 1) - 1 = (cNat N (i + 1) : Int) - 1 := by
      rw [cNat_on N (by omega)]
      congr 2
      push_cast; omega
    have ep : ((N.getD i 0).fdiv (1 + (i : Int) + 1)).fmod (1 + (i : Int) + 1) = ((plN N (i + 1) : Nat) : Int) := by
      unfold plN
      rw [(fmod_nat _ (i + 1)).1]
      simp only [Nat.add_sub_cancel]
      congr 1
      · congr 1; push_cast; omega
      · push_cast; omega
    refine Ex.cons (Ex.append (d := .int ((cNat N (i + 1) : Int) - 1)) rfl (fun W => (Ev.bin (Ev.bin (Ev.sub (Ev.name rfl) (Ev.bin (Ev.name rfl) Ev.int Bin.sub_int) (Item.list (by omega) (by omega) (gN i hi))) (Ev.bin (Ev.name rfl) Ev.int Bin.add_int) (Bin.mod_int (by omega))) Ev.int Bin.sub_int).to (by rw [ec])) (by rw [sizeLine_eq]; simp; omega) ?_)
    refine Ex.cons (Ex.assign (d := .int ((plN N (i + 1) : Nat) : Int)) (fun W => (Ev.bin (Ev.bin (Ev.sub (Ev.name rfl) (Ev.bin (Ev.name rfl) Ev.int Bin.sub_int) (Item.list (by omega) (by omega) (gN i hi))) (Ev.bin (Ev.name rfl) Ev.int Bin.add_int) (Bin.fdiv_int (by omega) hfd)) (Ev.bin (Ev.name rfl) Ev.int Bin.add_int) (Bin.mod_int (by omega))).to (by rw [ep])) ?_)
    refine Ex.cons (Ex.assign (d := dInts ((ordL (plN N) (i + 1)).map fun k : Nat => (k : Int))) (fun W => (Ev.bin (Ev.bin (Ev.slice_list (Ev.name rfl) .none (.some (Ev.name rfl)) (by rw [sizeLine_eq]; simp; omega)) (Ev.listd (EvL.cons (Ev.name rfl) EvL.nil) (by rw [sizeLine_eq]; show 1 ≤ 16777216; omega)) (Bin.add_list (by rw [sizeLine_eq, sliceL_to]; simp; omega))) (Ev.slice_list (Ev.name rfl) (.some (Ev.name rfl)) .none (by rw [sizeLine_eq]; simp; omega)) (Bin.add_list (by rw [sizeLine_eq, sliceL_to, sliceL_from]; simp; omega))).to ?_) ?_)
    · rw [sliceL_to, sliceL_from]
      show PyData.list _ = PyData.list _
      congr 1
      show _ = ((((ordL (plN N) i).take (plN N (i + 1)) ++ [i + 1]) ++ (ordL (plN N) i).drop (plN N (i + 1))).map _).map _
      simp only [List.map_append, List.map_take, List.map_drop, List.map_cons, List.map_nil]
      congr 3
      congr 1
      push_cast; omega
    · exact Ex.nil ⟨_, rfl, Fewer.get (.cons rfl (.cons rfl (.ow rfl (by rw [List.range_succ (n := i + 1), List.map_append]; rfl) (.cons rfl (.cons rfl (.cons rfl (.cons rfl .nil)))))))⟩
  rw [List.length_map, List.length_range]
  -- the second loop
  have ok : CsOk n (csN N n) := csN_ok N n
  have ea : ((List.range (n - 1 + 1)).map fun k => PyData.int ((cNat N k : Int) - 1)) = ((List.range n).map (abC (csN N n))).map PyData.int := by
    rw [show n - 1 + 1 = n by omega, List.map_map]
    refine List.map_congr_left fun k hk => ?_
    show _ = PyData.int (abC (csN N n) k)
    unfold abC; rw [csN_at N (List.mem_range.mp hk)]
  have lp := ord_perm (plN N) (n - 1)
  rw [show n - 1 + 1 = n by omega] at lp
  rw [ea]
  have lmem := ord_mem (plN N) (plN_le N) (n - 1)
  generalize csN N n = cs at ok ⊢
  generalize ordL (plN N) (n - 1) = l at lp lmem ⊢
  have hll : l.length = n := by rw [lp.length_eq]; simp
  refine Ex.freeze (x := "above") rfl ?_
  refine Ex.cons (Ex.forI (ks := (List.range n).map fun i : Nat => (i : Int)) (fun i => [("numbers", .sh (dInts N)), ("size", .sh (.int n)), ("above", .sh (dInts ((List.range n).map (abC cs)))), ("order", .sh (dInts (l.map fun k : Nat => (k : Int)))), ("names", .ow ((List.range i).map fun j => .str (nm cs j))), ("plain", .ow ((List.range i).map fun j => .str (nm cs j))), ("trees", .ow ((List.range i).map fun j => .int (tr cs j)))])
    (fun W => (It.range1 (n := n) rfl (.inr nb.range) (Ev.name rfl) (by omega) hroom.1).to (by rw [List.map_map]; rfl)) ?_ ?_ ?_)
  · exact Fewer.get (.cons rfl (.cons rfl (.cons rfl (.cons rfl (.cons rfl (.cons rfl (.cons rfl .nil)))))))
  · intro i k hki
    have hi : i < n := by
      have := (List.getElem?_eq_some_iff.mp hki).1
      simpa using this
    have ek : k = (i : Int) := by
      rw [List.getElem?_map, List.getElem?_range hi] at hki
      simpa using hki.symm
    subst ek
    have hle := ok.le i hi
    have hab : abC cs i = (cs.getD i 0 : Int) - 1 := rfl
    have len2 : sizeLine = 16777216 := sizeLine_eq
    have ll : (⟨#[97 + i]⟩ : Str).length = 1 := rfl
    have ld : (Str.ofString ".").length = 1 := by decide
    have lC : (Str.ofString "C").length = 1 := by decide
    have nl : ∀ j, j < n → (nm cs j).length ≤ 13 := fun j hj => by have := (nm_ok ok h6 j hj).2; omega
    have er : decide (abC cs i < 0) = decide (cs.getD i 0 = 0) := by rw [decide_eq_decide, hab]; omega
    refine Ex.cons (Ex.assign (d := .bool (decide (cs.getD i 0 = 0))) (fun W => (Ev.cmp (Ev.sub (Ev.name rfl) (Ev.name rfl) (Item.list (by omega) (by omega) (get_ints (f := abC cs) hi))) Ev.int Cmp.lt_int).to (by rw [er])) ?_)
    refine Ex.cons (Ex.append (d := .str (nm cs i)) rfl (fun W => ?_) (by rw [sizeLine_eq]; simp; omega) ?_)
    · by_cases h0 : cs.getD i 0 = 0
      · exact (Ev.callF rfl nf.build rfl (EvL.cons (Ev.tupled (EvL.cons (Ev.ifexp (c := true) ((Tr.plain (Ev.name rfl) TruV.bool).to (decide_eq_true h0)) (fun _ => Ev.noneC) (fun h => by cases h)) (EvL.cons (Ev.sub Ev.str (Ev.name rfl) (Item.str (by omega) (by omega) (letter_at (by omega)))) EvL.nil)) (by rw [sizeLine_eq]; show 2 ≤ 16777216; omega)) EvL.nil) (build_none_ok (by rw [ll]; decide)) hr2).to (by rw [nm_root h0]; rfl)
      · have hj : cs.getD i 0 - 1 < i := by omega
        have ej : abC cs i = ((cs.getD i 0 - 1 : Nat) : Int) := by rw [hab]; omega
        have := nl (cs.getD i 0 - 1) (by omega)
        exact (Ev.callF rfl nf.build rfl (EvL.cons (Ev.tupled (EvL.cons (Ev.ifexp (c := false) ((Tr.plain (Ev.name rfl) TruV.bool).to (decide_eq_false h0)) (fun h => by cases h) (fun _ => Ev.sub_ow rfl ((Ev.sub (Ev.name rfl) (Ev.name rfl) (Item.list (by omega) (by omega) (get_ints (f := abC cs) hi))).to (by rw [ej])) (by omega) (by omega) (get_own (f := fun j => PyData.str (nm cs j)) hj))) (EvL.cons (Ev.sub Ev.str (Ev.name rfl) (Item.str (by omega) (by omega) (letter_at (by omega)))) EvL.nil)) (by rw [sizeLine_eq]; show 2 ≤ 16777216; omega)) EvL.nil) (build_ok (by rw [ll]; show _ ≤ 1048576; omega)) hr2).to (by rw [nm_on h0 hle]; rfl)
    refine Ex.cons (Ex.append (d := .str (nm cs i)) rfl (fun W => ?_) (by rw [sizeLine_eq]; simp; omega) ?_)
    · by_cases h0 : cs.getD i 0 = 0
      · exact (Ev.bin (Ev.bin (Ev.ifexp (c := true) ((Tr.plain (Ev.name rfl) TruV.bool).to (decide_eq_true h0)) (fun _ => Ev.str) (fun h => by cases h)) Ev.str (Bin.add_str (by rw [len2, lC, ld]; omega))) (Ev.sub Ev.str (Ev.name rfl) (Item.str (by omega) (by omega) (letter_at (by omega)))) (Bin.add_str (by rw [len2, Str.length_append, lC, ld, ll]; omega))).to (by rw [nm_root h0]; rfl)
      · have hj : cs.getD i 0 - 1 < i := by omega
        have ej : abC cs i = ((cs.getD i 0 - 1 : Nat) : Int) := by rw [hab]; omega
        have := nl (cs.getD i 0 - 1) (by omega)
        exact (Ev.bin (Ev.bin (Ev.ifexp (c := false) ((Tr.plain (Ev.name rfl) TruV.bool).to (decide_eq_false h0)) (fun h => by cases h) (fun _ => Ev.sub_ow rfl ((Ev.sub (Ev.name rfl) (Ev.name rfl) (Item.list (by omega) (by omega) (get_ints (f := abC cs) hi))).to (by rw [ej])) (by omega) (by omega) (get_own (f := fun j => PyData.str (nm cs j)) hj))) Ev.str (Bin.add_str (by rw [len2, ld]; omega))) (Ev.sub Ev.str (Ev.name rfl) (Item.str (by omega) (by omega) (letter_at (by omega)))) (Bin.add_str (by rw [len2, Str.length_append, ld, ll]; omega))).to (by rw [nm_on h0 hle]; rfl)
    refine Ex.cons (Ex.append (d := .int (tr cs i)) rfl (fun W => ?_) (by rw [sizeLine_eq]; simp; omega) ?_)
    · by_cases h0 : cs.getD i 0 = 0
      · exact (Ev.ifexp (c := true) ((Tr.plain (Ev.name rfl) TruV.bool).to (decide_eq_true h0)) (fun _ => Ev.name rfl) (fun h => by cases h)).to (by rw [tr_root h0])
      · have hj : cs.getD i 0 - 1 < i := by omega
        have ej : abC cs i = ((cs.getD i 0 - 1 : Nat) : Int) := by rw [hab]; omega
        exact (Ev.ifexp (c := false) ((Tr.plain (Ev.name rfl) TruV.bool).to (decide_eq_false h0)) (fun h => by cases h) (fun _ => Ev.sub_ow rfl ((Ev.sub (Ev.name rfl) (Ev.name rfl) (Item.list (by omega) (by omega) (get_ints (f := abC cs) hi))).to (by rw [ej])) (by omega) (by omega) (get_own (f := fun j => PyData.int (tr cs j)) hj))).to (by rw [tr_on h0 hle])
    refine Ex.nil ⟨_, rfl, Fewer.get (.cons rfl (.cons rfl (.cons rfl (.cons rfl (.ow rfl ?_ (.ow rfl ?_ (.ow rfl ?_ .nil)))))))⟩ <;> (rw [List.range_succ, List.map_append]; rfl)
  rw [List.length_map, List.length_range]
  have en : ((List.range n).map fun j => PyData.str (nm cs j)) = ((List.range n).map (nm cs)).map PyData.str := by rw [List.map_map]; rfl
  have et : ((List.range n).map fun j => PyData.int (tr cs j)) = (((List.range n).map (tr cs)).map fun k : Nat => (k : Int)).map PyData.int := by rw [List.map_map, List.map_map]; rfl
  rw [en, et]
  refine Ex.freeze (x := "names") rfl (Ex.freeze (x := "plain") rfl (Ex.freeze (x := "trees") rfl ?_))
  have dm := d0_mem h3 h4 lmem
  have hmem : ∀ k, k < n → k ∈ l := fun k hk => lp.mem_iff.mpr (List.mem_range.mpr hk)
  have hmemI : ∀ k, k < n → ((k : Nat) : Int) ∈ l.map fun k : Nat => (k : Int) := fun k hk => List.mem_map.mpr ⟨k, hmem k hk, rfl⟩
  have hlay : PyData.layable0 (.list ((l.map fun k : Nat => (k : Int)).map .int)) = true := layable_ints (by
    intro i hi
    obtain ⟨k, hk, rfl⟩ := List.mem_map.mp hi
    have := List.mem_range.mp (lp.mem_iff.mp hk)
    omega) (by simp; omega)
  -- dots, end
  obtain ⟨e, he, hes⟩ : ∃ e : Str, IsEnd (ch e) ∧ ([.str "\n", .str "\r", .str "\r\n"] : List PyData)[(N.sum.fmod 3).toNat]? = some (.str e) := by
    have h1 : N.sum.fmod 3 = N.sum % 3 := Int.fmod_eq_emod_of_nonneg _ (by decide)
    have : N.sum.fmod 3 = 0 ∨ N.sum.fmod 3 = 1 ∨ N.sum.fmod 3 = 2 := by rw [h1]; omega
    rcases this with h | h | h <;> rw [h]
    · exact ⟨_, show IsEnd (ch (Str.ofString "\n")) from (by have q : ch (Str.ofString "\n") = [10] := by decide
                                                             rw [q]; exact .lf), rfl⟩
    · exact ⟨_, show IsEnd (ch (Str.ofString "\r")) from (by have q : ch (Str.ofString "\r") = [13] := by decide
                                                             rw [q]; exact .cr), rfl⟩
    · exact ⟨_, show IsEnd (ch (Str.ofString "\r\n")) from (by have q : ch (Str.ofString "\r\n") = [13, 10] := by decide
                                                               rw [q]; exact .crlf), rfl⟩
  have hfm : 0 ≤ N.sum.fmod 3 ∧ N.sum.fmod 3 < 3 := by
    have h1 : N.sum.fmod 3 = N.sum % 3 := Int.fmod_eq_emod_of_nonneg _ (by decide)
    rw [h1]; omega
  have ed0 : PyData.list ((List.range n).map fun k : Nat => PyData.int ((l.idxOf k + 1 : Nat) : Int)) = dL (d0L n l) := by
    unfold dL dInts d0L; rw [List.map_map, List.map_map]; rfl
  refine Ex.cons (Ex.assignTS (sls := [.sh (dL (d0L n l)), .sh (.str e)]) ["dots", "end"] (EvT.display (EvX.sh (fun W => (EvN.comp (ys := List.range n) (g := fun k : Nat => PyData.int k) (p := fun _ => true) (f := fun k : Nat => .int ((l.idxOf k + 1 : Nat) : Int)) (It.range1 (n := n) rfl (.inr nb.range) (Ev.name rfl) (by omega) hroom.1) (by simp [sizeLine_eq]; omega) (fun k hk W' c => TrL.nil)
    (fun k hk _ W' c => (Ev.bin (Ev.meth (Ev.name rfl) (GMeth.list F.slot_list_index F.type_list_index) (EvL.cons (Ev.name rfl) EvL.nil) (Bi.index hlay (hmemI k (List.mem_range.mp hk)))) Ev.int Bin.add_int).to (by rw [idx_nat]; push_cast; rfl))).ev.to (by rw [filter_all, ed0])) (EvX.sh (fun W => Ev.sub (Ev.tupled (EvL.cons Ev.str (EvL.cons Ev.str (EvL.cons Ev.str EvL.nil))) (by rw [sizeLine_eq]; decide)) (Ev.bin (Ev.callB rfl (.inr nb.sum) (EvL.cons (Ev.name rfl) EvL.nil) (Bi.sum hroom.1)) Ev.int (Bin.mod_int (by decide))) (Item.tuple hfm.1 (by omega) hes)) EvX.nil)) (by decide) (by simp)) rfl ?_ hroom.1)
  generalize d0L n l = d0 at dm ⊢
  have w0 := wf_of h3 h4 dm
  obtain ⟨NN, cc⟩ := cm h3 h4 ok dm
  have cp := cc.perm
  -- measure
  obtain ⟨mx1, mx2, mx3⟩ := meas_max (cs := cs) (n := n) (by omega)
  have ets : PyData.list ((((List.range n).map (tr cs)).map fun k : Nat => (k : Int)).map PyData.int) = PyData.list (((List.range n).map (tr cs)).map fun k : Nat => PyData.int (k : Int)) := by simp only [List.map_map]; rfl
  have edv : ∀ i : Nat, PyData.eqv (.list ((((List.range n).map (tr cs)).filter fun k => (((cntT n cs k : Nat) : Int).fmod (1 + (i : Int)) != 0)).map fun k : Nat => PyData.int (k : Int))) (.list []) = dv n cs i := fun i => by
    have e1 : ∀ k : Nat, (((cntT n cs k : Nat) : Int).fmod (1 + (i : Int)) != 0) = !(cntT n cs k % (i + 1) == 0) := fun k => by
      have : ((cntT n cs k : Nat) : Int).fmod (1 + (i : Int)) = ((cntT n cs k % (i + 1) : Nat) : Int) := by
        rw [Int.fmod_eq_emod_of_nonneg _ (by omega)]; push_cast; congr 1; omega
      rw [this]
      by_cases h : cntT n cs k % (i + 1) = 0
      · rw [h]; rfl
      · rw [beq_eq_false_iff_ne.mpr h]
        show _ = true
        rw [bne_iff_ne]; omega
    unfold dv
    cases hf : ((List.range n).map (tr cs)).filter fun k => (((cntT n cs k : Nat) : Int).fmod (1 + (i : Int)) != 0) with
    | nil =>
      show true = _
      symm
      rw [List.all_eq_true]
      intro k hk
      have := List.filter_eq_nil_iff.mp hf k hk
      rw [e1] at this
      simpa using this
    | cons a r =>
      show false = _
      symm
      rw [List.all_eq_false]
      have ha : a ∈ ((List.range n).map (tr cs)).filter fun k => (((cntT n cs k : Nat) : Int).fmod (1 + (i : Int)) != 0) := by rw [hf]; exact List.mem_cons_self ..
      rw [List.mem_filter, e1] at ha
      refine ⟨a, ha.1, ?_⟩
      have := ha.2
      simpa using this
  refine Ex.cons (Ex.assign (d := .int (measN n cs : Nat)) (fun W => Ev.callB rfl (.inr nb.max) (EvL.cons ((EvN.ofRule (comp_rule1 (ys := List.range n) (g := fun i : Nat => PyData.int ((1 : Int) + i)) (f := fun i : Nat => PyData.int ((1 : Int) + i)) (p := dv n cs) (some "d") [("trees", .list ((((List.range n).map (tr cs)).map fun k : Nat => (k : Int)).map PyData.int))]
    (It.range2 (n := n) rfl (.inr nb.range) Ev.int (Ev.bin (Ev.name rfl) Ev.int Bin.add_int) (by decide) (by decide) (by omega) (by omega) (by omega) hroom.1) (by simp [sizeLine_eq]; omega)
    (fun i hi W' L' => TrL.one ((Tr.cmp (EvN.comp (ys := (List.range n).map (tr cs)) (g := fun k : Nat => PyData.int (k : Int)) (p := fun k => (((cntT n cs k : Nat) : Int).fmod (1 + (i : Int)) != 0)) (f := fun k : Nat => PyData.int (k : Int)) (It.list ((Ev.name rfl).to ets) hroom.1) (by simp [sizeLine_eq]; omega)
      (fun k hk W'' c => TrL.one ((Tr.cmp (Ev.bin (Ev.meth (Ev.name rfl) (GMeth.list F.slot_list_count F.type_list_count) (EvL.cons (Ev.name rfl) EvL.nil) Bi.count) (Ev.name rfl) (Bin.mod_int (by omega))) Ev.int Cmp.ne_int).to (by rw [count_nat]; rfl))) (fun k hk _ W'' c => Ev.name rfl)).ev (Ev.listd EvL.nil (by rw [sizeLine_eq]; decide)) (Cmp.eq_data ?_ rfl hr1)).to (edv i)))
    (fun i hi _ W' L' => Ev.name rfl) ?_ (.inr ⟨rfl, rfl⟩))).ev.to ?_) EvL.nil) (Bi.max mx1 mx2 hroom.1)) ?_)
  · have := ke_shaped_ints ((((List.range n).map (tr cs)).filter fun k => (((cntT n cs k : Nat) : Int).fmod (1 + (i : Int)) != 0)).map fun k : Nat => (k : Int))
    rw [List.map_map] at this
    exact this
  · exact g0_one rfl rfl
  · unfold dInts; rw [List.map_map]; rfl
  generalize hM : measN n cs = M at mx3 cp
  -- standings
  refine Ex.cons (Ex.assign (d := .list [.list []]) (fun W => Ev.listd (EvL.cons (Ev.listd EvL.nil (by rw [sizeLine_eq]; decide)) EvL.nil) (by rw [sizeLine_eq]; decide)) ?_)
  refine Ex.cons (Ex.forI (ks := (List.range n).map fun i : Nat => (i : Int)) (fun k => [("size", .sh (.int n)), ("above", .sh (dInts ((List.range n).map (abC cs)))), ("names", .sh (dStrs ((List.range n).map (nm cs)))), ("plain", .sh (dStrs ((List.range n).map (nm cs)))), ("dots", .sh (dL d0)), ("end", .sh (.str e)), ("measure", .sh (.int (M : Nat))), ("standings", .sh (.list ((standL k).map dL)))])
    (fun W => (It.range1 (n := n) rfl (.inr nb.range) (Ev.name rfl) (by omega) hroom.1).to (by rw [List.map_map]; rfl)) ?_ ?_ ?_)
  · exact Fewer.get (.cons rfl (.cons rfl (.cons rfl (.cons rfl (.cons rfl (.cons rfl (.cons rfl (.cons rfl .nil))))))))
  · intro i k hki
    have hi : i < n := by
      have := (List.getElem?_eq_some_iff.mp hki).1
      simpa using this
    have ek : k = (i : Int) := by
      rw [List.getElem?_map, List.getElem?_range hi] at hki
      simpa using hki.symm
    subst ek
    have sc1 := stand_count (k := i) (by omega)
    have sc2 := stand_count (k := i + 1) (by omega)
    refine Ex.cons (Ex.assignR (ds := (standL (i + 1)).map dL) (fun W => ?_) ?_)
    · have elen : ((standL i).flatMap fun one => (List.range (i + 1)).map fun p => dL (one.take p ++ [i + 1] ++ one.drop p)) = (standL (i + 1)).map dL := by
        show _ = ((standL i).flatMap fun one => (List.range (i + 1)).map fun p => one.take p ++ [i + 1] ++ one.drop p).map dL
        rw [List.map_flatMap]
        congr 1
        funext one
        rw [List.map_map]; rfl
      refine (comp_rule2 (ys := standL i) (g := dL) (zs := fun _ => List.range (i + 1)) (g1 := fun p : Nat => PyData.int (p : Int)) (f := fun one p => dL (one.take p ++ [i + 1] ++ one.drop p)) [("k", .int (i : Int))] (It.list (Ev.name rfl) hroom.1) (fun one h1 W' L' => It.range1 (n := i + 1) rfl (.inr nb.range) ((Ev.bin (Ev.name rfl) Ev.int Bin.add_int).to (by push_cast; rfl)) (by omega) hroom.1) (fun one h1 p hp W' L' => ?_) (by rw [elen, List.length_map, sizeLine_eq]; omega) (g0_one rfl rfl) hroom.1).to elen
      have ol := stand_len i one h1
      refine (Ev.bin (Ev.bin (Ev.slice_list (Ev.name rfl) .none (.some (Ev.name rfl)) (by rw [sizeLine_eq]; simp; omega)) (Ev.listd (EvL.cons (Ev.bin (Ev.name rfl) Ev.int Bin.add_int) EvL.nil) (by rw [sizeLine_eq]; show 1 ≤ 16777216; omega)) (Bin.add_list (by rw [sizeLine_eq, sliceL_to]; simp; omega))) (Ev.slice_list (Ev.name rfl) (.some (Ev.name rfl)) .none (by rw [sizeLine_eq]; simp; omega)) (Bin.add_list (by rw [sizeLine_eq, sliceL_to, sliceL_from]; simp; omega))).to ?_
      rw [sliceL_to, sliceL_from]
      show PyData.list _ = PyData.list _
      congr 1
      simp only [List.map_append, List.map_take, List.map_drop, List.map_cons, List.map_nil]
      congr 3
    · refine Ex.freeze (x := "standings") rfl ?_
      exact Ex.nil ⟨_, rfl, Fewer.get (.cons rfl (.cons rfl (.cons rfl (.cons rfl (.cons rfl (.cons rfl (.cons rfl (.cons rfl .nil))))))))⟩
  rw [List.length_map, List.length_range]
  have nml : ∀ k, k < n → (nm cs k).length ≤ 100 := fun k hk => by have := (nm_ok ok h6 k hk).2; omega
  have wok : ∀ d, d.length = n → FnOk pr2 w (K2 w) mg mb 2 100 [dL d, dInts ((List.range n).map (abC cs)), .int (M : Nat)] (.int (wor n cs d (M : Nat))) := fun d hd => worth_ok nb h3 h4 ok hd (by omega)
  have pok : ∀ d, WfS n d → FnOk pr2 w (K2 w) mg mb 2 88 [dL d, dStrs ((List.range n).map (nm cs))] (dStrs (pgL n (nm cs) d)) := fun d wd => page2_ok nb (by omega) wd.1 (fun k hk => by have := (wd.2 k hk).2; omega) nml
  have sc0 := stand_count (k := n) h4
  -- worth, due
  refine Ex.cons (Ex.assign (d := .int (wor n cs d0 (M : Nat))) (fun W => Ev.callF rfl nf.worth rfl (EvL.cons (Ev.name rfl) (EvL.cons (Ev.name rfl) (EvL.cons (Ev.name rfl) EvL.nil))) (wok d0 w0.1) hr2) ?_)
  refine Ex.cons (Ex.assignC (ys := standL n) (g := dL) (p := fun d => wor n cs d (M : Nat) == wor n cs d0 (M : Nat)) (f := fun d => dStrs (pgL n (nm cs) d)) (fun W => It.list (Ev.name rfl) hroom.1) (by rw [sizeLine_eq]; omega)
    (fun W d hd W' c => TrL.one (Tr.cmp (Ev.callF rfl nf.worth rfl (EvL.cons (Ev.name rfl) (EvL.cons (Ev.name rfl) (EvL.cons (Ev.name rfl) EvL.nil))) (wok d (stand_len n d hd)) hr2) (Ev.name rfl) Cmp.eq_int)) (fun W d hd _ W' c => Ev.callF rfl nf.page rfl (EvL.cons (Ev.name rfl) (EvL.cons (Ev.name rfl) EvL.nil)) (pok d (wf_of h3 h4 hd)) hr2) ?_)
  refine Ex.freeze (x := "due") rfl ?_
  -- strange
  have bh : ∀ i j, i < n → j < n → FnOk pr2 w (K2 w) mg mb 3 76 [.str (nm cs i), .str (nm cs j)] (.bool (abC cs i == (j : Int))) := fun i j hi hj => by
    have o1 := (nm_ok ok h6 i hi).1
    obtain ⟨pre, hp⟩ := o1.ends
    have fr := o1.free
    rw [hp] at fr
    have l1 := nml i hi
    have l2 := nml j hj
    have key := behind_ok (w := w) (mb := mb) nb nf (name := nm cs i) (other := nm cs j) hp ⟨fun q => (fr 10 (List.mem_append_left _ q)).1 rfl, fun q => (fr 58 (List.mem_append_left _ q)).2.2.1 rfl⟩ ⟨by omega, by omega, by omega⟩ (by show _ ≤ 1024; omega) (by show _ ≤ 1024; omega)
    rw [nm_tied ok h6 i j hi hj] at key
    exact key
  refine Ex.cons (Ex.assignR (ds := (List.range n).map fun i => PyData.list ((List.range n).map fun j => .bool (tiedB (abC cs) i j))) (fun W => CompRule.to (comp_rule1 (ys := List.range n) (g := fun i => PyData.str (nm cs i)) (f := fun i => PyData.list ((List.range n).map fun j => .bool (tiedB (abC cs) i j))) (p := fun _ => true) (some "one") [("names", dStrs ((List.range n).map (nm cs)))] (It.list ((Ev.name rfl).to (by simp [dStrs])) hroom.1) (by simp [sizeLine_eq]; omega) (fun i hi W' L' => TrL.nil)
    (fun i hi _ W' L' => ?_) (g0_one rfl rfl) (.inr ⟨rfl, rfl⟩)) (by rw [filter_all])) ?_)
  · refine Ev.to (EvN.ev (EvN.comp (ys := List.range n) (g := fun j => PyData.str (nm cs j)) (p := fun _ => true) (f := fun j => .bool (tiedB (abC cs) i j)) (It.list ((Ev.name rfl).to (by simp [dStrs])) hroom.1) (by simp [sizeLine_eq]; omega) (fun j hj W'' c => TrL.nil) (fun j hj _ W'' c => ?_))) (by rw [filter_all])
    exact Ev.or2 (Ev.callF rfl nf.behind rfl (EvL.cons (Ev.name rfl) (EvL.cons (Ev.name rfl) EvL.nil)) (bh i j (List.mem_range.mp hi) (List.mem_range.mp hj)) hr3) (fun _ => Ev.callF rfl nf.behind rfl (EvL.cons (Ev.name rfl) (EvL.cons (Ev.name rfl) EvL.nil)) (bh j i (List.mem_range.mp hj) (List.mem_range.mp hi)) hr3)
  refine Ex.freeze (x := "strange") rfl ?_
  -- what comes, and what is due
  have cn := cc.nodup
  have c2 := cc.two
  have rok := reached_ok (w := w) (mb := mb) nb nf (n := n) (nm := nm cs) (sg := tiedB (abC cs)) (d0 := d0) (e := e) (N := NN) h3 h4 (fun k hk => (nm_ok ok h6 k hk).1) (nm_small ok h6) w0 he cc.le cc.go cc.stop
  clear cc
  generalize st n (tiedB (abC cs)) d0 NN = R at cp cn c2 rok
  generalize hD : (standL n).filter (fun d => wor n cs d (M : Nat) == wor n cs d0 (M : Nat)) = D at cp ⊢
  have dn : D.Nodup := cp.nodup_iff.mp cn
  have dlen : D.length ≤ 24 := by
    rw [← hD]; exact Nat.le_trans (List.length_filter_le _ _) sc0
  have rlen : R.length = D.length := cp.length_eq
  have dw : ∀ d ∈ D, WfS n d := fun d hd => by
    rw [← hD] at hd; exact wf_of h3 h4 (List.mem_filter.mp hd).1
  have rw' : ∀ d ∈ R, WfS n d := fun d hd => dw d (cp.mem_iff.mp hd)
  have ndp : ∀ X : List (List Nat), X.Nodup → (∀ d ∈ X, WfS n d) → (X.map (pgL n (nm cs))).Nodup := fun X hn hw => by
    unfold List.Nodup
    rw [List.pairwise_map]
    exact List.Pairwise.imp_of_mem (fun ha hb hne h => hne (pgL_inj (hw _ ha).1 (hw _ hb).1 h)) hn
  obtain ⟨qs, q1, q2⟩ := sorted_ex (R.map (pgL n (nm cs))) (ndp R cn rw')
  have q3 : qs.Perm (D.map (pgL n (nm cs))) := q1.trans (cp.map _)
  have hsh : SeqAt.shaped (.list (qs.map fun p => dStrs p)) = true := shaped_pages fun p hp => by
    obtain ⟨d, _, rfl⟩ := List.mem_map.mp (q1.mem_iff.mp hp)
    exact strOk_pgL (nm_small ok h6)
  have eR : PyData.list (R.map fun d => dStrs (pgL n (nm cs) d)) = .list ((R.map (pgL n (nm cs))).map fun p => dStrs p) := by rw [List.map_map]; rfl
  have eD : PyData.list (D.map fun d => dStrs (pgL n (nm cs) d)) = .list ((D.map (pgL n (nm cs))).map fun p => dStrs p) := by rw [List.map_map]; rfl
  refine Ex.cons (Ex.ret (d := .bool true) (fun W => (Ev.cmp (Ev.callB rfl (.inr nb.sorted) (EvL.cons ((Ev.callF rfl nf.reached rfl (EvL.cons (Ev.callF rfl nf.page rfl (EvL.cons (Ev.name rfl) (EvL.cons (Ev.name rfl) EvL.nil)) (pok d0 w0) hr2) (EvL.cons (Ev.name rfl) (EvL.cons (Ev.name rfl) EvL.nil))) rok hr4).to eR) EvL.nil) (Bi.sortedS (ndp R cn rw') (by simpa using c2) (by rw [List.length_map]; omega) q1 q2 hr1))
    (Ev.callB rfl (.inr nb.sorted) (EvL.cons ((Ev.name rfl).to eD) EvL.nil) (Bi.sortedS (ndp D dn dw) (by rw [List.length_map]; omega) (by rw [List.length_map]; omega) q3 q2 hr1)) (Cmp.eq_data hsh hsh hr1)).to (by rw [SeqAt.eqv_refl _ (SeqAt.canLay_of_shaped hsh)])) rfl)
end Mine
end

section
open PySem PySem.Calls PySem.W PyProof.Rows
set_option maxRecDepth 100000
set_option linter.unusedVariables false
namespace Mine

/-! ## what the search comes to -/
inductive Reach (n : Nat) (sg : Nat → Nat → Bool) (d : List Nat) : List Nat → Prop
  | refl : Reach n sg d d
  | step {x lo hi} : Reach n sg d x → lo < n → hi < n → okSw n sg x lo hi = true → Reach n sg d (swp x lo hi)

section
variable {n : Nat} {sg : Nat → Nat → Bool} {d d0 : List Nat} {lo hi : Nat} {acc : List (List Nat)}
theorem Reach.trans {x y : List Nat} (h : Reach n sg d x) (h' : Reach n sg x y) : Reach n sg d y := by
  induction h' with
  | refl => exact h
  | step _ a b c ih => exact .step ih a b c
theorem Reach.len {x : List Nat} (h : Reach n sg d x) (hd : d.length = n) : x.length = n := by
  induction h with
  | refl => exact hd
  | step _ _ _ _ ih => rw [swp_len]; exact ih
theorem ok_gap (h3 : 3 ≤ n) (h : okSw n sg d lo hi = true) : lo ≠ hi := by
  unfold okSw at h
  rw [Bool.and_eq_true, Bool.or_eq_true, beq_iff_eq, beq_iff_eq] at h
  intro e; subst e; omega
theorem swp_back (hd : d.length = n) (hl : lo < n) (hh : hi < n) (hne : lo ≠ hi) : swp (swp d lo hi) hi lo = d := by
  have g := swp_get (d := d) (lo := lo) (hi := hi) (by omega) (by omega)
  have g2 := swp_get (d := swp d lo hi) (lo := hi) (hi := lo) (by rw [swp_len]; omega) (by rw [swp_len]; omega)
  apply List.ext_getElem?
  intro k
  by_cases hk : k < n
  · have e : (swp (swp d lo hi) hi lo).getD k 0 = d.getD k 0 := by
      rw [g2]
      by_cases h1 : k = lo
      · rw [if_pos h1, g, if_pos rfl, h1]
      · rw [if_neg h1]
        by_cases h2 : k = hi
        · rw [if_pos h2, g, if_neg hne, if_pos rfl, h2]
        · rw [if_neg h2, g, if_neg h2, if_neg h1]
    have l1 : k < (swp (swp d lo hi) hi lo).length := by rw [swp_len, swp_len]; omega
    have l2 : k < d.length := by omega
    simpa [List.getD_eq_getElem?_getD, l1, l2] using e
  · rw [List.getElem?_eq_none (by rw [swp_len, swp_len]; omega), List.getElem?_eq_none (by omega)]
theorem ok_back (hs : ∀ i j, sg i j = sg j i) (hd : d.length = n) (hl : lo < n) (hh : hi < n) (hne : lo ≠ hi) (h : okSw n sg d lo hi = true) : okSw n sg (swp d lo hi) hi lo = true := by
  have g := swp_get (d := d) (lo := lo) (hi := hi) (by omega) (by omega)
  unfold okSw at h ⊢
  rw [g, g, if_neg hne, if_pos rfl, if_pos rfl, hs hi lo]
  exact h
theorem Reach.symm (h3 : 3 ≤ n) (hs : ∀ i j, sg i j = sg j i) (hd : d.length = n) {x : List Nat} (h : Reach n sg d x) : Reach n sg x d := by
  induction h with
  | refl => exact .refl
  | @step x lo hi r hl hh ho ih =>
    have hx := r.len hd
    have hne := ok_gap h3 ho
    have one : Reach n sg (swp x lo hi) (swp (swp x lo hi) hi lo) := .step .refl hh hl (ok_back hs hx hl hh hne ho)
    rw [swp_back hx hl hh hne] at one
    exact one.trans ih

theorem vis_pre : acc <+: vis n sg d lo acc hi := by
  unfold vis
  split
  · exact List.prefix_append _ _
  · exact List.prefix_refl _
theorem row_pre (j : Nat) (hj : j ≤ n) : acc <+: rowF n sg d lo acc j := rowF_ind (J := fun a => acc <+: a) (List.prefix_refl _) (fun a hi _ h => h.trans vis_pre) j hj
theorem col_pre (i : Nat) (hi : i ≤ n) : acc <+: colF n sg d acc i := colF_ind (J := fun a => acc <+: a) (List.prefix_refl _) (fun a lo hi _ _ h => h.trans vis_pre) i hi
theorem st_pre {t : Nat} : ∀ k, st n sg d0 t <+: st n sg d0 (t + k)
  | 0 => List.prefix_refl _
  | k + 1 => (st_pre k).trans (col_pre n (Nat.le_refl _))
theorem vis_mem (h : okSw n sg d lo hi = true) : swp d lo hi ∈ vis n sg d lo acc hi := by
  unfold vis
  rw [h, Bool.true_and]
  cases hc : acc.contains (swp d lo hi) with
  | true => rw [if_neg (by simp)]; exact List.contains_iff_mem.mp hc
  | false => rw [Bool.not_false, if_pos rfl]; exact List.mem_append_right _ (List.mem_singleton.mpr rfl)
theorem row_has (h : okSw n sg d lo hi = true) : ∀ j, j ≤ n → hi < j → swp d lo hi ∈ rowF n sg d lo acc j
  | j + 1, hj, hlt => by
    rw [rowF_succ]
    by_cases e : hi = j
    · subst e; exact vis_mem h
    · exact vis_pre.subset (row_has h j (by omega) (by omega))
theorem col_has (h : okSw n sg d lo hi = true) (hh : hi < n) : ∀ i, i ≤ n → lo < i → swp d lo hi ∈ colF n sg d acc i
  | i + 1, hi', hlt => by
    rw [colF_succ]
    by_cases e : lo = i
    · subst e; exact row_has h n (Nat.le_refl _) hh
    · exact (row_pre n (Nat.le_refl _)).subset (col_has h hh i (by omega) (by omega))
theorem st_nodup : ∀ t, (st n sg d0 t).Nodup
  | 0 => by show [d0].Nodup; simp
  | t + 1 => by
    refine colF_ind (J := fun a => a.Nodup) (st_nodup t) (fun a lo hi _ _ h => ?_) n (Nat.le_refl _)
    unfold vis
    split
    · rename_i hc
      rw [Bool.and_eq_true] at hc
      have hn : swp ((st n sg d0 t).getD t []) lo hi ∉ a := fun hm => by
        have := List.contains_iff_mem.mpr hm
        rw [this] at hc
        exact absurd hc.2 (by simp)
      rw [List.nodup_append]
      refine ⟨h, by simp, fun x hx y hy e => ?_⟩
      rw [List.mem_singleton.mp hy] at e
      exact hn (e ▸ hx)
    · exact h
theorem st_reach (h3 : 3 ≤ n) : ∀ t, ∀ x ∈ st n sg d0 t, Reach n sg d0 x
  | 0, x, h => by rw [List.mem_singleton.mp h]; exact .refl
  | t + 1, x, h => by
    have ih := st_reach h3 t
    refine colF_ind (J := fun a => ∀ x ∈ a, Reach n sg d0 x) ih (fun a lo hi hl hh ha => ?_) n (Nat.le_refl _) x h
    unfold vis
    split
    · rename_i hc
      rw [Bool.and_eq_true] at hc
      intro y hy
      rcases List.mem_append.mp hy with q | q
      · exact ha y q
      · rw [List.mem_singleton.mp q]
        refine .step ?_ hl hh hc.1
        by_cases ht : t < (st n sg d0 t).length
        · have e : (st n sg d0 t).getD t [] = (st n sg d0 t)[t] := by simp [ht]
          rw [e]; exact ih _ (List.getElem_mem ht)
        · have e : (st n sg d0 t).getD t [] = [] := by simp [Nat.le_of_not_lt ht]
          have h1 := hc.1
          rw [e] at h1
          unfold okSw at h1
          rw [Bool.and_eq_true, Bool.or_eq_true, beq_iff_eq, beq_iff_eq] at h1
          have z : ∀ k, ([] : List Nat).getD k 0 = 0 := fun k => by simp
          rw [z, z] at h1
          omega
    · exact ha
theorem nodup_le {α : Type} [BEq α] [LawfulBEq α] : ∀ {a b : List α}, a.Nodup → (∀ x ∈ a, x ∈ b) → a.length ≤ b.length
  | [], _, _, _ => Nat.zero_le _
  | x :: a, b, nd, h => by
    rw [List.nodup_cons] at nd
    have hx := h x (List.mem_cons_self ..)
    have ih := nodup_le (b := b.erase x) nd.2 fun y hy => (List.mem_erase_of_ne (fun e => nd.1 (by rw [← e]; exact hy))).mpr (h y (List.mem_cons_of_mem _ hy))
    have := List.length_erase_of_mem hx
    have hp := List.length_pos_of_mem hx
    rw [List.length_cons]; omega
/-- the search ends closed -/
theorem st_closed {N : Nat} (hT : ∀ i, i < N → i < (st n sg d0 i).length ∧ i < 24) (hl : (st n sg d0 N).length ≤ N) {x : List Nat} (hx : x ∈ st n sg d0 N) (h1 : lo < n) (h2 : hi < n) (ho : okSw n sg x lo hi = true) : swp x lo hi ∈ st n sg d0 N := by
  obtain ⟨i, hi', e⟩ := List.mem_iff_getElem.mp hx
  have hiN : i < N := by omega
  have hi2 := (hT i hiN).1
  have p1 : st n sg d0 i <+: st n sg d0 N := by have := st_pre (n := n) (sg := sg) (d0 := d0) (t := i) (N - i); rw [show i + (N - i) = N by omega] at this; exact this
  have e1 : (st n sg d0 i).getD i [] = x := by
    have e2 := p1.getElem hi2
    rw [e] at e2
    have : (st n sg d0 i).getD i [] = (st n sg d0 i)[i] := by simp [hi2]
    rw [this, e2]
  have p2 : st n sg d0 (i + 1) <+: st n sg d0 N := by have := st_pre (n := n) (sg := sg) (d0 := d0) (t := i + 1) (N - (i + 1)); rw [show i + 1 + (N - (i + 1)) = N by omega] at this; exact this
  refine p2.subset ?_
  show _ ∈ colF n sg ((st n sg d0 i).getD i []) _ n
  rw [e1]
  exact col_has ho h2 n (Nat.le_refl _) h1
end

/-! ## the check over the forests -/
def repsL (n : Nat) (cs : List Nat) (M : Int) : List (List Nat) → List (List Nat) → List (List Nat)
  | [], acc => acc
  | x :: l, acc => if (acc.any fun r => wor n cs r M == wor n cs x M) = true then repsL n cs M l acc else repsL n cs M l (acc ++ [x])
def clsOK (n : Nat) (cs : List Nat) : Bool :=
  let sg := tiedB (abC cs)
  let M : Int := (measN n cs : Nat)
  let rs := repsL n cs M (standL n) []
  (rs.all fun r => (standL n).contains r && Nat.ble 2 (st n sg r 24).length && (st n sg r 24).all fun x => wor n cs x M == wor n cs r M) &&
  (standL n).all fun x => rs.any fun r => (st n sg r 24).contains x
def swOK (n : Nat) : Bool := (standL n).all fun x => (List.range n).all fun lo => (List.range n).all fun hi => (standL n).contains (swp x lo hi)
theorem cls3 : (forests 3).all (clsOK 3) = true := by decide +kernel
/-- the forests of four, in six lots -/
def fr (a b : Nat) : List (List Nat) := (List.range 4).map fun c => [0, a, b, c]
theorem fr_all : forests 4 = fr 0 0 ++ fr 0 1 ++ fr 0 2 ++ fr 1 0 ++ fr 1 1 ++ fr 1 2 := by decide +kernel
theorem cls4a : (fr 0 0).all (clsOK 4) = true := by decide +kernel
theorem cls4b : (fr 0 1).all (clsOK 4) = true := by decide +kernel
theorem cls4c : (fr 0 2).all (clsOK 4) = true := by decide +kernel
theorem cls4d : (fr 1 0).all (clsOK 4) = true := by decide +kernel
theorem cls4e : (fr 1 1).all (clsOK 4) = true := by decide +kernel
theorem cls4f : (fr 1 2).all (clsOK 4) = true := by decide +kernel
theorem cls4 : (forests 4).all (clsOK 4) = true := by
  rw [fr_all, List.all_append, List.all_append, List.all_append, List.all_append, List.all_append, cls4a, cls4b, cls4c, cls4d, cls4e, cls4f]; rfl
theorem sw3 : swOK 3 = true := by decide +kernel
theorem sw4 : swOK 4 = true := by decide +kernel
theorem nd3 : (standL 3).Nodup := by decide +kernel
theorem nd4 : (standL 4).Nodup := by decide +kernel

/-- no two of them of one worth -/
theorem reps_apart {n : Nat} {cs : List Nat} {M : Int} : ∀ (l acc : List (List Nat)), acc.Pairwise (fun r r' => wor n cs r M ≠ wor n cs r' M) → (repsL n cs M l acc).Pairwise fun r r' => wor n cs r M ≠ wor n cs r' M
  | [], acc, h => h
  | x :: l, acc, h => by
    unfold repsL
    split
    · exact reps_apart l acc h
    · rename_i hc
      refine reps_apart l _ (List.pairwise_append.mpr ⟨h, by simp, fun a ha b hb e => hc ?_⟩)
      rw [List.mem_singleton.mp hb] at e
      exact List.any_eq_true.mpr ⟨a, ha, beq_iff_eq.mpr e⟩
theorem pw_same {α : Type} {f : α → Int} : ∀ {l : List α}, l.Pairwise (fun a b => f a ≠ f b) → ∀ {a b}, a ∈ l → b ∈ l → f a = f b → a = b
  | x :: l, h, a, b, ha, hb, e => by
    rw [List.pairwise_cons] at h
    rcases List.mem_cons.mp ha with p | p <;> rcases List.mem_cons.mp hb with q | q
    · rw [p, q]
    · subst p; exact absurd e (h.1 b q)
    · subst q; exact absurd e.symm (h.1 a p)
    · exact pw_same h.2 p q e

theorem comes {n : Nat} {cs d0 : List Nat} (h3 : 3 ≤ n) (h4 : n ≤ 4) (ok : CsOk n cs) (dm : d0 ∈ standL n) : ∃ N, Comes n cs d0 N := by
  have hs : ∀ i j, tiedB (abC cs) i j = tiedB (abC cs) j i := fun i j => Bool.or_comm _ _
  have hc : clsOK n cs = true := by
    have m := ok.mem
    rcases (by omega : n = 3 ∨ n = 4) with rfl | rfl
    · exact List.all_eq_true.mp cls3 _ m
    · exact List.all_eq_true.mp cls4 _ m
  have hsw : swOK n = true := by rcases (by omega : n = 3 ∨ n = 4) with rfl | rfl; exact sw3; exact sw4
  have hnd : (standL n).Nodup := by rcases (by omega : n = 3 ∨ n = 4) with rfl | rfl; exact nd3; exact nd4
  have swm : ∀ x ∈ standL n, ∀ lo hi, lo < n → hi < n → swp x lo hi ∈ standL n := fun x hx lo hi h1 h2 =>
    List.contains_iff_mem.mp (List.all_eq_true.mp (List.all_eq_true.mp (List.all_eq_true.mp hsw x hx) lo (List.mem_range.mpr h1)) hi (List.mem_range.mpr h2))
  have rm : ∀ {d x}, d ∈ standL n → Reach n (tiedB (abC cs)) d x → x ∈ standL n := fun hd h => by
    induction h with
    | refl => exact hd
    | step _ a b _ ih => exact swm _ ih _ _ a b
  have len : ∀ {d}, d ∈ standL n → d.length = n := fun hd => stand_len n _ hd
  -- every search closes
  have run : ∀ d, d ∈ standL n → ∃ N, N ≤ 24 ∧ (∀ i, i < N → i < (st n (tiedB (abC cs)) d i).length ∧ i < 24) ∧ ¬ (N < (st n (tiedB (abC cs)) d N).length ∧ N < 24) ∧ ∀ x, x ∈ st n (tiedB (abC cs)) d N ↔ Reach n (tiedB (abC cs)) d x := fun d hd => by
    obtain ⟨N, n1, n2, n3⟩ := turns (fun t => t < (st n (tiedB (abC cs)) d t).length ∧ t < 24) 24 (fun h => by omega)
    have hl24 : (st n (tiedB (abC cs)) d N).length ≤ 24 := Nat.le_trans (nodup_le (st_nodup N) fun x hx => rm hd (st_reach h3 N x hx)) (stand_count h4)
    have hl : (st n (tiedB (abC cs)) d N).length ≤ N := by
      by_cases q : N < 24
      · exact Nat.le_of_not_lt fun h => n3 ⟨h, q⟩
      · omega
    refine ⟨N, n1, n2, n3, fun x => ⟨st_reach h3 N x, fun h => ?_⟩⟩
    induction h with
    | refl =>
      have p := st_pre (n := n) (sg := tiedB (abC cs)) (d0 := d) (t := 0) N
      rw [Nat.zero_add] at p
      exact p.subset (List.mem_singleton.mpr rfl)
    | step _ a b c ih => exact st_closed n2 hl ih a b c
  have st24 : ∀ d, d ∈ standL n → ∀ x, x ∈ st n (tiedB (abC cs)) d 24 ↔ Reach n (tiedB (abC cs)) d x := fun d hd x => by
    refine ⟨st_reach h3 24 x, fun h => ?_⟩
    obtain ⟨N, n1, _, _, n4⟩ := run d hd
    have p := st_pre (n := n) (sg := tiedB (abC cs)) (d0 := d) (t := N) (24 - N)
    rw [show N + (24 - N) = 24 by omega] at p
    exact p.subset ((n4 x).mpr h)
  -- the classes
  unfold clsOK at hc
  rw [Bool.and_eq_true, List.all_eq_true, List.all_eq_true] at hc
  obtain ⟨c1, c2⟩ := hc
  have ap := reps_apart (n := n) (cs := cs) (M := (measN n cs : Nat)) (standL n) [] .nil
  have cls : ∀ x ∈ standL n, ∃ r ∈ repsL n cs (measN n cs : Nat) (standL n) [], r ∈ standL n ∧ Reach n (tiedB (abC cs)) r x := fun x hx => by
    obtain ⟨r, hr, h⟩ := List.any_eq_true.mp (c2 x hx)
    have h1 := c1 r hr
    rw [Bool.and_eq_true, Bool.and_eq_true] at h1
    have hrm := List.contains_iff_mem.mp h1.1.1
    exact ⟨r, hr, hrm, (st24 r hrm x).mp (List.contains_iff_mem.mp h)⟩
  have wr : ∀ r ∈ repsL n cs (measN n cs : Nat) (standL n) [], r ∈ standL n → ∀ x, Reach n (tiedB (abC cs)) r x → wor n cs x (measN n cs : Nat) = wor n cs r (measN n cs : Nat) := fun r hr hrm x h => by
    have h1 := c1 r hr
    rw [Bool.and_eq_true] at h1
    exact beq_iff_eq.mp (List.all_eq_true.mp h1.2 x ((st24 r hrm x).mpr h))
  obtain ⟨r0, k1, k2, k3⟩ := cls d0 dm
  obtain ⟨N, n1, n2, n3, n4⟩ := run d0 dm
  have iff : ∀ x, x ∈ st n (tiedB (abC cs)) d0 N ↔ x ∈ (standL n).filter fun d => wor n cs d (measN n cs : Nat) == wor n cs d0 (measN n cs : Nat) := fun x => by
    rw [n4, List.mem_filter, beq_iff_eq]
    constructor
    · intro h
      exact ⟨rm dm h, (wr r0 k1 k2 x (k3.trans h)).trans (wr r0 k1 k2 d0 k3).symm⟩
    · rintro ⟨hx, hw⟩
      obtain ⟨r, m1, m2, m3⟩ := cls x hx
      have : r = r0 := pw_same ap m1 k1 ((wr r m1 m2 x m3).symm.trans (hw.trans (wr r0 k1 k2 d0 k3)))
      subst this
      exact (k3.symm h3 hs (len k2)).trans m3
  have perm := (List.perm_ext_iff_of_nodup (st_nodup (n := n) (sg := tiedB (abC cs)) (d0 := d0) N) (hnd.filter _)).mpr iff
  refine ⟨N, n1, n2, n3, st_nodup N, perm, ?_⟩
  have h1 := c1 r0 k1
  rw [Bool.and_eq_true, Bool.and_eq_true] at h1
  have h2 := Nat.le_of_ble_eq_true h1.1.2
  refine Nat.le_trans h2 (nodup_le (st_nodup 24) fun x hx => (n4 x).mpr ?_)
  exact (k3.symm h3 hs (len k2)).trans ((st24 r0 k2 x).mp hx)
end Mine
end

section
open PySem PySem.Calls PySem.W PyProof.Rows
set_option maxRecDepth 100000
set_option maxHeartbeats 8000000
namespace Mine
theorem holds02 : PySem.Challenge.rw_rl0019_02.Holds := by
  refine hd ?_
  k_fill
  intro w s₀ s₁ mg mb G Y fa o pm cd doc dV kV ho hd hcd hD hmg hg args vals as hpre hlay hrd hwl hlo
  have KX : (K2 w).In s₁.heap := kIn_of Y
  refine Ground.open G ?_
  intro T B D TE TW
  wrow_args hpre hlay hrd hwl hlo
  rename_i ns hs hlay0 hL1 hr1 hl2 as4 as3 a vs as0 hLs ra wl r0 hI hr hc1 hc0
  have m : ∀ x v, nsIn (K2 w) mainGlobals x = some (some v) → mg x = some v := fun x v e => mg_of KX T.g e
  have m0 : ∀ x, nsIn (K2 w) mainGlobals x = some none → mg x = none := fun x e => mg_none_of KX T.g e
  have nb : NB mg mb := ⟨⟨m0 _ (by kernel_rfl), (T.builtins _ (by decide)).trans (by kernel_rfl)⟩, ⟨m0 _ (by kernel_rfl), (T.builtins _ (by decide)).trans (by kernel_rfl)⟩, ⟨m0 _ (by kernel_rfl), (T.builtins _ (by decide)).trans (by kernel_rfl)⟩, ⟨m0 _ (by kernel_rfl), (T.builtins _ (by decide)).trans (by kernel_rfl)⟩, ⟨m0 _ (by kernel_rfl), (T.builtins _ (by decide)).trans (by kernel_rfl)⟩, ⟨m0 _ (by kernel_rfl), (T.builtins _ (by decide)).trans (by kernel_rfl)⟩⟩
  have nf : NF mg := ⟨m _ _ (by kernel_rfl), m _ _ (by kernel_rfl), m _ _ (by kernel_rfl), m _ _ (by kernel_rfl), m _ _ (by kernel_rfl), m _ _ (by kernel_rfl), m _ _ (by kernel_rfl), m _ _ (by kernel_rfl), m _ _ (by kernel_rfl), m _ _ (by kernel_rfl), m _ _ (by kernel_rfl), m _ _ (by kernel_rfl)⟩
  have e105 : mg "law" = some (.ref 105) := m _ _ (by kernel_rfl)
  have hmg' : mg "law" = some (.ref fa) := hmg
  rw [e105] at hmg'
  cases hmg'
  have hlen : ns.length ≤ 63 := by omega
  have gh : GH (K2 w) mg mb s₁.heap := ⟨KX, T.g, T.b, T.nolimit⟩
  refine wp_use (law_ok (w := w) (mg := mg) (mb := mb) nb nf (fun h3 h4 ok dm => comes h3 h4 ok dm) (ns := ns) ⟨hlen, rfl, rfl⟩ (A := callerA) (s := s₁) (W := fun _ => False) (a := a) (vs := vs) ⟨rfl, by decide, by decide⟩ gh (fun _ q => q.elim) hLs (RepL.ofInts hI) (fun q => q)) fun v s' ⟨k, r⟩ => ?_
  cases r
  obtain ⟨h', t', rfl, k⟩ := k
  refine GoodW.toG ⟨.inl ⟨_, .bool true, [], rfl, raisesW_false ?_, .bool true, ?_, fun _ => ⟨.nil, fun _ h => by simp at h⟩⟩, k, rfl, hg⟩
  · intro ct h
    cases h
  · wrow_post
end Mine
end

set_option maxRecDepth 100000 in
set_option maxHeartbeats 8000000 in
theorem PySem.Challenge.cw_rl0019_02_holds : PySem.Challenge.rw_rl0019_02.Holds := by
  exact Mine.holds02
