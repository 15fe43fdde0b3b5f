import PyProof.Rows.All
import Wide.All
import OpenK.AllK
import Wide.FinOn
import PySem.Challenge.RW_gz0001_01
set_option Elab.async false
set_option linter.all false
set_option maxRecDepth 100000
open PySem PySem.W PyProof.Rows

namespace Mine


abbrev Ext (h h' : Heap) : Prop := ∀ b o, h.get? b = some o → h'.get? b = some o
theorem Ext.refl (h : Heap) : Ext h h := fun _ _ e => e
theorem Ext.trans {a b c : Heap} (x : Ext a b) (y : Ext b c) : Ext a c := fun q o e => y q o (x q o e)
theorem Ext.push (h : Heap) (o : Obj) : Ext h (h.push o) := fun _ _ e => Heap.get?_push_of_some _ e

theorem keeps_refl (s : Shared) : Keeps s s := ⟨s.heap, s.toks, rfl, fun _ _ e => e⟩
theorem keeps_trans {a b c : Shared} (x : Keeps a b) (y : Keeps b c) : Keeps a c := by
  obtain ⟨h1, t1, rfl, k1⟩ := x
  obtain ⟨h2, t2, rfl, k2⟩ := y
  exact ⟨h2, t2, rfl, fun b o e => k2 b o (k1 b o e)⟩
theorem keeps_ext {a b : Shared} (x : Keeps a b) : Ext a.heap b.heap := by
  obtain ⟨h1, t1, rfl, k1⟩ := x
  exact k1
theorem keeps_mk {s : Shared} {h : Heap} {t : Nat} (k : Ext s.heap h) : Keeps s { s with heap := h, toks := t } := ⟨h, t, rfl, k⟩
theorem keeps_mk' {s : Shared} {h : Heap} (k : Ext s.heap h) : Keeps s { s with heap := h } := ⟨h, s.toks, rfl, k⟩
theorem keeps_tok {s : Shared} {t : Nat} : Keeps s { s with toks := t } := ⟨s.heap, t, rfl, fun _ _ e => e⟩

/-- room for n more levels of calls -/
def AOk (n : Nat) (A : Around) : Prop := A.handled = none ∧ A.depth + n < recursionLimit ∧ A.units + 20 * n < cLine
theorem AOk.le {n m : Nat} {A : Around} (h : AOk n A) (k : m ≤ n) : AOk m A := by
  obtain ⟨a, b, c⟩ := h
  exact ⟨a, by omega, by omega⟩
theorem AOk.hh {n : Nat} {A : Around} (h : AOk n A) : A.handled = none := h.1
theorem AOk.room {n : Nat} {A : Around} (h : AOk n A) : A.depth < recursionLimit := by obtain ⟨a, b, c⟩ := h; omega
theorem AOk.units {n : Nat} {A : Around} (h : AOk n A) : A.units < cLine := by obtain ⟨a, b, c⟩ := h; omega
theorem AOk.deeper {n : Nat} {A : Around} (h : AOk (n + 1) A) (env : Env) : AOk n (A.deeper env) := by
  obtain ⟨a, b, c⟩ := h
  refine ⟨a, ?_, ?_⟩
  · show A.depth + 1 + n < _; omega
  · show A.units + 3 + 20 * n < _; omega
theorem AOk.in1 {n : Nat} {A : Around} (h : AOk (n + 1) A) : AOk n A.in1 := by
  obtain ⟨a, b, c⟩ := h
  refine ⟨a, ?_, ?_⟩
  · show A.depth + n < _; omega
  · show A.units + 1 + 20 * n < _; omega
theorem AOk.mark {n : Nat} {A : Around} (h : AOk n A) : A.mark none = A := by
  obtain ⟨hd, d, fr, gs, u⟩ := A
  rfl

/-- from every state whose heap extends g the tree ends, keeps every object that was there, and hands on what P says -/
def Run (prog : Program) (w : World) (n : Nat) (g : Heap) {β : Type} (t : Sem β) (P : Heap → β → Prop) : Prop :=
  ∀ (A : Around) (s : Shared) (E : Value → Shared → Prop), AOk n A → Ext g s.heap → wpAny (model prog w) A t (fun v s' => P s'.heap v ∧ Keeps s s') E s

section
variable {prog : Program} {w : World} {n : Nat} {g : Heap} {β γ : Type}

theorem Run.use {t : Sem β} {P : Heap → β → Prop} (h : Run prog w n g t P) {A : Around} {s : Shared} {E : Value → Shared → Prop} {Q : β → Shared → Prop} (a : AOk n A) (x : Ext g s.heap)
    (k : ∀ v s', P s'.heap v → Keeps s s' → Q v s') : wpAny (model prog w) A t Q E s :=
  wpAny_mono (h A s E a x) (fun v s' q => k v s' q.1 q.2) fun _ _ e => e
theorem Run.mono {t : Sem β} {P P' : Heap → β → Prop} (h : Run prog w n g t P) (k : ∀ h v, Ext g h → P h v → P' h v) : Run prog w n g t P' :=
  fun A s E a x => wpAny_mono (h A s E a x) (fun v s' q => ⟨k _ _ (x.trans (keeps_ext q.2)) q.1, q.2⟩) fun _ _ e => e
theorem Run.base {t : Sem β} {P : Heap → β → Prop} {g' : Heap} (h : Run prog w n g t P) (x : Ext g g') : Run prog w n g' t P := fun A s E a y => h A s E a (x.trans y)
theorem Run.room {t : Sem β} {P : Heap → β → Prop} {m : Nat} (h : Run prog w m g t P) (x : m ≤ n) : Run prog w n g t P := fun A s E a y => h A s E (a.le x) y
theorem Run.val {v : β} {P : Heap → β → Prop} (h : ∀ g', Ext g g' → P g' v) : Run prog w n g (Pure.pure v : Sem β) P := fun _ s _ _ x => wpAny_pure ⟨h _ x, keeps_refl s⟩
theorem Run.bind {m : Sem β} {f : β → Sem γ} {P : Heap → β → Prop} {Q : Heap → γ → Prop} (h₁ : Run prog w n g m P) (h₂ : ∀ g' v, Ext g g' → P g' v → Run prog w n g' (f v) Q) :
    Run prog w n g (m >>= f) Q := fun A s E a x =>
  wpAny_bind (h₁.use a x fun v s₁ p k => (h₂ s₁.heap v (x.trans (keeps_ext k)) p).use a (Ext.refl _) fun r s₂ q k₂ => ⟨q, keeps_trans k k₂⟩)
theorem Run.of {t : Sem β} {P : Heap → β → Prop} (h : ∀ (A : Around) (s : Shared) (E : Value → Shared → Prop), AOk n A → Ext g s.heap → wpAny (model prog w) A t (fun v s' => P s'.heap v ∧ Keeps s s') E s) : Run prog w n g t P := h
theorem Run.wp {t : Sem β} {P : Heap → β → Prop} (h : Run prog w n g t P) {A : Around} {s : Shared} {E : Value → Shared → Prop} (a : AOk n A) (x : Ext g s.heap) : wpAny (model prog w) A t (fun v s' => P s'.heap v ∧ Keeps s s') E s := h A s E a x
end

/-! what a value is in a heap -/
abbrev RelH (α : Type) := Heap → Value → α → Prop
def RMono {α : Type} (R : RelH α) : Prop := ∀ h h' v a, Ext h h' → R h v a → R h' v a
def IntR : RelH Int := fun _ v i => ∃ t, v = .int i t
def BoolR : RelH Bool := fun _ v b => v = .bool b
def BytR : RelH (Array UInt8) := fun _ v b => ∃ t, v = .bytes b t
abbrev tupO (vs : List Value) (n : Nat) : Obj := { cls := .type "tuple", data := .seq vs.toArray n }
abbrev lstO (vs : List Value) (n : Nat) : Obj := { cls := .type "list", data := .seq vs.toArray n }
def TupR {α : Type} (R : RelH α) : RelH (List α) := fun h v l => ∃ a vs n, v = .ref a ∧ h.get? a = some (tupO vs n) ∧ Paired (R h) vs l
def LstR {α : Type} (R : RelH α) : RelH (List α) := fun h v l => ∃ a vs n, v = .ref a ∧ h.get? a = some (lstO vs n) ∧ Paired (R h) vs l

theorem paired_mono {α β : Type} {F G : α → β → Prop} : ∀ {l : List α} {r : List β}, (∀ a b, F a b → G a b) → Paired F l r → Paired G l r
  | _, _, _, .nil => .nil
  | _, _, k, .cons h t => .cons (k _ _ h) (paired_mono k t)
theorem paired_len {α β : Type} {F : α → β → Prop} : ∀ {l : List α} {r : List β}, Paired F l r → l.length = r.length
  | _, _, .nil => rfl
  | _, _, .cons _ t => by simp [paired_len t]
theorem paired_get {α β : Type} {F : α → β → Prop} : ∀ {l : List α} {r : List β}, Paired F l r → ∀ (i : Nat) (a : α) (b : β), l[i]? = some a → r[i]? = some b → F a b
  | _, _, .nil, i, a, b, h, _ => by simp at h
  | _, _, .cons h t, 0, a, b, h1, h2 => by simp at h1 h2; subst h1; subst h2; exact h
  | _, _, .cons h t, i + 1, a, b, h1, h2 => paired_get t i a b (by simpa using h1) (by simpa using h2)
theorem paired_append {α β : Type} {F : α → β → Prop} : ∀ {l l' : List α} {r r' : List β}, Paired F l r → Paired F l' r' → Paired F (l ++ l') (r ++ r')
  | _, _, _, _, .nil, y => y
  | _, _, _, _, .cons h t, y => .cons h (paired_append t y)
theorem paired_of_get {α β : Type} {F : α → β → Prop} : ∀ {l : List α} {r : List β}, l.length = r.length → (∀ (i : Nat) (a : α) (b : β), l[i]? = some a → r[i]? = some b → F a b) → Paired F l r
  | [], [], _, _ => .nil
  | [], _ :: _, e, _ => by simp at e
  | _ :: _, [], e, _ => by simp at e
  | a :: l, b :: r, e, k => .cons (k 0 a b rfl rfl) (paired_of_get (by simpa using e) fun i x y hx hy => k (i + 1) x y (by simpa using hx) (by simpa using hy))
theorem paired_drop {α β : Type} {F : α → β → Prop} : ∀ (k : Nat) {l : List α} {r : List β}, Paired F l r → Paired F (l.drop k) (r.drop k)
  | 0, _, _, h => by simpa using h
  | _ + 1, _, _, .nil => by simpa using Paired.nil
  | k + 1, _, _, .cons _ t => by simpa using paired_drop k t
theorem paired_take {α β : Type} {F : α → β → Prop} : ∀ (k : Nat) {l : List α} {r : List β}, Paired F l r → Paired F (l.take k) (r.take k)
  | 0, _, _, _ => by simpa using Paired.nil
  | _ + 1, _, _, .nil => by simpa using Paired.nil
  | k + 1, _, _, .cons h t => by simpa using Paired.cons h (paired_take k t)

theorem IntR.mono : RMono IntR := fun _ _ _ _ _ x => x
theorem BoolR.mono : RMono BoolR := fun _ _ _ _ _ x => x
theorem BytR.mono : RMono BytR := fun _ _ _ _ _ x => x
theorem TupR.mono {α : Type} {R : RelH α} (r : RMono R) : RMono (TupR R) := fun h h' _ _ e ⟨a, vs, n, hv, ho, p⟩ => ⟨a, vs, n, hv, e _ _ ho, paired_mono (fun x y => r h h' x y e) p⟩
theorem LstR.mono {α : Type} {R : RelH α} (r : RMono R) : RMono (LstR R) := fun h h' _ _ e ⟨a, vs, n, hv, ho, p⟩ => ⟨a, vs, n, hv, e _ _ ho, paired_mono (fun x y => r h h' x y e) p⟩
abbrev TupI := TupR IntR
abbrev LstI := LstR IntR
abbrev LstT := LstR TupI
theorem TupI.mono : RMono TupI := TupR.mono IntR.mono
theorem LstI.mono : RMono LstI := LstR.mono IntR.mono
theorem LstT.mono : RMono LstT := LstR.mono TupI.mono

theorem ints_of {h : Heap} : ∀ {vs : List Value} {ns : List Int}, Paired (IntR h) vs ns → IntsAre vs ns
  | _, _, .nil => .nil
  | _, _, .cons ⟨t, e⟩ r => by subst e; exact .cons _ _ (ints_of r)
theorem of_ints {h : Heap} : ∀ {vs : List Value} {ns : List Int}, IntsAre vs ns → Paired (IntR h) vs ns
  | _, _, .nil => .nil
  | _, _, .cons _ _ r => .cons ⟨_, rfl⟩ (of_ints r)

/-! names -/
def Sees (h : Heap) (env : Env) (x : Str) (v : Value) : Prop :=
  (env.kindOf x = some .local ∧ ∃ m, h.Ns env.locals m ∧ m x = some v) ∨ ((env.kindOf x = some .cell ∨ env.kindOf x = some .free) ∧ ∃ c, env.cells.lookup x = some c ∧ h.IsCell c (some v))
theorem Sees.ext {h h' : Heap} {env : Env} {x : Str} {v : Value} (y : Sees h env x v) (e : Ext h h') : Sees h' env x v := by
  rcases y with ⟨k, m, hn, hm⟩ | ⟨k, c, hc, hv⟩
  · exact .inl ⟨k, m, hn.keeps e, hm⟩
  · exact .inr ⟨k, c, hc, hv.keeps e⟩

structure EnvOk (env : Env) : Prop where
  kind : env.scope.kind = .function
  globals : env.globals = mainGlobals
  builtins : env.builtins = builtinsNs

structure Gd (mg mb : Str → Option Value) (h₀ : Heap) : Prop where
  g : h₀.Ns mainGlobals mg
  b : h₀.Ns builtinsNs mb
  nolimit : h₀.NoLimit
  bi : ∀ x : Str, x ≠ "__name__" → mb x = bootBuiltins x
  no : ∀ x ∈ (["len", "range", "tuple", "min", "sorted", "dict", "bytes", "bytearray", "sum"] : List Str), mg x = none
theorem Gd.ext {mg mb : Str → Option Value} {g g' : Heap} (x : Gd mg mb g) (e : Ext g g') : Gd mg mb g' := ⟨x.g.keeps e, x.b.keeps e, x.nolimit.keeps e, x.bi, x.no⟩

section
variable {prog : Program} {w : World} {n : Nat} {g : Heap} {env : Env} {x : Str} {pos : Pos}

theorem Run.name {v : Value} {P : Heap → Value → Prop} (K : EnvOk env) (h : Sees g env x v) (p : ∀ g', Ext g g' → P g' v) (hd : (x == ("__debug__" : Str)) = false := by decide) (hc : (x == ("__classdict__" : Str)) = false := by decide) :
    Run prog w n g (eval (.Name x pos) env) P := fun A s E _ e => by
  have q : P s.heap v ∧ Keeps s s := ⟨p _ e, keeps_refl s⟩
  rcases h.ext e with ⟨k, m, hn, hm⟩ | ⟨k | k, c, hc', hv⟩
  · exact wpAny_Name (wpAny_loadName_local K.kind k hn hm q) hd
  · exact wpAny_Name (wpAny_loadName_cell K.kind k hc' hv q) hd
  · exact wpAny_Name (wpAny_loadName_free K.kind k hc' hv q hc) hd
theorem Run.nameR {α : Type} {R : RelH α} {v : Value} {a : α} (K : EnvOk env) (h : Sees g env x v) (r : R g v a) (m : RMono R) (hd : (x == ("__debug__" : Str)) = false := by decide) (hc : (x == ("__classdict__" : Str)) = false := by decide) :
    Run prog w n g (eval (.Name x pos) env) (fun h v => R h v a) := Run.name K h (fun _ e => m _ _ _ _ e r) hd hc
theorem Run.glob {mg mb : Str → Option Value} {v : Value} (K : EnvOk env) (G : Gd mg mb g) (hm : mg x = some v) (hk : env.kindOf x = some .globalImplicit) (hd : (x == ("__debug__" : Str)) = false := by decide) :
    Run prog w n g (eval (.Name x pos) env) (fun _ r => r = v) := fun A s E _ e =>
  Calls.Name_function_global K.kind hk (Calls.loadGlobal_global (by rw [K.globals]; exact (G.ext e).g) hm ⟨rfl, keeps_refl s⟩) hd
theorem Run.built {mg mb : Str → Option Value} {v : Value} (K : EnvOk env) (G : Gd mg mb g) (hm : mg x = none) (hb : bootBuiltins x = some v) (hk : env.kindOf x = some .globalImplicit) (hn : x ≠ "__name__" := by decide) (hd : (x == ("__debug__" : Str)) = false := by decide) :
    Run prog w n g (eval (.Name x pos) env) (fun _ r => r = v) := fun A s E _ e =>
  Calls.Name_function_global K.kind hk (Calls.loadGlobal_builtin (by rw [K.globals]; exact (G.ext e).g) hm (by rw [K.builtins]; exact (G.ext e).b) ((G.bi x hn).trans hb) ⟨rfl, keeps_refl s⟩) hd
theorem Run.int {i : Int} {k : Nat} : Run prog w n g (eval (.Constant (.int i) k pos) env) (fun h v => IntR h v i) := fun A s E _ _ => wpAny_Constant_int ⟨⟨_, rfl⟩, keeps_tok⟩
theorem Run.cbool {b : Bool} {k : Nat} : Run prog w n g (eval (.Constant (.bool b) k pos) env) (fun h v => BoolR h v b) := fun A s E _ _ => by
  show wpAny _ _ (Pure.pure (Value.bool b) : Sem Value) _ _ _
  exact wpAny_pure ⟨rfl, keeps_refl s⟩
theorem Run.cnone {k : Nat} : Run prog w n g (eval (.Constant .none k pos) env) (fun _ v => v = .none) := fun A s E _ _ => by
  show wpAny _ _ (Pure.pure Value.none : Sem Value) _ _ _
  exact wpAny_pure ⟨rfl, keeps_refl s⟩

/-! two operands -/
theorem Run.binop {l r : Expr} {op : Operator} {P₁ P₂ P : Heap → Value → Prop} (h₁ : Run prog w n g (eval l env) P₁) (h₂ : Run prog w n g (eval r env) P₂) (m₁ : ∀ h h' v, Ext h h' → P₁ h v → P₁ h' v)
    (op' : ∀ g' a b, Ext g g' → P₁ g' a → P₂ g' b → Run prog w n g' (binaryOp op a b) P) : Run prog w n g (eval (.BinOp l op r pos) env) P := fun A s E a e =>
  wpAny_BinOp (h₁.use a e fun v₁ s₁ p₁ k₁ => h₂.use a (e.trans (keeps_ext k₁)) fun v₂ s₂ p₂ k₂ =>
    (op' s₂.heap v₁ v₂ (e.trans ((keeps_ext k₁).trans (keeps_ext k₂))) (m₁ _ _ _ (keeps_ext k₂) p₁) p₂).use a (Ext.refl _) fun v s₃ p k₃ => ⟨p, keeps_trans k₁ (keeps_trans k₂ k₃)⟩)
theorem Run.add {l r : Expr} {a b : Int} (h₁ : Run prog w n g (eval l env) (fun h v => IntR h v a)) (h₂ : Run prog w n g (eval r env) (fun h v => IntR h v b)) :
    Run prog w n g (eval (.BinOp l .Add r pos) env) (fun h v => IntR h v (a + b)) :=
  Run.binop h₁ h₂ (fun _ _ _ _ x => x) fun g' x y _ ⟨t, e⟩ ⟨u, f⟩ A s E _ _ => by subst e; subst f; exact PyProof.Rows.add_int ⟨⟨_, rfl⟩, keeps_tok⟩
theorem Run.sub {l r : Expr} {a b : Int} (h₁ : Run prog w n g (eval l env) (fun h v => IntR h v a)) (h₂ : Run prog w n g (eval r env) (fun h v => IntR h v b)) :
    Run prog w n g (eval (.BinOp l .Sub r pos) env) (fun h v => IntR h v (a - b)) :=
  Run.binop h₁ h₂ (fun _ _ _ _ x => x) fun g' x y _ ⟨t, e⟩ ⟨u, f⟩ A s E _ _ => by subst e; subst f; exact PyProof.Rows.sub_int ⟨⟨_, rfl⟩, keeps_tok⟩
theorem Run.mul {l r : Expr} {a b : Int} (hf : IntMulOk a b) (h₁ : Run prog w n g (eval l env) (fun h v => IntR h v a)) (h₂ : Run prog w n g (eval r env) (fun h v => IntR h v b)) :
    Run prog w n g (eval (.BinOp l .Mult r pos) env) (fun h v => IntR h v (a * b)) :=
  Run.binop h₁ h₂ (fun _ _ _ _ x => x) fun g' x y _ ⟨t, e⟩ ⟨u, f⟩ A s E _ _ => by subst e; subst f; exact PyProof.Rows.mul_int ⟨⟨_, rfl⟩, keeps_tok⟩ hf

theorem Run.cmp {l r : Expr} {op : CmpOp} {P₁ P₂ P : Heap → Value → Prop} (h₁ : Run prog w n g (eval l env) P₁) (h₂ : Run prog w n g (eval r env) P₂) (m₁ : ∀ h h' v, Ext h h' → P₁ h v → P₁ h' v)
    (op' : ∀ g' a b, Ext g g' → P₁ g' a → P₂ g' b → Run prog w n g' (compareOp op a b) P) (hm : behindInMarks op r = false := by with_unfolding_all rfl) : Run prog w n g (eval (.Compare l [op] [r] pos) env) P := fun A s E a e =>
  wpAny_Compare1 (h₁.use a e fun v₁ s₁ p₁ k₁ => h₂.use a (e.trans (keeps_ext k₁)) fun v₂ s₂ p₂ k₂ =>
    (op' s₂.heap v₁ v₂ (e.trans ((keeps_ext k₁).trans (keeps_ext k₂))) (m₁ _ _ _ (keeps_ext k₂) p₁) p₂).use a (Ext.refl _) fun v s₃ p k₃ => ⟨p, keeps_trans k₁ (keeps_trans k₂ k₃)⟩) hm
theorem Run.test {l r : Expr} {op : CmpOp} {P₁ P₂ : Heap → Value → Prop} {b : Bool} {whole : Sem Value} (h₁ : Run prog w n g (eval l env) P₁) (h₂ : Run prog w n g (eval r env) P₂) (m₁ : ∀ h h' v, Ext h h' → P₁ h v → P₁ h' v)
    (op' : ∀ g' a c, Ext g g' → P₁ g' a → P₂ g' c → Run prog w n g' (compareOp op a c) (fun h v => BoolR h v b)) (hm : behindInMarks op r = false := by with_unfolding_all rfl) :
    Run prog w n g (isTrue (.Compare l [op] [r] pos) env whole) (fun _ v => v = b) := fun A s E a e =>
  wpAny_isTrue_Compare1 (h₁.use a e fun v₁ s₁ p₁ k₁ => h₂.use a (e.trans (keeps_ext k₁)) fun v₂ s₂ p₂ k₂ =>
    (op' s₂.heap v₁ v₂ (e.trans ((keeps_ext k₁).trans (keeps_ext k₂))) (m₁ _ _ _ (keeps_ext k₂) p₁) p₂).use a (Ext.refl _) fun v s₃ p k₃ => by
      have p' : v = .bool b := p
      subst p'
      exact wpAny_truthy_bool ⟨rfl, keeps_trans k₁ (keeps_trans k₂ k₃)⟩) hm

/-! comparisons of ints -/
theorem Run.ltI {a b : Int} {t u : Tok} : Run prog w n g (compareOp .Lt (.int a t) (.int b u)) (fun h v => BoolR h v (decide (a < b))) := fun A s E _ _ => PyProof.Rows.lt_int ⟨rfl, keeps_refl s⟩
theorem Run.gtI {a b : Int} {t u : Tok} : Run prog w n g (compareOp .Gt (.int a t) (.int b u)) (fun h v => BoolR h v (decide (b < a))) := fun A s E _ _ => PyProof.Rows.gt_int ⟨rfl, keeps_refl s⟩
theorem Run.leI {a b : Int} {t u : Tok} : Run prog w n g (compareOp .LtE (.int a t) (.int b u)) (fun h v => BoolR h v (decide (a ≤ b))) := fun A s E _ _ => PyProof.Rows.le_int ⟨rfl, keeps_refl s⟩
theorem Run.eqI {a b : Int} {t u : Tok} : Run prog w n g (compareOp .Eq (.int a t) (.int b u)) (fun h v => BoolR h v (a == b)) := fun A s E _ _ => PyProof.Rows.eq_int ⟨rfl, keeps_refl s⟩
theorem Run.neI {a b : Int} {t u : Tok} : Run prog w n g (compareOp .NotEq (.int a t) (.int b u)) (fun h v => BoolR h v (a != b)) := fun A s E _ _ => PyProof.Rows.ne_int ⟨rfl, keeps_refl s⟩

def cmpInt : CmpOp → Int → Int → Option Bool
  | .Lt, a, b => some (decide (a < b))
  | .Gt, a, b => some (decide (b < a))
  | .LtE, a, b => some (decide (a ≤ b))
  | .Eq, a, b => some (a == b)
  | .NotEq, a, b => some (a != b)
  | _, _, _ => none
theorem Run.cmpI {op : CmpOp} {a b : Int} {t u : Tok} {c : Bool} (h : cmpInt op a b = some c) : Run prog w n g (compareOp op (.int a t) (.int b u)) (fun h v => BoolR h v c) := by
  cases op <;> simp only [cmpInt, Option.some.injEq, reduceCtorEq] at h <;> subst h
  · exact Run.eqI
  · exact Run.neI
  · exact Run.ltI
  · exact Run.leI
  · exact Run.gtI
theorem Run.testI {l r : Expr} {op : CmpOp} {a b : Int} {c : Bool} {whole : Sem Value} (h₁ : Run prog w n g (eval l env) (fun h v => IntR h v a)) (h₂ : Run prog w n g (eval r env) (fun h v => IntR h v b))
    (hc : cmpInt op a b = some c := by rfl) (hm : behindInMarks op r = false := by with_unfolding_all rfl) : Run prog w n g (isTrue (.Compare l [op] [r] pos) env whole) (fun _ v => v = c) :=
  Run.test h₁ h₂ (fun _ _ _ _ x => x) (fun g' x y _ ⟨t, e⟩ ⟨u, f⟩ => by subst e; subst f; exact Run.cmpI hc) hm

/-! lists of arguments -/
def AllR : List (Heap → Value → Prop) → Heap → List Value → Prop
  | [], _, vs => vs = []
  | P :: r, h, vs => ∃ v vs', vs = v :: vs' ∧ P h v ∧ AllR r h vs'
theorem Run.nil : Run prog w n g (spliced []) (AllR []) := fun A s E _ _ => Calls.spliced_nil ⟨rfl, keeps_refl s⟩
theorem Run.cons {t : Sem Value} {ts : List (Bool × Sem Value)} {P : Heap → Value → Prop} {Ps : List (Heap → Value → Prop)} (h₁ : Run prog w n g t P) (m : ∀ h h' v, Ext h h' → P h v → P h' v) (h₂ : Run prog w n g (spliced ts) (AllR Ps)) :
    Run prog w n g (spliced ((false, t) :: ts)) (AllR (P :: Ps)) := fun A s E a e =>
  Calls.spliced_cons (h₁.use a e fun v s₁ p k => h₂.use a (e.trans (keeps_ext k)) fun vs s₂ ps k₂ => ⟨⟨v, vs, rfl, m _ _ _ (keeps_ext k₂) p, ps⟩, keeps_trans k k₂⟩)

theorem Run.call {fx : Str} {fpos : Pos} {e : Expr} {rest : List Expr} {f : Value} {P : Heap → List Value → Prop} {Q : Heap → Value → Prop} (hf : Run prog w n g (eval (.Name fx fpos) env) (fun _ r => r = f))
    (hk : (∃ id, f = .builtin id) ∨ (∃ T, f = .type T) ∨ ∃ a o fd, f = .ref a ∧ g.get? a = some o ∧ o.data = .func fd)
    (ha : Run prog w n g (spliced (backTo pos (starEach (e :: rest) env))) P) (hc : ∀ g' vs, Ext g g' → P g' vs → Run prog w n g' (PySem.call f vs) Q)
    (he : starEach (e :: rest) env = (false, eval e env) :: starEach rest env := by rfl) (hplain : (backTo pos (starEach rest env)).any (·.1) = false := by rfl) :
    Run prog w n g (eval (.Call (.Name fx fpos) (e :: rest) [] pos) env) Q := fun A s E a x => by
  refine Call_Name rfl (hf.use a x fun r s₁ hr k => ?_)
  subst hr
  have x₁ := x.trans (keeps_ext k)
  have fin : ∀ (Q' : List Value → Shared → Prop), (∀ vs s₂, Ext s₁.heap s₂.heap → (wpAny (model prog w) A (PySem.call r vs) (fun v s' => Q s'.heap v ∧ Keeps s s') E s₂) → Q' vs s₂) →
      wpAny (model prog w) A (spliced (backTo pos (starEach (e :: rest) env))) Q' E s₁ := fun Q' hQ =>
    ha.use a x₁ fun vs s₂ p k₂ => hQ vs s₂ (keeps_ext k₂) ((hc s₂.heap vs (x₁.trans (keeps_ext k₂)) p).use a (Ext.refl _) fun v s₃ q k₃ => ⟨q, keeps_trans k (keeps_trans k₂ k₃)⟩)
  rcases hk with ⟨id, rfl⟩ | ⟨T, rfl⟩ | ⟨fa, o, fd, rfl, ho, hd⟩
  · exact PyProof.Rows.callWith_builtin1 (fin _ fun vs s₂ _ h => h) he hplain
  · exact PyProof.Rows.callWith_type1 (fin _ fun vs s₂ _ h => h) he hplain
  · exact PyProof.Rows.callWith_def hd (fin _ fun vs s₂ e₂ h => ⟨e₂ _ _ (x₁ _ _ ho), h⟩) he
end
end Mine

namespace Mine


/-! tuples never change -/
def TExt (h h' : Heap) : Prop := ∀ b vs n, h.get? b = some (tupO vs n) → h'.get? b = some (tupO vs n)
theorem TExt.refl (h : Heap) : TExt h h := fun _ _ _ e => e
theorem TExt.trans {a b c : Heap} (x : TExt a b) (y : TExt b c) : TExt a c := fun q v n e => y q v n (x q v n e)
theorem TExt.of {h h' : Heap} (x : Ext h h') : TExt h h' := fun b vs n e => x b _ e
theorem TExt.but {h h' : Heap} {a : Addr} {o : Obj} (ho : h.get? a = some o) (hn : ∀ vs n, o ≠ tupO vs n) (x : ∀ b o, b ≠ a → h.get? b = some o → h'.get? b = some o) : TExt h h' := fun b vs n e => by
  by_cases hb : b = a
  · subst hb
    rw [ho] at e
    exact absurd (Option.some.inj e) (hn vs n)
  · exact x b _ hb e
def TMono {α : Type} (R : RelH α) : Prop := ∀ h h' v a, TExt h h' → R h v a → R h' v a
theorem TMono.r {α : Type} {R : RelH α} (x : TMono R) : RMono R := fun h h' v a e r => x h h' v a (TExt.of e) r
theorem IntR.t : TMono IntR := fun _ _ _ _ _ x => x
theorem BoolR.t : TMono BoolR := fun _ _ _ _ _ x => x
theorem TupR.t {α : Type} {R : RelH α} (r : TMono R) : TMono (TupR R) := fun h h' _ _ e ⟨a, vs, n, hv, ho, p⟩ => ⟨a, vs, n, hv, e _ _ _ ho, paired_mono (fun x y => r h h' x y e) p⟩
theorem TupI.t : TMono TupI := TupR.t IntR.t

theorem ns_no_tup {h : Heap} {C : Addr} {m : Str → Option Value} (x : h.Ns C m) : ∃ o, h.get? C = some o ∧ ∀ vs n, o ≠ tupO vs n := by
  obtain ⟨o, es, ep, ho, hd, _⟩ := x
  refine ⟨o, ho, fun vs n e => ?_⟩
  subst e
  simp at hd
theorem cell_no_tup {h : Heap} {c : Addr} {v : Option Value} (x : h.IsCell c v) : ∃ o, h.get? c = some o ∧ ∀ vs n, o ≠ tupO vs n := by
  obtain ⟨o, ho, hd⟩ := x
  refine ⟨o, ho, fun vs n e => ?_⟩
  subst e
  simp at hd
theorem lst_no_tup {vs : List Value} {n : Nat} : ∀ us k, lstO vs n ≠ tupO us k := fun us k e => by
  have := congrArg Obj.cls e
  simp at this

/-! what is walked -/
def Iters (prog : Program) (w : World) (g : Heap) (xv : Value) {α : Type} (R : RelH α) (xs : List α) : Prop :=
  ∀ (A : Around) (s : Shared) (E : Value → Shared → Prop) (Q : Value → Shared → Prop), A.handled = none → Ext g s.heap →
    (∀ (I : Addr) (fp : List Addr) (P : Nat → Value → Prop) (St : Nat → Heap → Prop) (h' : Heap), Walks prog w A I fp [I] xs.length P St → St 0 h' → Ext s.heap h' → s.heap.get? I = none → (∃ o, h'.get? I = some o ∧ ∀ vs n, o ≠ tupO vs n) →
      (∀ b ∈ fp, b < h'.objs.size) → (∀ i h, St i h → ∃ o, h.get? I = some o ∧ ∀ vs n, o ≠ tupO vs n) → (∀ i v x, P i v → xs[i]? = some x → R g v x) → (∀ b ∈ fp, b = I ∨ xv = .ref b) → Q (.ref I) { s with heap := h' }) →
    wpAny (model prog w) A (pyIter xv) Q E s

section
variable {prog : Program} {w : World} {g : Heap} {α : Type} {R : RelH α} {xs : List α}
theorem fresh_none {h : Heap} : h.get? h.objs.size = none := Heap.get?_none_of_le (Nat.le_refl _)
theorem Iters.list {v : Value} (h : LstR R g v xs) : Iters prog w g v R xs := by
  obtain ⟨a, vs, n, rfl, ho, p⟩ := h
  intro A s E Q hh x k
  have hs : s.heap.get? a = some (lstO vs n) := x _ _ ho
  have hl : s.heap.IsList a vs.toArray := ⟨_, hs, rfl, n, rfl⟩
  have hlt : a < s.heap.objs.size := Heap.lt_size hs
  have W := Walks.list (prog := prog) (w := w) hh s.heap.objs.size a (Nat.ne_of_lt hlt) vs.toArray
  rw [show vs.toArray.size = xs.length by simpa using paired_len p] at W
  refine wpAny_pyIter_list hl (k _ _ _ _ _ W ⟨⟨_, Heap.get?_push_size _ rfl, rfl, rfl⟩, hl.push _⟩ (Ext.push _ _) fresh_none ⟨_, Heap.get?_push_size _ rfl, fun us m e => by simp at e⟩ (fun b hb => ?_) (fun i h st => ?_) (fun i v y hi hy => ?_) fun b hb => by
    simp at hb
    rcases hb with rfl | rfl
    · exact .inl rfl
    · exact .inr rfl)
  · rw [Heap.size_push]
    simp at hb
    rcases hb with rfl | rfl
    · exact Nat.lt_succ_self _
    · exact Nat.lt_succ_of_lt hlt
  · obtain ⟨⟨o, e, hc, hd⟩, _⟩ := st
    exact ⟨o, e, fun us m q => by rw [q] at hd; simp at hd⟩
  · exact paired_get p i v y (by simpa using hi) hy
theorem Iters.tup {v : Value} (h : TupR R g v xs) : Iters prog w g v R xs := by
  obtain ⟨a, vs, n, rfl, ho, p⟩ := h
  intro A s E Q hh x k
  have hs : s.heap.get? a = some (tupO vs n) := x _ _ ho
  have hl : s.heap.IsTuple a vs.toArray := ⟨_, hs, rfl, n, rfl⟩
  have hlt : a < s.heap.objs.size := Heap.lt_size hs
  have W := Walks.tuple (prog := prog) (w := w) hh s.heap.objs.size a (Nat.ne_of_lt hlt) vs.toArray
  rw [show vs.toArray.size = xs.length by simpa using paired_len p] at W
  refine wpAny_pyIter_tuple hl (k _ _ _ _ _ W ⟨⟨_, Heap.get?_push_size _ rfl, rfl, rfl⟩, hl.at fun o e => Heap.get?_push_of_some _ e⟩ (Ext.push _ _) fresh_none ⟨_, Heap.get?_push_size _ rfl, fun us m e => by simp at e⟩ (fun b hb => ?_) (fun i h st => ?_) (fun i v y hi hy => ?_) fun b hb => by
    simp at hb
    rcases hb with rfl | rfl
    · exact .inl rfl
    · exact .inr rfl)
  · rw [Heap.size_push]
    simp at hb
    rcases hb with rfl | rfl
    · exact Nat.lt_succ_self _
    · exact Nat.lt_succ_of_lt hlt
  · obtain ⟨⟨o, e, hc, hd⟩, _⟩ := st
    exact ⟨o, e, fun us m q => by rw [q] at hd; simp at hd⟩
  · exact paired_get p i v y (by simpa using hi) hy

/-- the ints of a range -/
def rangeL (a c : Int) (n : Nat) : List Int := (List.range n).map fun (i : Nat) => a + (i : Int) * c
theorem rangeL_len (a c : Int) (n : Nat) : (rangeL a c n).length = n := by simp [rangeL]
def RangeR (h : Heap) (v : Value) (a c : Int) (n : Nat) : Prop := ∃ r b t u x, v = .ref r ∧ IsRange h r a b c t u x ∧ Builtin.Range.small a b c = true ∧ Builtin.Range.rangeSize a b c = (n : Int)
theorem IsRange.ext {h h' : Heap} {r : Addr} {a b c : Int} {t u x : Tok} (y : IsRange h r a b c t u x) (e : Ext h h') : IsRange h' r a b c t u x := e _ _ y
theorem Iters.range {v : Value} {a c : Int} {n : Nat} (h : RangeR g v a c n) : Iters prog w g v IntR (rangeL a c n) := by
  obtain ⟨r, b, t, u, x, rfl, hr, hsm, hsz⟩ := h
  intro A s E Q hh e k
  refine wpAny_pyIter_range (IsRange.ext hr e) hsm (k _ _ _ _ _ (by rw [rangeL_len]; exact Walks.range hh s.heap.objs.size a c n) ?_ (Ext.push _ _) fresh_none ⟨_, Heap.get?_push_size _ rfl, fun us m e => by simp at e⟩ (fun b hb => ?_) (fun i h st => ?_) (fun i v y hi hy => ?_) fun b hb => .inl (by simpa using hb))
  · show IsRangeIter _ _ _ _ _
    rw [hsz]
    simpa using Heap.get?_push_size s.heap rfl
  · rw [Heap.size_push]
    simp at hb
    subst hb
    exact Nat.lt_succ_self _
  · exact ⟨_, st, fun us m q => by simp at q⟩
  · obtain ⟨t', rfl⟩ := hi
    have : y = a + (i : Int) * c := by
      unfold rangeL at hy
      rw [List.getElem?_map] at hy
      obtain ⟨j, hj, rfl⟩ := Option.map_eq_some_iff.mp hy
      have := List.getElem?_range (n := n) (i := i) (by
        rcases Nat.lt_or_ge i n with q | q
        · exact q
        · rw [List.getElem?_eq_none (by simpa using q)] at hj; cases hj)
      rw [this] at hj
      cases hj
      rfl
    exact ⟨t', by rw [this]⟩
end

/-! the block of a comprehension -/
def closOf (env : Env) : List (Str × NameKind) → List (Str × Addr) → List (Str × Addr)
  | [], acc => acc
  | (y, k) :: r, acc => if k == .free then (match env.cells.lookup y with | some c => closOf env r ((y, c) :: acc) | none => closOf env r acc) else closOf env r acc
def FreeOk (env : Env) (scope : Scope) : Prop := ∀ p ∈ scope.names, p.2 = .free → (env.kindOf p.1 = some .cell ∨ env.kindOf p.1 = some .free) ∧ ∃ c, env.cells.lookup p.1 = some c

theorem closureFor_go {env : Env} : ∀ (names : List (Str × NameKind)) (acc : List (Str × Addr)), (∀ p ∈ names, p.2 = .free → ∃ c, env.cells.lookup p.1 = some c) →
    (forIn names acc fun (x : Str × NameKind) (r : List (Str × Addr)) => (match x with
      | (name, kind) => if (kind == NameKind.free) = true then (do let __do_lift ← cellOf env name; pure (ForInStep.yield ((name, __do_lift) :: r))) else pure (ForInStep.yield r) : Sem (ForInStep (List (Str × Addr))))) = (pure (closOf env names acc) : Sem (List (Str × Addr)))
  | [], acc, _ => by rw [List.forIn_nil]; rfl
  | (y, k) :: r, acc, h => by
    rw [List.forIn_cons]
    unfold closOf
    have hr : ∀ p ∈ r, p.2 = .free → ∃ c, env.cells.lookup p.1 = some c := fun p hp => h p (List.mem_cons_of_mem _ hp)
    by_cases hk : (k == NameKind.free) = true
    · obtain ⟨c, hc⟩ := h (y, k) List.mem_cons_self (by simpa using hk)
      simp only [hk, if_true]
      have e : cellOf env y = (pure c : Sem Addr) := by unfold cellOf; rw [show env.cells.lookup y = some c from hc]
      rw [e]
      simp only [pure_bind]
      rw [show env.cells.lookup y = some c from hc]
      exact closureFor_go r _ hr
    · simp only [hk, if_false, Bool.false_eq_true, pure_bind]
      exact closureFor_go r _ hr
theorem closureFor_eq {env : Env} {scope : Scope} (h : FreeOk env scope) : closureFor scope env = pure (closOf env scope.names []) := by
  have := closureFor_go (env := env) scope.names [] fun p hp q => (h p hp q).2
  unfold closureFor
  show (forIn scope.names [] _ >>= fun x => pure x : Sem (List (Str × Addr))) = _
  rw [← this, bind_pure]
theorem closOf_lookup {env : Env} {y : Str} {c : Addr} (hc : env.cells.lookup y = some c) : ∀ (names : List (Str × NameKind)) (acc : List (Str × Addr)), ((y, NameKind.free) ∈ names ∨ acc.lookup y = some c) → (closOf env names acc).lookup y = some c
  | [], acc, h => by
    rcases h with h | h
    · cases h
    · exact h
  | (z, k) :: r, acc, h => by
    unfold closOf
    by_cases hk : (k == NameKind.free) = true
    · rw [if_pos hk]
      have hkf : k = .free := by simpa using hk
      subst hkf
      by_cases hz : z = y
      · subst hz
        rw [hc]
        exact closOf_lookup hc r _ (.inr (by simp))
      · have hzb : (y == z) = false := by simpa using fun e : y = z => hz e.symm
        have h' : (y, NameKind.free) ∈ r ∨ acc.lookup y = some c := by
          rcases h with h | h
          · rcases List.mem_cons.mp h with e | e
            · exact absurd (Prod.mk.inj e).1.symm hz
            · exact .inl e
          · exact .inr h
        cases hl : env.cells.lookup z with
        | none => exact closOf_lookup hc r _ h'
        | some d => exact closOf_lookup hc r _ (h'.imp id fun e => by rw [List.lookup_cons, hzb]; exact e)
    · rw [if_neg hk]
      refine closOf_lookup hc r _ (h.imp (fun e => ?_) id)
      rcases List.mem_cons.mp e with e | e
      · exact absurd (by rw [← (Prod.mk.inj e).2]; rfl) hk
      · exact e

theorem cellsFrom_old {y : Str} : ∀ (names : List (Str × NameKind)) (n : Nat) (acc : List (Str × Addr)), (∀ p ∈ names, p.2 = .cell → p.1 ≠ y) → (cellsFrom n names acc).lookup y = acc.lookup y
  | [], _, _, _ => rfl
  | (z, k) :: r, n, acc, h => by
    unfold cellsFrom
    have hr : ∀ p ∈ r, p.2 = .cell → p.1 ≠ y := fun p hp => h p (List.mem_cons_of_mem _ hp)
    by_cases hk : (k == NameKind.cell) = true
    · rw [if_pos hk, cellsFrom_old r _ _ hr]
      have hz : z ≠ y := h (z, k) List.mem_cons_self (by simpa using hk)
      have hzb : (y == z) = false := by simpa using fun e : y = z => hz e.symm
      rw [List.lookup_cons, hzb]
    · rw [if_neg hk]
      exact cellsFrom_old r _ _ hr

abbrev cEnv (scope : Scope) (env : Env) (C : Addr) : Env :=
  { scope := relabel scope env, locals := C, globals := env.globals, cells := cellsFrom (C + 1) scope.names (closOf env scope.names []), qual := env.qual, func := none, code := env.code, frame := env.frame, builtins := env.builtins }

theorem relabel_lookup {scope : Scope} {env : Env} {y : Str} {k : NameKind} : ∀ {names : List (Str × NameKind)}, names.lookup y = some k →
    (names.map fun (n, k) => if (k == NameKind.free && env.scope.kind == .function && env.kindOf n == some .cell) then (n, NameKind.cell) else (n, k)).lookup y = some (if (k == NameKind.free && env.scope.kind == .function && env.kindOf y == some .cell) then .cell else k)
  | [], h => by simp at h
  | (z, j) :: r, h => by
    rw [List.map_cons]
    by_cases hz : y = z
    · subst hz
      simp only [List.lookup_cons, beq_self_eq_true] at h
      cases h
      dsimp only
      split <;> simp
    · have hzb : (y == z) = false := by simpa using hz
      rw [List.lookup_cons, hzb] at h
      have ih := relabel_lookup (scope := scope) (env := env) (y := y) (k := k) (names := r) h
      dsimp only
      split <;> · rw [List.lookup_cons, hzb]; exact ih

structure CLink (scope : Scope) (env cenv : Env) : Prop where
  ok : EnvOk cenv
  free : ∀ h y u, scope.names.lookup y = some .free → Sees h env y u → Sees h cenv y u
  glob : ∀ y, scope.names.lookup y = some .globalImplicit → cenv.kindOf y = some .globalImplicit
  freeK : ∀ y, scope.names.lookup y = some .free → (cenv.kindOf y = some .cell ∨ cenv.kindOf y = some .free)
  freeC : ∀ y c, scope.names.lookup y = some .free → env.cells.lookup y = some c → cenv.cells.lookup y = some c
  kinds : ∀ y k, scope.names.lookup y = some k → k ≠ .free → cenv.kindOf y = some k
theorem mem_of_look {y : Str} {k : NameKind} : ∀ {names : List (Str × NameKind)}, names.lookup y = some k → (y, k) ∈ names
  | [], h => by simp at h
  | (z, j) :: r, h => by
    by_cases hz : y = z
    · subst hz
      simp only [List.lookup_cons, beq_self_eq_true] at h
      cases h
      exact List.mem_cons_self
    · have hzb : (y == z) = false := by simpa using hz
      rw [List.lookup_cons, hzb] at h
      exact List.mem_cons_of_mem _ (mem_of_look h)

theorem CLink.of {scope : Scope} {env : Env} {C : Addr} (K : EnvOk env) (hk : scope.kind = .function) (hf : FreeOk env scope) (hc : ∀ p ∈ scope.names, p.2 = .cell → ∀ q ∈ scope.names, q.2 = .free → p.1 ≠ q.1) : CLink scope env (cEnv scope env C) := by
  have kinds : ∀ y k, scope.names.lookup y = some k → (cEnv scope env C).kindOf y = some (if (k == NameKind.free && env.scope.kind == .function && env.kindOf y == some .cell) then .cell else k) :=
    fun y k h => relabel_lookup (scope := scope) h
  have freeC : ∀ y c, scope.names.lookup y = some .free → env.cells.lookup y = some c → (cEnv scope env C).cells.lookup y = some c := fun y c hy hcc => by
    show (cellsFrom (C + 1) scope.names (closOf env scope.names [])).lookup y = some c
    rw [cellsFrom_old]
    · exact closOf_lookup hcc _ _ (.inl (mem_of_look hy))
    · exact fun p hp hpc => hc p hp hpc (y, .free) (mem_of_look hy) rfl
  have freeK : ∀ y, scope.names.lookup y = some .free → ((cEnv scope env C).kindOf y = some .cell ∨ (cEnv scope env C).kindOf y = some .free) := fun y hy => by
    rw [kinds y _ hy]
    split
    · exact .inl rfl
    · exact .inr rfl
  refine ⟨⟨hk, K.globals, K.builtins⟩, fun h y u hy hs => ?_, fun y hy => ?_, freeK, freeC, fun y k hy hne => ?_⟩
  · have hfy := hf (y, .free) (mem_of_look hy) rfl
    rcases hs with ⟨hl, _⟩ | ⟨_, c, hcc, hv⟩
    · rcases hfy.1 with e | e <;> · rw [show env.kindOf y = some .local from hl] at e; cases e
    · exact .inr ⟨freeK y hy, c, freeC y c hy hcc, hv⟩
  · rw [kinds y _ hy]
    simp
  · rw [kinds y _ hy, if_neg (by simpa using fun e => absurd e hne)]
theorem Sees.cellOf {h : Heap} {env : Env} {y : Str} {u : Value} (x : Sees h env y u) (hn : env.kindOf y ≠ some .local) : (env.kindOf y = some .cell ∨ env.kindOf y = some .free) ∧ ∃ c, env.cells.lookup y = some c := by
  rcases x with ⟨e, _⟩ | ⟨k, c, hc, _⟩
  · exact absurd e hn
  · exact ⟨k, c, hc⟩
end Mine

namespace Mine


theorem cellsFrom_app : ∀ (names : List (Str × NameKind)) (n : Nat) (acc : List (Str × Addr)), cellsFrom n names acc = cellsFrom n names [] ++ acc
  | [], _, _ => rfl
  | (z, k) :: r, n, acc => by
    unfold cellsFrom
    by_cases hk : (k == NameKind.cell) = true
    · rw [if_pos hk, if_pos hk, cellsFrom_app r _ ((z, n) :: acc), cellsFrom_app r _ [(z, n)], List.append_assoc]; rfl
    · rw [if_neg hk, if_neg hk]; exact cellsFrom_app r n acc
theorem lookup_app_some {l r : List (Str × Addr)} {x : Str} {c : Addr} : l.lookup x = some c → (l ++ r).lookup x = some c := by
  induction l with
  | nil => intro h; simp at h
  | cons p l ih =>
    intro h
    obtain ⟨z, d⟩ := p
    rw [List.cons_append]
    by_cases hz : (x == z) = true
    · rw [List.lookup_cons, hz] at h ⊢; exact h
    · have hz' : (x == z) = false := by simpa using hz
      rw [List.lookup_cons, hz'] at h ⊢; exact ih h

/-- the place that the loop's own name is written to -/
def VarOk (cenv : Env) (x : Str) (C W : Addr) (h : Heap) : Prop :=
  cenv.scope.kind = .function ∧ cenv.locals = C ∧ (∃ m, h.Ns C m) ∧ ((cenv.kindOf x = some .local ∧ W = C) ∨ (cenv.kindOf x = some .cell ∧ cenv.cells.lookup x = some W ∧ W ≠ C ∧ ∃ v, h.IsCell W v))
theorem VarOk.keep {cenv : Env} {x : Str} {C W : Addr} {h h' : Heap} (v : VarOk cenv x C W h) (k : ∀ b o, (b = C ∨ b = W) → h.get? b = some o → h'.get? b = some o) : VarOk cenv x C W h' := by
  obtain ⟨hk, hl, ⟨m, hn⟩, r⟩ := v
  refine ⟨hk, hl, ⟨m, hn.at' fun o e => k _ o (.inl rfl) e⟩, r.imp id fun ⟨a, b, c, u, hu⟩ => ⟨a, b, c, u, ?_⟩⟩
  obtain ⟨o, ho, hd⟩ := hu
  exact ⟨o, k _ o (.inr rfl) ho, hd⟩
theorem VarOk.noTup {cenv : Env} {x : Str} {C W : Addr} {h : Heap} (v : VarOk cenv x C W h) : ∃ o, h.get? W = some o ∧ ∀ vs n, o ≠ tupO vs n := by
  obtain ⟨hk, hl, ⟨m, hn⟩, ⟨_, rfl⟩ | ⟨_, _, _, u, hu⟩⟩ := v
  · exact ns_no_tup hn
  · exact cell_no_tup hu
theorem VarOk.store {M : Model} {A : Around} {E : Value → Shared → Prop} {s : Shared} {cenv : Env} {x : Str} {px : Pos} {C W : Addr} {v : Value} {Q : Unit → Shared → Prop} (y : VarOk cenv x C W s.heap)
    (h : ∀ h' tk, VarOk cenv x C W h' → Heap.SameBut W s.heap h' → Sees h' cenv x v → Q () { s with heap := h', toks := tk }) : wpAny M A (assign (.Name x px) cenv v) Q E s := by
  obtain ⟨hk, hl, ⟨m, hn⟩, ⟨a, rfl⟩ | ⟨a, b, c, u, hu⟩⟩ := y
  · subst hl
    exact wpAny_assign_Name (wpAny_storeName_local a hn (fun h' hn' hs' => h h' _ ⟨hk, rfl, ⟨_, hn'⟩, .inl ⟨a, rfl⟩⟩ hs' (.inl ⟨a, _, hn', by simp⟩)) (by rw [hk]; rfl))
  · exact wpAny_assign_Name (wpAny_storeName_cell hk a b hu fun h' hc' hs' => h h' s.toks ⟨hk, hl, ⟨m, hn.sameBut hs' (Ne.symm c)⟩, .inr ⟨a, b, c, _, hc'⟩⟩ hs' (.inr ⟨.inl a, W, b, hc'⟩))

abbrev testsT (ifs : List Expr) (cenv : Env) : Sem Bool := forIn ifs true fun c r => if r = true then do let ok ← isTrue c cenv (eval c cenv); pure (ForInStep.yield ok) else pure (ForInStep.yield r)

section
variable {prog : Program} {w : World} {n : Nat} {g : Heap}
theorem Run.tests0 {cenv : Env} : Run prog w n g (testsT [] cenv) (fun _ b => b = true) := fun A s E _ _ => wpAny_tests_nil ⟨rfl, keeps_refl s⟩
theorem Run.tests1 {cenv : Env} {c : Expr} {b : Bool} (h : Run prog w n g (isTrue c cenv (eval c cenv)) (fun _ v => v = b)) : Run prog w n g (testsT [c] cenv) (fun _ v => v = b) := fun A s E a x =>
  wpAny_tests_one (h.wp a x)

theorem wpAny_newComp {A : Around} {E : Value → Shared → Prop} {s : Shared} {scope : Scope} {env : Env} {Q : Env → Shared → Prop} {M : Model}
    (h : ∀ h', Ext s.heap h' → h'.Ns s.heap.objs.size (fun _ => none) → (∀ x c, (cellsFrom (s.heap.objs.size + 1) scope.names []).lookup x = some c → h'.IsCell c none ∧ s.heap.objs.size < c) →
      Q (newEnv scope s.heap.objs.size env.globals (cellsFrom (s.heap.objs.size + 1) scope.names (closOf env scope.names [])) env.qual none .none (some env) builtinsNs) { s with heap := h' }) :
    wpAny M A (newFunctionEnv scope env.globals (closOf env scope.names []) [] env.qual none .none (some env)) Q E s := by
  simp only [newFunctionEnv, Option.isSome_some, if_true]
  refine wpAny_bind (wpAny_alloc ?_)
  refine wpAny_bind (wpAny_layCells _ (fun name kind cells => by cases hkc : kind == NameKind.cell <;> simp [hkc]) _ _ _ _ ?_)
  have ok := cellsFrom_ok scope.names (s.heap.push { cls := .type "dict", data := .dict #[] }) (s.heap.objs.size + 1) [] ⟨fun _ _ hm => (nomatch hm), List.Pairwise.nil⟩ (by rw [Heap.size_push]; exact Nat.le_refl _)
  rw [Heap.size_push] at ok
  rw [show ({ s with heap := s.heap.push { cls := .type "dict", data := .dict #[] } } : Shared).heap.objs.size = s.heap.objs.size + 1 from Heap.size_push ..]
  refine wpAny_bind ?_
  rw [List.forIn_nil]
  refine wpAny_pure (wpAny_pure ?_)
  exact h _ (fun b o e => pushCells_keeps _ _ b o (Heap.get?_push_of_some _ e)) ((Heap.Ns.new s.heap (.type "dict")).keeps (pushCells_keeps _ _)) fun x c hc => ok.empty x c (mem_of_lookup hc)

/-- one clause, its tests, its element -/
theorem comp_block {elt iter : Expr} {x : Str} {px : Pos} {ifs : List Expr} {scope : Scope} {env : Env} {pos : Pos} {A : Around} {E : Value → Shared → Prop} {s : Shared} {I : Addr} {fp : List Addr} {P : Nat → Value → Prop} {St : Nat → Heap → Prop}
    {α β : Type} {R : RelH α} {R' : RelH β} {xs : List α} {p : α → Bool} {f : α → β} {RR : Value → Addr → Result → Shared → Prop}
    (a : AOk n A) (x₀ : Ext g s.heap) (Wk : Walks prog w A I fp [I] xs.length P St) (st : St 0 s.heap) (hg : g.get? I = none) (hfp : ∀ b ∈ fp, b < s.heap.objs.size) (hIo : ∀ i h, St i h → ∃ o, h.get? I = some o ∧ ∀ vs n, o ≠ tupO vs n)
    (hP : ∀ i v y, P i v → xs[i]? = some y → R g v y) (hsz : xs.length ≤ sizeLine) (hR : TMono R') (K : EnvOk env) (hk : scope.kind = .function) (hf : FreeOk env scope)
    (hc : ∀ p ∈ scope.names, p.2 = .cell → ∀ q ∈ scope.names, q.2 = .free → p.1 ≠ q.1) (hx : (scope.names.lookup x = some .local) ∨ scope.names.lookup x = some .cell)
    (tests : ∀ cenv g' v y, CLink scope env cenv → Ext g g' → y ∈ xs → R g v y → Sees g' cenv x v → Run prog w n g' (testsT ifs cenv) (fun _ b => b = p y))
    (el : ∀ cenv g' v y, CLink scope env cenv → Ext g g' → y ∈ xs → p y = true → R g v y → Sees g' cenv x v → Run prog w n g' (eval elt cenv) (fun h v => R' h v (f y)))
    (hRR : ∀ D C h' tk vs k, s.heap.get? D = none → s.heap.get? C = none → D ≠ C → (∃ m, h'.Ns C m) → h'.get? D = some (lstO vs k) → Paired (R' h') vs ((xs.filter p).map f) → (∀ b o, b ≠ I → s.heap.get? b = some o → h'.get? b = some o) →
      RR (.ref D) C (.ok .next) { s with heap := h', toks := tk }) :
    wpAny (model prog w) A (newList []) (fun acc s₃ => wpAny (model prog w) A (newFunctionEnv scope env.globals (closOf env scope.names []) [] env.qual none .none (some env)) (fun cenv s₄ =>
      codeAny (model prog w) A (.compStart (.ListComp elt [⟨.Name x px, iter, ifs, 0⟩] scope pos) 0 (.ref I) acc { cenv with scope := relabel scope env }) (RR acc cenv.locals) s₄) E s₃) E s := by
  refine wpAny_newObj_type (wpAny_newComp fun h₁ e₁ hns hcells => ?_)
  dsimp only at e₁ hns hcells ⊢
  generalize hH2 : s.heap.push { cls := .type "list", dict := none, data := .seq ([] : List Value).toArray } = H2 at e₁ hns hcells ⊢
  have hC : H2.objs.size = s.heap.objs.size + 1 := by rw [← hH2, Heap.size_push]
  have e₂ : Ext s.heap H2 := by rw [← hH2]; exact Ext.push _ _
  have L := CLink.of (C := H2.objs.size) K hk hf hc
  have old : Ext s.heap h₁ := e₂.trans e₁
  have hD₁ : h₁.get? s.heap.objs.size = some (lstO [] 0) := e₁ _ _ (by rw [← hH2]; exact Heap.get?_push_size _ rfl)
  have fresh : ∀ b, s.heap.objs.size ≤ b → s.heap.get? b = none := fun b hb => Heap.get?_none_of_le hb
  have hIlt : I < s.heap.objs.size := hfp I (Wk.sub I (by simp))
  -- where the loop's name lies
  obtain ⟨V, hV, hVge⟩ : ∃ V, VarOk (cEnv scope env H2.objs.size) x H2.objs.size V h₁ ∧ s.heap.objs.size + 1 ≤ V := by
    rcases hx with hx | hx
    · exact ⟨H2.objs.size, ⟨hk, rfl, ⟨_, hns⟩, .inl ⟨by have := relabel_lookup (scope := scope) (env := env) hx; simpa [Env.kindOf, relabel] using this, rfl⟩⟩, by rw [hC]; exact Nat.le_refl _⟩
    · obtain ⟨c, hc'⟩ := Option.isSome_iff_exists.mp (cellsFrom_some (x := x) scope.names (H2.objs.size + 1) [] (.inl hx))
      obtain ⟨hcell, hlt⟩ := hcells x c hc'
      refine ⟨c, ⟨hk, rfl, ⟨_, hns⟩, .inr ⟨by have := relabel_lookup (scope := scope) (env := env) hx; simpa [Env.kindOf, relabel] using this, ?_, Nat.ne_of_gt hlt, _, hcell⟩⟩, by rw [← hC]; exact Nat.le_of_lt hlt⟩
      show (cellsFrom (H2.objs.size + 1) scope.names (closOf env scope.names [])).lookup x = some c
      rw [cellsFrom_app]
      exact lookup_app_some hc'
  have vol : ∀ b o, s.heap.get? b = some o → b ≠ V ∧ b ≠ s.heap.objs.size ∧ b ≠ H2.objs.size := fun b o e => by
    have hlt : @LT.lt Nat _ b s.heap.objs.size := Heap.lt_size e
    have h1 : @LE.le Nat _ (s.heap.objs.size + 1) V := hVge
    exact ⟨Nat.ne_of_lt (by omega), Nat.ne_of_lt hlt, Nat.ne_of_lt (by omega)⟩
  have hVge' : @LE.le Nat _ (s.heap.objs.size + 1) V := hVge
  have hIlt' : @LT.lt Nat _ I s.heap.objs.size := hIlt
  have hDV : s.heap.objs.size ≠ V := Nat.ne_of_lt (by omega)
  have hDC : s.heap.objs.size ≠ H2.objs.size := Nat.ne_of_lt (by omega)
  have hVf : V ∉ fp := fun hm => by have : @LT.lt Nat _ V s.heap.objs.size := hfp V hm; omega
  have hCf : H2.objs.size ∉ fp := fun hm => by have : @LT.lt Nat _ H2.objs.size s.heap.objs.size := hfp _ hm; omega
  have hDf : s.heap.objs.size ∉ fp := fun hm => by have : @LT.lt Nat _ s.heap.objs.size s.heap.objs.size := hfp _ hm; omega
  have hIV : I ≠ V := Nat.ne_of_lt (by omega)
  have hID : I ≠ s.heap.objs.size := Nat.ne_of_lt (by omega)
  have hIC : I ≠ H2.objs.size := Nat.ne_of_lt (by omega)
  have gI : ∀ b o, g.get? b = some o → b ≠ I := fun b o e h => by rw [h, hg] at e; cases e
  have st₁ : St 0 h₁ := Wk.frame _ _ _ st fun b _ o e => old b o e
  have loop : codeAny (model prog w) A (.compLoop (.ListComp elt [⟨.Name x px, iter, ifs, 0⟩] scope pos) 0 (.ref I) (.ref s.heap.objs.size) (cEnv scope env H2.objs.size)) (RR (.ref s.heap.objs.size) H2.objs.size) { s with heap := h₁ } := by
    refine codeAny_compLoop_tests
      (fun k s' => ∃ h' tk i vs e, s' = { s with heap := h', toks := tk } ∧ i ≤ xs.length ∧ k = xs.length + 1 - i ∧ St i h' ∧ VarOk (cEnv scope env H2.objs.size) x H2.objs.size V h' ∧ h'.get? s.heap.objs.size = some (lstO vs e) ∧
        Paired (R' h') vs (((xs.take i).filter p).map f) ∧ (∀ b o, b ≠ I → s.heap.get? b = some o → h'.get? b = some o)) ?_ (xs.length + 1)
      ⟨h₁, s.toks, 0, [], 0, rfl, Nat.zero_le _, rfl, st₁, hV, hD₁, by simpa using Paired.nil, fun b o _ e => old b o e⟩
    rintro k s' ⟨h', tk, i, vs, ep, rfl, hi, rfl, st', hV', hD', hp', kp'⟩
    by_cases hlt : i < xs.length
    · refine Wk.item i _ _ _ hlt st' fun v h₂ tk₂ hPv st₂ k₂ => ?_
      have k₂' : ∀ b o, b ≠ I → h'.get? b = some o → h₂.get? b = some o := fun b o hb e => k₂ b o (by simpa using hb) e
      have hV₂ : VarOk (cEnv scope env H2.objs.size) x H2.objs.size V h₂ := hV'.keep fun b o hb e => k₂' b o (by rcases hb with rfl | rfl; exact Ne.symm hIC; exact Ne.symm hIV) e
      refine VarOk.store hV₂ fun h₃ tk₃ hV₃ hs₃ hsee => ?_
      have hy : xs[i]? = some xs[i] := by simp [hlt]
      have hRv := hP i v xs[i] hPv hy
      have kp₃ : ∀ b o, b ≠ I → b ≠ V → h'.get? b = some o → h₃.get? b = some o := fun b o h1 h2 e => hs₃.extBut b o h2 (k₂' b o h1 e)
      have g₃ : Ext g h₃ := fun b o e => kp₃ b o (gI b o e) (vol b o (x₀ b o e)).1 (kp' b o (gI b o e) (x₀ b o e))
      have hym : xs[i] ∈ xs := List.getElem_mem hlt
      have st₃ : St (i + 1) h₃ := Wk.frame _ _ _ st₂ fun b hb o e => hs₃.extBut b o (fun q => hVf (q ▸ hb)) e
      have t₃ : TExt h' h₃ := by
        obtain ⟨oI, heI, hIn⟩ := hIo _ _ st'
        obtain ⟨oV, heV, hVn⟩ := hV₂.noTup
        exact (TExt.but heI hIn k₂').trans (TExt.but heV hVn hs₃.extBut)
      have hD₃ : h₃.get? s.heap.objs.size = some (lstO vs ep) := kp₃ _ _ (Ne.symm hID) hDV hD'
      refine (tests _ h₃ v xs[i] L g₃ hym hRv hsee).use a (Ext.refl _) fun ok s₄ hok k₄ => ?_
      subst hok
      obtain ⟨h₄, tk₄, rfl, kk₄⟩ := k₄
      have hV₄ := hV₃.keep fun b o _ e => kk₄ b o e
      have htake : xs.take (i + 1) = xs.take i ++ [xs[i]] := by rw [List.take_append_getElem]
      have hw : xs.length + 1 - (i + 1) < xs.length + 1 - i := by omega
      have kp₄ : ∀ b o, b ≠ I → s.heap.get? b = some o → h₄.get? b = some o := fun b o hb e => kk₄ b o (kp₃ b o hb (vol b o e).1 (kp' b o hb e))
      cases hpy : p xs[i] with
      | false =>
        simp only [Bool.false_eq_true, if_false]
        refine ⟨_, hw, h₄, tk₄, i + 1, vs, ep, rfl, hlt, rfl, Wk.frame _ _ _ st₃ fun b _ o e => kk₄ b o e, hV₄, kk₄ _ _ hD₃, ?_, kp₄⟩
        rw [htake, List.filter_append]
        simp only [hpy, List.filter_cons_of_neg, Bool.false_eq_true, not_false_eq_true, List.filter_nil, List.append_nil]
        exact paired_mono (fun a b r => hR _ _ a b (t₃.trans (TExt.of kk₄)) r) hp'
      | true =>
        simp only [if_true]
        refine ((el _ h₃ v xs[i] L g₃ hym hpy hRv hsee).base kk₄).use a (Ext.refl _) fun y s₅ hy' k₅ => ?_
        obtain ⟨h₅, tk₅, rfl, kk₅⟩ := k₅
        have hD₅ : h₅.get? s.heap.objs.size = some (lstO vs ep) := kk₅ _ _ (kk₄ _ _ hD₃)
        have hlen : vs.length ≤ sizeLine := by
          have e1 := paired_len hp'
          have e2 : ((xs.take i).filter p).length ≤ (xs.take i).length := List.length_filter_le _ _
          simp only [List.length_map, List.length_take] at e1 e2
          omega
        refine wpAny_list_append_plain (hsz := by simpa using hlen) ⟨_, hD₅⟩ fun h₆ hl₆ hs₆ => ?_
        obtain ⟨e₆, ho₆⟩ := hl₆
        have t₆ : TExt h₅ h₆ := TExt.but hD₅ lst_no_tup hs₆.extBut
        refine ⟨_, hw, h₆, tk₅, i + 1, vs ++ [y], e₆, rfl, hlt, rfl, ?_, ?_, ?_, ?_, fun b o hb e => hs₆.extBut b o (vol b o e).2.1 (kk₅ b o (kp₄ b o hb e))⟩
        · exact Wk.frame _ _ _ st₃ fun b hb o e => hs₆.extBut b o (fun q => hDf (q ▸ hb)) (kk₅ b o (kk₄ b o e))
        · exact hV₄.keep fun b o hb e => hs₆.extBut b o (by rcases hb with rfl | rfl; exact Ne.symm hDC; exact Ne.symm hDV) (kk₅ b o e)
        · rw [ho₆]
          congr 2
          simp
        · rw [htake, List.filter_append]
          simp only [hpy, List.filter_cons_of_pos, List.filter_nil, List.map_append, List.map_cons, List.map_nil]
          exact paired_append (paired_mono (fun a b r => hR _ _ a b (t₃.trans ((TExt.of kk₄).trans ((TExt.of kk₅).trans t₆))) r) hp') (.cons (hR _ _ _ _ t₆ hy') .nil)
    · have hin : i = xs.length := by omega
      subst hin
      refine Wk.done _ _ _ st' fun h₂ tk₂ k₂ => ?_
      have k₂' : ∀ b o, b ≠ I → h'.get? b = some o → h₂.get? b = some o := fun b o hb e => k₂ b o (by simpa using hb) e
      obtain ⟨oI, heI, hIn⟩ := hIo _ _ st'
      have hV₂ : VarOk (cEnv scope env H2.objs.size) x H2.objs.size V h₂ := hV'.keep fun b o hb e => k₂' b o (by rcases hb with rfl | rfl; exact Ne.symm hIC; exact Ne.symm hIV) e
      refine hRR _ _ h₂ tk₂ vs ep (fresh _ (Nat.le_refl _)) (fresh _ (by rw [hC]; exact Nat.le_succ _)) hDC hV₂.2.2.1 (k₂' _ _ (Ne.symm hID) hD') ?_ fun b o hb e => k₂' b o hb (kp' b o hb e)
      rw [List.take_length] at hp'
      exact paired_mono (fun a b r => hR _ _ a b (TExt.but heI hIn k₂') r) hp'
  exact codeAny_compStart_list loop (Wk.self 0 _ _ _ st₁ loop)
end
end Mine

namespace Mine

section
variable {prog : Program} {w : World} {n : Nat} {g : Heap} {env : Env}

theorem passOn_no {M : Model} : True := trivial

theorem Run.listComp {elt iter : Expr} {x : Str} {px : Pos} {ifs : List Expr} {scope : Scope} {pos : Pos} {α β : Type} {R : RelH α} {R' : RelH β} {xs : List α} {res : List β} (p : α → Bool) (f : α → β) (hres : (xs.filter p).map f = res)
    (src : Run prog w n g (eval iter env) (fun h v => Iters prog w h v R xs)) (hsz : xs.length ≤ sizeLine) (hR : RMono R) (hR' : TMono R') (K : EnvOk env) (hf : FreeOk env scope)
    (tests : ∀ cenv g' v y, CLink scope env cenv → Ext g g' → y ∈ xs → R g' v y → Sees g' cenv x v → Run prog w n g' (testsT ifs cenv) (fun _ b => b = p y))
    (el : ∀ cenv g' v y, CLink scope env cenv → Ext g g' → y ∈ xs → p y = true → R g' v y → Sees g' cenv x v → Run prog w n g' (eval elt cenv) (fun h v => R' h v (f y)))
    (hk : scope.kind = .function := by rfl) (hc : ∀ p ∈ scope.names, p.2 = .cell → ∀ q ∈ scope.names, q.2 = .free → p.1 ≠ q.1 := by decide) (hx : (scope.names.lookup x = some .local) ∨ scope.names.lookup x = some .cell := by decide)
    (hnames : ∀ x ∈ scope.names, x.2 = .local → scope.names.lookup x.1 = some .local := by decide)
    (hs : ∀ x, foldedSetIterable iter env x = pure x := by intro _; rfl) :
    Run prog w n g (eval (.ListComp elt [⟨.Name x px, iter, ifs, 0⟩] scope pos) env) (fun h v => LstR R' h v res) := fun A s E a e => by
  subst hres
  rw [eval_ListComp]
  refine wpAny_comprehension_free (use := none) (cl := closOf env scope.names []) rfl hs (closureFor_eq hf) hk hnames ?_
  refine src.use a e fun xv s₁ it k₁ => ?_
  obtain ⟨h₁, t₁, rfl, kk₁⟩ := k₁
  refine it A _ _ _ a.hh (Ext.refl _) fun I fp P St h₂ Wk st e₂ hI hIo hfp hIo' hP _ => ?_
  dsimp only at e₂ hI hIo hfp hP st ⊢
  refine comp_block (g := h₁) (R := R) (R' := R') (p := p) (f := f) (RR := fun acc C => compPost (model prog w) A E none (fun v s' => LstR R' s'.heap v ((xs.filter p).map f) ∧ Keeps s s') acc C) a e₂ Wk st hI hfp hIo' hP hsz hR' K hk hf hc hx
    (fun cenv g' v y L x' hy r sees => tests cenv g' v y L (e.trans (Ext.trans kk₁ x')) hy (hR _ _ _ _ x' r) sees)
    (fun cenv g' v y L x' hy hp r sees => el cenv g' v y L (e.trans (Ext.trans kk₁ x')) hy hp (hR _ _ _ _ x' r) sees) ?_
  intro D C h' tk vs ep hD hC hDC hn hl hp hkeep
  obtain ⟨m, hn⟩ := hn
  refine ⟨m, hn, fun h'' hs'' => ⟨⟨D, vs, ep, rfl, hs''.extBut _ _ hDC hl, ?_⟩, h'', tk, rfl, fun b o q => ?_⟩⟩
  · obtain ⟨oC, heC, hCn⟩ := ns_no_tup hn
    exact paired_mono (fun a b r => hR' _ _ a b (TExt.but heC hCn hs''.extBut) r) hp
  · have q₁ : h₁.get? b = some o := kk₁ b o q
    have q₂ : h₂.get? b = some o := e₂ b o q₁
    refine hs''.extBut b o (fun z => ?_) (hkeep b o (fun z => ?_) q₂)
    · rw [z, hC] at q₂; cases q₂
    · rw [z, hI] at q₁; cases q₁
end

/-! a def's frame -/
section
variable {prog : Program} {w : World} {n : Nat} {g : Heap}

theorem bindC_keeps {kindOf : Str → Option NameKind} {y : Str} : ∀ (binds : List (Str × Value)) (m : Str → Option Value), (∀ p ∈ binds, p.1 ≠ y) → bindC kindOf binds m y = m y
  | [], _, _ => rfl
  | (z, v) :: r, m, h => by
    have hr : ∀ p ∈ r, p.1 ≠ y := fun p hp => h p (List.mem_cons_of_mem _ hp)
    unfold bindC
    rw [bindC_keeps r _ hr]
    split
    · rfl
    · exact if_neg fun e => h (z, v) List.mem_cons_self e.symm

/-- a call of a def whose names may be cells: its body runs in a frame that sees the arguments -/
theorem Run.callDef {a : Addr} {o : Obj} {fd : FuncData} {body : List Stmt} {args : List Value} {binds : List (Str × Value)} {P : Heap → Value → Prop}
    (nolim : g.NoLimit) (ho : g.get? a = some o) (hdata : o.data = .func fd) (hcd : g.CodeRec fd.code fd.qualname) (hbody : fd.body = .stmts body) (hclo : fd.closure = [])
    (hbind : bindArgs fd ⟨args, []⟩ = pure binds)
    (hkind : ∀ L, ∀ x ∈ binds, fd.scope.names.lookup x.1 = some .local ∨ (fd.scope.names.lookup x.1 = some .cell ∧ ((cellsFrom L fd.scope.names []).lookup x.1).isSome = true))
    (h : ∀ (L : Addr) (g' : Heap), Ext g g' → g.get? L = none → (∃ m, g'.Ns L m ∧ ∀ x v, bindL (callEnvC fd L a).kindOf binds (fun _ => none) x = some v → m x = some v) →
      (∀ x c, (cellsFrom (L + 1) fd.scope.names []).lookup x = some c → g'.IsCell c (bindC (callEnvC fd L a).kindOf binds (fun _ => none) x)) →
      Run prog w n g' (execs body (callEnvC fd L a)) (fun h fl => ∃ v, fl = .ret v ∧ P h v))
    (hco : fd.scope.isCoroutine = false := by rfl) (hgen : fd.scope.isGenerator = false := by rfl) (hk : fd.scope.kind = .function := by rfl) :
    Run prog w (n + 1) g (PySem.call (.ref a) args) P := fun A s E ok e => by
  refine wpAny_call (codeAny_call_cells ok.room (e _ _ ho) hdata (nolim.keeps e) (hcd.keeps e) hbody hbind hclo (hkind _) (fun s₁ x => ?_) hco hgen hk)
  obtain ⟨h₁, tk, rfl, kk⟩ := x.done
  have hL : g.get? s.heap.objs.size = none := by
    cases q : g.get? s.heap.objs.size with
    | none => rfl
    | some o => exact absurd (Heap.lt_size (e _ _ q)) (Nat.lt_irrefl _)
  refine (h s.heap.objs.size h₁ (e.trans kk) hL ⟨_, x.toInCall.ns, fun _ _ q => q⟩ fun y c hc => x.cell y c hc).use (ok.deeper _) (Ext.refl _) fun fl s₂ hv k₂ => ?_
  obtain ⟨v, rfl, hp⟩ := hv
  exact ⟨hp, keeps_trans (keeps_mk kk) k₂⟩

theorem Run.ret {e : Expr} {pos : Pos} {env : Env} {P : Heap → Value → Prop} (h : Run prog w n g (eval e env) P) : Run prog w n g (execs [.Return (some e) pos] env) (fun h fl => ∃ v, fl = .ret v ∧ P h v) := fun A s E a x =>
  wpAny_execs_cons (wpAny_Return_some (h.use a x fun v s' p k => ⟨⟨v, rfl, p⟩, k⟩))
end
end Mine

namespace Mine


def NotSlice : Expr → Bool
  | .Slice .. => false
  | _ => true
theorem subscripted_plain {slice : Expr} {o i : Value} (h : NotSlice slice = true) : subscripted slice false o i = operate [o, i] (getItem o i) := by
  cases slice <;> first | rfl | simp [NotSlice] at h

section
variable {prog : Program} {w : World} {n : Nat} {g : Heap} {env : Env} {pos : Pos}

theorem Run.call1 {fx : Str} {fpos : Pos} {e : Expr} {f : Value} {P Q : Heap → Value → Prop} (hf : Run prog w n g (eval (.Name fx fpos) env) (fun _ r => r = f))
    (hk : (∃ id, f = .builtin id) ∨ (∃ T, f = .type T) ∨ ∃ a o fd, f = .ref a ∧ g.get? a = some o ∧ o.data = .func fd)
    (h : Run prog w n g (eval e env) P) (m : ∀ h h' v, Ext h h' → P h v → P h' v) (hc : ∀ g' v, Ext g g' → P g' v → Run prog w n g' (PySem.call f [v]) Q)
    (he : starEach [e] env = [(false, eval e env)] := by rfl) :
    Run prog w n g (eval (.Call (.Name fx fpos) [e] [] pos) env) Q :=
  Run.call hf hk (by rw [he]; exact Run.cons h m Run.nil) (fun g' vs x p => by
    obtain ⟨v, vs', rfl, p, q⟩ := p
    have q' : vs' = [] := q
    subst q'
    exact hc g' v x p) he rfl
theorem Run.call2 {fx : Str} {fpos : Pos} {e₁ e₂ : Expr} {f : Value} {P₁ P₂ Q : Heap → Value → Prop} (hf : Run prog w n g (eval (.Name fx fpos) env) (fun _ r => r = f))
    (hk : (∃ id, f = .builtin id) ∨ (∃ T, f = .type T) ∨ ∃ a o fd, f = .ref a ∧ g.get? a = some o ∧ o.data = .func fd)
    (h₁ : Run prog w n g (eval e₁ env) P₁) (m₁ : ∀ h h' v, Ext h h' → P₁ h v → P₁ h' v) (h₂ : Run prog w n g (eval e₂ env) P₂) (m₂ : ∀ h h' v, Ext h h' → P₂ h v → P₂ h' v)
    (hc : ∀ g' v₁ v₂, Ext g g' → P₁ g' v₁ → P₂ g' v₂ → Run prog w n g' (PySem.call f [v₁, v₂]) Q)
    (he : starEach [e₁, e₂] env = [(false, eval e₁ env), (false, eval e₂ env)] := by rfl) (he₂ : starEach [e₂] env = [(false, eval e₂ env)] := by rfl) :
    Run prog w n g (eval (.Call (.Name fx fpos) [e₁, e₂] [] pos) env) Q :=
  Run.call hf hk (by rw [he]; exact Run.cons h₁ m₁ (Run.cons h₂ m₂ Run.nil)) (fun g' vs x p => by
    obtain ⟨v, vs', rfl, p, v₂, vs₂, rfl, p₂, q⟩ := p
    have q' : vs₂ = [] := q
    subst q'
    exact hc g' v v₂ x p p₂) (by rw [he, he₂]) (by rw [he₂]; rfl)
theorem Run.call3 {fx : Str} {fpos : Pos} {e₁ e₂ e₃ : Expr} {f : Value} {P₁ P₂ P₃ Q : Heap → Value → Prop} (hf : Run prog w n g (eval (.Name fx fpos) env) (fun _ r => r = f))
    (hk : (∃ id, f = .builtin id) ∨ (∃ T, f = .type T) ∨ ∃ a o fd, f = .ref a ∧ g.get? a = some o ∧ o.data = .func fd)
    (h₁ : Run prog w n g (eval e₁ env) P₁) (m₁ : ∀ h h' v, Ext h h' → P₁ h v → P₁ h' v) (h₂ : Run prog w n g (eval e₂ env) P₂) (m₂ : ∀ h h' v, Ext h h' → P₂ h v → P₂ h' v)
    (h₃ : Run prog w n g (eval e₃ env) P₃) (m₃ : ∀ h h' v, Ext h h' → P₃ h v → P₃ h' v)
    (hc : ∀ g' v₁ v₂ v₃, Ext g g' → P₁ g' v₁ → P₂ g' v₂ → P₃ g' v₃ → Run prog w n g' (PySem.call f [v₁, v₂, v₃]) Q)
    (he : starEach [e₁, e₂, e₃] env = [(false, eval e₁ env), (false, eval e₂ env), (false, eval e₃ env)] := by rfl) (he₂ : starEach [e₂, e₃] env = [(false, eval e₂ env), (false, eval e₃ env)] := by rfl) :
    Run prog w n g (eval (.Call (.Name fx fpos) [e₁, e₂, e₃] [] pos) env) Q :=
  Run.call hf hk (by rw [he]; exact Run.cons h₁ m₁ (Run.cons h₂ m₂ (Run.cons h₃ m₃ Run.nil))) (fun g' vs x p => by
    obtain ⟨v, vs', rfl, p, v₂, vs₂, rfl, p₂, v₃, vs₃, rfl, p₃, q⟩ := p
    have q' : vs₃ = [] := q
    subst q'
    exact hc g' v v₂ v₃ x p p₂ p₃) (by rw [he, he₂]) (by rw [he₂]; rfl)

theorem tupR_ist {α : Type} {R : RelH α} {h : Heap} {v : Value} {l : List α} (x : TupR R h v l) : ∃ a vs k, v = .ref a ∧ IsT h a vs.toArray k ∧ Paired (R h) vs l ∧ vs.length = l.length := by
  obtain ⟨a, vs, k, rfl, ho, p⟩ := x
  exact ⟨a, vs, k, rfl, ho, p, paired_len p⟩

theorem Run.lenT {α : Type} {R : RelH α} {v : Value} {l : List α} (h : TupR R g v l) (hl : l.length ≤ 1000) : Run prog w n g (PySem.call (.builtin "len") [v]) (fun h r => IntR h r l.length) := fun A s E a x => by
  obtain ⟨t, vs, k, rfl, ho, p⟩ := h
  have e := paired_len p
  refine P.len_tuple (x _ _ ho) (by simp; omega) ⟨⟨s.toks + 1, ?_⟩, keeps_tok⟩
  rw [show vs.toArray.size = l.length by simpa using e]
theorem Run.lenL {α : Type} {R : RelH α} {v : Value} {l : List α} (h : LstR R g v l) (hl : l.length ≤ 1000) : Run prog w n g (PySem.call (.builtin "len") [v]) (fun h r => IntR h r l.length) := fun A s E a x => by
  obtain ⟨t, vs, k, rfl, ho, p⟩ := h
  have e := paired_len p
  refine PyProof.Rows.len_list (items := vs.toArray) ⟨_, x _ _ ho, rfl, k, rfl⟩ (by simp; omega) ⟨⟨s.toks + 1, ?_⟩, keeps_tok⟩
  rw [show vs.toArray.size = l.length by simpa using e]

theorem small_one' {b : Int} (h0 : 0 ≤ b) (h1 : b ≤ 100000) : Builtin.Range.small 0 b 1 = true := small_one (by decide) (by decide) (by omega) (by omega)
theorem Run.range1 {v : Value} {b : Int} (h : IntR g v b) (h0 : 0 ≤ b) (h1 : b ≤ 100000) : Run prog w n g (PySem.call (.type "range") [v]) (fun h r => RangeR h r 0 1 b.toNat) := fun A s E a x => by
  obtain ⟨t, rfl⟩ := h
  refine call_range_1 ⟨⟨_, b, _, _, _, rfl, IsRange.new s.heap 0 b 1 _ _ _, small_one' h0 h1, ?_⟩, keeps_mk (Ext.push _ _)⟩
  rw [rangeSize_one]
  split <;> omega
theorem Run.range2 {v u : Value} {c b : Int} (h : IntR g v c) (k : IntR g u b) (h0 : 0 ≤ c) (h2 : c ≤ b) (h1 : b ≤ 100000) : Run prog w n g (PySem.call (.type "range") [v, u]) (fun h r => RangeR h r c 1 (b - c).toNat) := fun A s E a x => by
  obtain ⟨t, rfl⟩ := h
  obtain ⟨t', rfl⟩ := k
  refine call_range_2 ⟨⟨_, b, _, _, _, rfl, IsRange.new s.heap c b 1 _ _ _, small_one (by omega) (by omega) (by omega) (by omega), ?_⟩, keeps_mk (Ext.push _ _)⟩
  rw [rangeSize_one]
  split <;> omega

/-! an item -/
theorem Run.subscript {value slice : Expr} {P₁ P₂ Q : Heap → Value → Prop} (h₁ : Run prog w n g (eval value env) P₁) (m₁ : ∀ h h' v, Ext h h' → P₁ h v → P₁ h' v) (h₂ : Run prog w n g (eval slice env) P₂)
    (hc : ∀ g' o i, Ext g g' → P₁ g' o → P₂ g' i → Run prog w n g' (subscriptTail value slice o i) Q) : Run prog w n g (eval (.Subscript value slice pos) env) Q := fun A s E a x =>
  Subscript_ (h₁.use a x fun o s₁ p₁ k₁ => h₂.use a (x.trans (keeps_ext k₁)) fun i s₂ p₂ k₂ =>
    (hc s₂.heap o i (x.trans ((keeps_ext k₁).trans (keeps_ext k₂))) (m₁ _ _ _ (keeps_ext k₂) p₁) p₂).use a (Ext.refl _) fun v s₃ q k₃ => ⟨q, keeps_trans k₁ (keeps_trans k₂ k₃)⟩)
theorem seqIndex_in {k : Int} {m : Nat} (h0 : 0 ≤ k) (h1 : k < m) : seqIndex? k m = some k.toNat := by
  unfold seqIndex?
  simp only [show ¬ k < 0 by omega, if_false]
  rw [if_pos (by simp; omega)]
theorem Run.itemT {α : Type} {R : RelH α} {value slice : Expr} {l : List α} {k : Int} {y : α} (r : RMono R) (h₁ : Run prog w n g (eval value env) (fun h v => TupR R h v l)) (h₂ : Run prog w n g (eval slice env) (fun h v => IntR h v k))
    (h0 : 0 ≤ k) (hy : l[k.toNat]? = some y) (hl : l.length ≤ 1000) (hs : NotSlice slice = true := by rfl) : Run prog w n g (eval (.Subscript value slice pos) env) (fun h v => R h v y) :=
  Run.subscript h₁ (fun _ _ _ e p => TupR.mono r _ _ _ _ e p) h₂ fun g' o i x p₁ p₂ A s E a e => by
    obtain ⟨t, vs, m, rfl, ho, p⟩ := p₁
    obtain ⟨u, rfl⟩ := p₂
    have el := paired_len p
    have hlt : k.toNat < l.length := by
      rcases Nat.lt_or_ge k.toNat l.length with q | q
      · exact q
      · rw [List.getElem?_eq_none q] at hy; cases hy
    have hv : vs[k.toNat]? = some vs[k.toNat] := by simp [el, hlt]
    refine item_tupleT (l := vs) (x := vs[k.toNat]) ⟨_, e _ _ ho, rfl, m, rfl⟩ (by omega) (by omega) (seqIndex_in h0 (by omega)) hv ⟨?_, keeps_refl s⟩ (subscripted_plain hs)
    exact r _ _ _ _ e (paired_get p k.toNat _ _ hv hy)
theorem Run.itemL {α : Type} {R : RelH α} {value slice : Expr} {l : List α} {k : Int} {y : α} (r : RMono R) (h₁ : Run prog w n g (eval value env) (fun h v => LstR R h v l)) (h₂ : Run prog w n g (eval slice env) (fun h v => IntR h v k))
    (h0 : 0 ≤ k) (hy : l[k.toNat]? = some y) (hl : l.length ≤ 1000) (hs : NotSlice slice = true := by rfl) : Run prog w n g (eval (.Subscript value slice pos) env) (fun h v => R h v y) :=
  Run.subscript h₁ (fun _ _ _ e p => LstR.mono r _ _ _ _ e p) h₂ fun g' o i x p₁ p₂ A s E a e => by
    obtain ⟨t, vs, m, rfl, ho, p⟩ := p₁
    obtain ⟨u, rfl⟩ := p₂
    have el := paired_len p
    have hlt : k.toNat < l.length := by
      rcases Nat.lt_or_ge k.toNat l.length with q | q
      · exact q
      · rw [List.getElem?_eq_none q] at hy; cases hy
    have hv : vs[k.toNat]? = some vs[k.toNat] := by simp [el, hlt]
    have hL : s.heap.IsList t vs.toArray := ⟨_, e _ _ ho, rfl, m, rfl⟩
    refine tail_any hL.typeIs slot_list_getitem.lookup (wpAny_getItem_list hL h0 (by omega) (x := vs[k.toNat]) (by simpa using hv) ⟨?_, keeps_refl s⟩) (subscripted_plain hs)
    exact r _ _ _ _ e (paired_get p k.toNat _ _ hv hy)

/-! tuple(list), min, sum -/
theorem Run.tupleL {α : Type} {R : RelH α} {v : Value} {l : List α} (r : RMono R) (h : LstR R g v l) (hl : l.length ≤ 1000) : Run prog w n g (PySem.call (.type "tuple") [v]) (fun h r => TupR R h r l) := fun A s E a x => by
  obtain ⟨t, vs, k, rfl, ho, p⟩ := h
  have e := paired_len p
  refine call_tuple_list (items := vs.toArray) ⟨_, x _ _ ho, rfl, k, rfl⟩ (fun h' hk => ⟨⟨_, vs, 0, rfl, Heap.get?_push_size _ rfl, paired_mono (fun a b q => r _ _ _ _ ((Ext.trans x hk).trans (Ext.push _ _)) q) p⟩, keeps_mk' (Ext.trans hk (Ext.push _ _))⟩) ?_
  rw [sizeLine_eq]; simp; omega
theorem Run.min2 {u v : Value} {a b : Int} (h₁ : IntR g u a) (h₂ : IntR g v b) : Run prog w n g (PySem.call (.builtin "min") [u, v]) (fun h r => IntR h r (min a b)) := fun A s E ok x => by
  obtain ⟨t, rfl⟩ := h₁
  obtain ⟨t', rfl⟩ := h₂
  refine min_two_ints ok.hh fun h' tk hk => ⟨?_, keeps_mk hk⟩
  split
  · exact ⟨t', by rw [Int.min_eq_right (by omega)]⟩
  · exact ⟨t, by rw [Int.min_eq_left (by omega)]⟩
theorem preSum_list (val : Nat → Int) : ∀ (xs : List Int) (k : Nat), (∀ i x, xs[i]? = some x → val (k + i) = x) → preSum val (k + xs.length) = preSum val k + xs.sum
  | [], k, _ => by simp
  | x :: xs, k, h => by
    have ih := preSum_list val xs (k + 1) fun i y hy => by
      have := h (i + 1) y (by simpa using hy)
      rw [show k + 1 + i = k + (i + 1) by omega]
      exact this
    have h0 := h 0 x rfl
    rw [List.length_cons, show k + (xs.length + 1) = k + 1 + xs.length by omega, ih, List.sum_cons]
    have e : preSum val (k + 1) = preSum val k + val k := rfl
    rw [e, show val k = x from h0]
    omega
theorem Run.sum {v : Value} {xs : List Int} (h : Iters prog w g v IntR xs) : Run prog w (n + 1) g (PySem.call (.builtin "sum") [v]) (fun h r => IntR h r xs.sum) := fun A s E ok x => by
  refine call_sum_walkG (h A.in1 s E _ ok.in1.hh x fun I fp P St h' W st e₂ hI hIo hfp _ hP _ => ⟨I, fp, [I], xs.length, fun i v => i < xs.length ∧ P i v, St, fun i => xs.getD i 0, rfl, ?_, st, hfp, fun i v hp => ?_, fun h'' tk t' hk => ?_⟩)
  · exact { W with item := fun i s Q E hi st hQ => W.item i s Q E hi st fun v h' tk hp st' hk => hQ v h' tk ⟨hi, hp⟩ st' hk }
  · obtain ⟨t, e⟩ := hP i v xs[i] hp.2 (by simp [hp.1])
    exact ⟨t, by rw [e]; simp [hp.1]⟩
  · refine ⟨⟨t', ?_⟩, keeps_mk fun b o e => hk b o (fun hm => ?_) (e₂ b o e)⟩
    · have := preSum_list (fun i => xs.getD i 0) xs 0 fun i x hx => by simp [hx]
      rw [Nat.zero_add] at this
      rw [this]
      have e : preSum (fun i => xs.getD i 0) 0 = 0 := rfl
      rw [e, Int.zero_add]
    · rw [List.mem_singleton.mp hm, hI] at e; cases e
end
end Mine

namespace Mine

section
variable {prog : Program} {w : World} {n : Nat} {g : Heap} {env : Env} {pos fpos : Pos} {mg mb : Str → Option Value} {e : Expr}

theorem Run.built' {x : Str} {v : Value} (K : EnvOk env) (G : Gd mg mb g) (hx : x ∈ (["len", "range", "tuple", "min", "sorted", "dict", "bytes", "bytearray", "sum"] : List Str)) (hb : bootBuiltins x = some v) (hk : env.kindOf x = some .globalImplicit)
    (hn : x ≠ "__name__") (hd : (x == ("__debug__" : Str)) = false) : Run prog w n g (eval (.Name x pos) env) (fun _ r => r = v) := Run.built K G (G.no x hx) hb hk hn hd

theorem Run.lenOfT {α : Type} {R : RelH α} {l : List α} (K : EnvOk env) (G : Gd mg mb g) (hk : env.kindOf (Str.ofString "len") = some .globalImplicit) (r : RMono R) (h : Run prog w n g (eval e env) (fun h v => TupR R h v l)) (hl : l.length ≤ 1000)
    (he : starEach [e] env = [(false, eval e env)] := by rfl) : Run prog w n g (eval (.Call (.Name (Str.ofString "len") fpos) [e] [] pos) env) (fun h v => IntR h v l.length) :=
  Run.call1 (Run.built' K G (by decide) boot_len hk (by decide) (by decide)) (.inl ⟨_, rfl⟩) h (fun _ _ _ x p => TupR.mono r _ _ _ _ x p) (fun g' v x p => Run.lenT p hl) he
theorem Run.lenOfL {α : Type} {R : RelH α} {l : List α} (K : EnvOk env) (G : Gd mg mb g) (hk : env.kindOf (Str.ofString "len") = some .globalImplicit) (r : RMono R) (h : Run prog w n g (eval e env) (fun h v => LstR R h v l)) (hl : l.length ≤ 1000)
    (he : starEach [e] env = [(false, eval e env)] := by rfl) : Run prog w n g (eval (.Call (.Name (Str.ofString "len") fpos) [e] [] pos) env) (fun h v => IntR h v l.length) :=
  Run.call1 (Run.built' K G (by decide) boot_len hk (by decide) (by decide)) (.inl ⟨_, rfl⟩) h (fun _ _ _ x p => LstR.mono r _ _ _ _ x p) (fun g' v x p => Run.lenL p hl) he
theorem RangeR.ext {h h' : Heap} {v : Value} {a c : Int} {n : Nat} (x : RangeR h v a c n) (e : Ext h h') : RangeR h' v a c n := by
  obtain ⟨r, b, t, u, y, h1, h2, h3, h4⟩ := x
  exact ⟨r, b, t, u, y, h1, IsRange.ext h2 e, h3, h4⟩
theorem Run.rangeOf {b : Int} (K : EnvOk env) (G : Gd mg mb g) (hk : env.kindOf (Str.ofString "range") = some .globalImplicit) (h : Run prog w n g (eval e env) (fun h v => IntR h v b)) (h0 : 0 ≤ b) (h1 : b ≤ 100000)
    (he : starEach [e] env = [(false, eval e env)] := by rfl) : Run prog w n g (eval (.Call (.Name (Str.ofString "range") fpos) [e] [] pos) env) (fun h v => Iters prog w h v IntR (rangeL 0 1 b.toNat)) :=
  Run.call1 (Run.built' K G (by decide) PyProof.Rows.boot_range hk (by decide) (by decide)) (.inr (.inl ⟨_, rfl⟩)) h (fun _ _ _ x p => p) (fun g' v x p => (Run.range1 p h0 h1).mono fun h v _ q => Iters.range q) he
theorem Run.tupleOf {α : Type} {R : RelH α} {l : List α} (K : EnvOk env) (G : Gd mg mb g) (hk : env.kindOf (Str.ofString "tuple") = some .globalImplicit) (r : RMono R) (h : Run prog w n g (eval e env) (fun h v => LstR R h v l)) (hl : l.length ≤ 1000)
    (he : starEach [e] env = [(false, eval e env)] := by rfl) : Run prog w n g (eval (.Call (.Name (Str.ofString "tuple") fpos) [e] [] pos) env) (fun h v => TupR R h v l) :=
  Run.call1 (Run.built' K G (by decide) PyProof.Rows.boot_tuple hk (by decide) (by decide)) (.inr (.inl ⟨_, rfl⟩)) h (fun _ _ _ x p => LstR.mono r _ _ _ _ x p) (fun g' v x p => Run.tupleL r p hl) he
end
end Mine

namespace Mine


/-! == and != of data -/
theorem AOk.u64 {n : Nat} {A : Around} (h : AOk (n + 4) A) : A.units + 64 < cLine := by obtain ⟨a, b, c⟩ := h; omega

def piI (l : List Int) : List PyData := l.map PyData.int
theorem eqvAll_ints : ∀ l r : List Int, PyData.eqvAll (piI l) (piI r) = decide (l = r)
  | [], [] => by simp [piI, PyData.eqvAll]
  | [], _ :: _ => by simp [piI, PyData.eqvAll]
  | _ :: _, [] => by simp [piI, PyData.eqvAll]
  | a :: l, b :: r => by
    have ih := eqvAll_ints l r
    unfold piI at ih
    simp only [piI, List.map_cons, PyData.eqvAll, PyData.eqv, ih]
    by_cases h : a = b <;> by_cases h' : l = r <;> simp [h, h']
def piT (ls : List (List Int)) : List PyData := ls.map fun l => PyData.tuple (piI l)
theorem eqvAll_tups : ∀ l r : List (List Int), PyData.eqvAll (piT l) (piT r) = decide (l = r)
  | [], [] => by simp [piT, PyData.eqvAll]
  | [], _ :: _ => by simp [piT, PyData.eqvAll]
  | _ :: _, [] => by simp [piT, PyData.eqvAll]
  | a :: l, b :: r => by
    have ih := eqvAll_tups l r
    unfold piT at ih
    simp only [piT, List.map_cons, PyData.eqvAll, PyData.eqv, ih, eqvAll_ints]
    by_cases h : a = b <;> by_cases h' : l = r <;> simp [h, h']
theorem readsInts {h : Heap} : ∀ {vs : List Value} {l : List Int}, Paired (IntR h) vs l → ReadsAll h vs (piI l) []
  | _, _, .nil => .nil
  | _, _, .cons ⟨t, e⟩ r => by subst e; exact .cons (as := []) (.int _ _) (readsInts r)
theorem readsTup {h : Heap} {v : Value} {l : List Int} (x : TupI h v l) : Reads h v (.tuple (piI l)) [] := by
  obtain ⟨a, vs, n, rfl, ho, p⟩ := x
  exact reads_tuple_at ho rfl rfl (by simpa using readsInts p)
theorem readsTups {h : Heap} : ∀ {vs : List Value} {l : List (List Int)}, Paired (TupI h) vs l → ReadsAll h vs (piT l) []
  | _, _, .nil => .nil
  | _, _, .cons e r => .cons (as := []) (readsTup e) (readsTups r)
theorem readsLstI {h : Heap} {v : Value} {l : List Int} (x : LstI h v l) : ∃ as, Reads h v (.list (piI l)) as := by
  obtain ⟨a, vs, n, rfl, ho, p⟩ := x
  exact ⟨_, reads_list_at ho rfl rfl (by simpa using readsInts p)⟩
theorem readsLstT {h : Heap} {v : Value} {l : List (List Int)} (x : LstT h v l) : ∃ as, Reads h v (.list (piT l)) as := by
  obtain ⟨a, vs, n, rfl, ho, p⟩ := x
  exact ⟨_, reads_list_at ho rfl rfl (by simpa using readsTups p)⟩
theorem canLayI : ∀ l : List Int, PyData.canLayAll0 (piI l) = true
  | [] => rfl
  | _ :: r => by have := canLayI r; unfold piI at this; simp [piI, PyData.canLayAll0, PyData.canLay0, this]
theorem depthI : ∀ l : List Int, PyData.depthAll (piI l) = 0
  | [] => rfl
  | _ :: r => by have := depthI r; unfold piI at this; simp [piI, PyData.depthAll, PyData.depth, this]
theorem shapedTup (l : List Int) : SeqAt.shaped (.tuple (piI l)) = true := by simp [SeqAt.shaped, PyData.canLay0, PyData.depth, canLayI, depthI]
theorem shapedLstI (l : List Int) : SeqAt.shaped (.list (piI l)) = true := by simp [SeqAt.shaped, PyData.canLay0, PyData.depth, canLayI, depthI]
theorem canLayT : ∀ l : List (List Int), PyData.canLayAll0 (piT l) = true
  | [] => rfl
  | _ :: r => by have := canLayT r; unfold piT at this; simp [piT, PyData.canLayAll0, PyData.canLay0, canLayI, this]
theorem depthT : ∀ l : List (List Int), PyData.depthAll (piT l) ≤ 1
  | [] => by simp [piT, PyData.depthAll]
  | _ :: r => by
    have := depthT r
    unfold piT at this
    simp only [piT, List.map_cons, PyData.depthAll, PyData.depth, depthI]
    omega
theorem shapedLstT (l : List (List Int)) : SeqAt.shaped (.list (piT l)) = true := by
  have := depthT l
  simp [SeqAt.shaped, PyData.canLay0, PyData.depth, canLayT]
  omega

section
variable {prog : Program} {w : World} {n : Nat} {g : Heap} {u v : Value}
theorem Run.eqT {l r : List Int} (x : TupI g u l) (y : TupI g v r) : Run prog w (n + 4) g (compareOp .Eq u v) (fun h b => BoolR h b (decide (l = r))) := fun A s E a e =>
  eq_dataH (readsTup (TupI.mono _ _ _ _ e x)) (readsTup (TupI.mono _ _ _ _ e y)) (shapedTup _) (shapedTup _) a.u64 ⟨by show _ = _; rw [PyData.eqv, eqvAll_ints], keeps_refl s⟩
theorem Run.neT {l r : List Int} (x : TupI g u l) (y : TupI g v r) : Run prog w (n + 4) g (compareOp .NotEq u v) (fun h b => BoolR h b (!decide (l = r))) := fun A s E a e =>
  ne_dataH (readsTup (TupI.mono _ _ _ _ e x)) (readsTup (TupI.mono _ _ _ _ e y)) (shapedTup _) (shapedTup _) a.u64 ⟨by show _ = _; rw [PyData.eqv, eqvAll_ints], keeps_refl s⟩
theorem Run.eqLI {l r : List Int} (x : LstI g u l) (y : LstI g v r) : Run prog w (n + 4) g (compareOp .Eq u v) (fun h b => BoolR h b (decide (l = r))) := fun A s E a e => by
  obtain ⟨as, ra⟩ := readsLstI (LstI.mono _ _ _ _ e x)
  obtain ⟨bs, rb⟩ := readsLstI (LstI.mono _ _ _ _ e y)
  exact eq_dataH ra rb (shapedLstI _) (shapedLstI _) a.u64 ⟨by show _ = _; rw [PyData.eqv, eqvAll_ints], keeps_refl s⟩
theorem Run.neLT {l r : List (List Int)} (x : LstT g u l) (y : LstT g v r) : Run prog w (n + 4) g (compareOp .NotEq u v) (fun h b => BoolR h b (!decide (l = r))) := fun A s E a e => by
  obtain ⟨as, ra⟩ := readsLstT (LstT.mono _ _ _ _ e x)
  obtain ⟨bs, rb⟩ := readsLstT (LstT.mono _ _ _ _ e y)
  exact ne_dataH ra rb (shapedLstT _) (shapedLstT _) a.u64 ⟨by show _ = _; rw [PyData.eqv, eqvAll_tups], keeps_refl s⟩

/-! < of tuples of ints -/
def ltL : List Int → List Int → Bool
  | [], [] => false
  | [], _ :: _ => true
  | _ :: _, [] => false
  | a :: l, b :: r => if a = b then ltL l r else decide (a < b)

theorem lt_tree {A : Around} {E : Value → Shared → Prop} {s : Shared} {a b : Addr} {xs ys : List Value} {na nb : Nat} {l r : List Int} {P : PySem.Fin → Shared → Prop} (ha : s.heap.get? a = some (tupO xs na)) (hb : s.heap.get? b = some (tupO ys nb))
    (px : Paired (IntR s.heap) xs l) (py : Paired (IntR s.heap) ys r) (h : P (.done (.ret (.bool (ltL l r)))) s) : wpAny (model prog w) A (Builtin.«tuple.__lt__» ⟨[.ref a, .ref b], []⟩) P E s := by
  have hTb : s.TypeIs (.ref b) "tuple" := ⟨_, hb, rfl⟩
  show wpAny _ _ (isInstance (.ref b) (.type "tuple") >>= _) _ _ s
  refine wpAny_bind (wpAny_isInstance hTb isSubtype_tuple_tuple ?_)
  simp only [Bool.not_true, Bool.false_eq_true, if_false]
  refine wpAny_bind (wpAny_tupleItemsOf ha rfl ?_)
  refine wpAny_bind (wpAny_tupleItemsOf hb rfl ?_)
  refine wpAny_bind ?_
  refine wpAny_forIn_list _
    (fun rest q s' => q.1 = none ∧ s' = s ∧ ∃ l' r' xs' ys', rest = List.zip xs' ys' ∧ Paired (IntR s.heap) xs' l' ∧ Paired (IntR s.heap) ys' r' ∧ ltL l' r' = ltL l r ∧ decide (xs'.length < ys'.length) = decide (xs.length < ys.length))
    _ ?_ ?_ _ _ ⟨rfl, rfl, l, r, xs, ys, by simp, px, py, rfl, rfl⟩
  · rintro ⟨u, v⟩ rest q s' ⟨hr, rfl, l', r', xs', ys', hz, hx', hy', hdec, hlen⟩
    cases hx' with
    | nil => simp at hz
    | @cons u' k1 xs'' l'' h1 hx'' =>
      cases hy' with
      | nil => simp at hz
      | @cons v' k2 ys'' r'' h2 hy'' =>
        simp only [List.zip_cons_cons, List.cons.injEq, Prod.mk.injEq] at hz
        obtain ⟨⟨rfl, rfl⟩, rfl⟩ := hz
        obtain ⟨t1, rfl⟩ := h1
        obtain ⟨t2, rfl⟩ := h2
        refine wpAny_bind (wpAny_eqBool_int ?_)
        by_cases hk : k1 = k2
        · subst hk
          simp only [beq_self_eq_true, Bool.not_true, Bool.false_eq_true, if_false]
          refine wpAny_pure ⟨rfl, rfl, l'', r'', xs'', ys'', rfl, hx'', hy'', ?_, by simpa using hlen⟩
          rw [← hdec]
          simp [ltL]
        · have hk' : (k1 == k2) = false := by simpa using hk
          rw [hk']
          simp only [Bool.not_false, if_true]
          have hf : ltL l r = decide (k1 < k2) := by rw [← hdec]; simp [ltL, hk]
          rw [hf] at h
          refine wpAny_bind (wpAny_rule ?_)
          refine wpAny_bind (show wpAny (model prog w) A (compareOp .Lt (.int k1 t1) (.int k2 t2)) _ E s' from PyProof.Rows.lt_int ?_)
          exact wpAny_bind (wpAny_pure (wpAny_pure (wpAny_pure h)))
  · rintro ⟨r1, r2⟩ s' ⟨hr, rfl, l', r', xs', ys', hz, hx', hy', hdec, hlen⟩
    simp only at hr
    subst hr
    refine wpAny_pure ?_
    have hfin : decide (xs.length < ys.length) = ltL l r := by
      rw [← hdec, ← hlen]
      cases hx' with
      | nil =>
        cases hy' with
        | nil => simp [ltL]
        | cons _ _ => simp [ltL]
      | cons _ _ =>
        cases hy' with
        | nil => simp [ltL]
        | cons _ _ => simp at hz
    show P (.done (.ret (.bool (decide (xs.toArray.size < ys.toArray.size))))) s'
    rw [show decide (xs.toArray.size < ys.toArray.size) = decide (xs.length < ys.length) by simp, hfin]
    exact h
theorem Run.ltT {l r : List Int} (x : TupI g u l) (y : TupI g v r) : Run prog w (n + 1) g (compareOp .Lt u v) (fun h b => BoolR h b (ltL l r)) := fun A s E a e => by
  obtain ⟨a1, xs, na, rfl, ho, px⟩ := TupI.mono _ _ _ _ e x
  obtain ⟨a2, ys, nb, rfl, ho2, py⟩ := TupI.mono _ _ _ _ e y
  exact (show wpAny (model prog w) A (richCompare .Lt (.ref a1) (.ref a2)) _ E s from wpAny_richCompare_same_room (op := .Lt) ⟨_, ho, rfl⟩ ⟨_, ho2, rfl⟩ F.slot_tuple_lt
    (wpAny_call_entry F.slot_tuple_lt ⟨_, ho, rfl⟩ F.entry_tuple_lt (lt_tree ho ho2 px py ⟨_, rfl, (fun e => nomatch e), rfl, keeps_refl s⟩) (F.args_tuple_lt_2 _ _)) a.units)
end
end Mine

namespace Mine


structure FnD where
  name : Str
  params : Arguments
  body : List Stmt
  scope : Scope
  deriving Inhabited
def fnD (k : Nat) : FnD := match PySem.Challenge.pw_gz0001_01.main.body[k]? with
  | some (.FunctionDef n a b _ _ _ sc _ _ _) => ⟨n, a, b, sc⟩
  | _ => default

/-- a plain def of the text stands under its name -/
def FnIs (mg : Str → Option Value) (h : Heap) (d : FnD) (a : Addr) : Prop :=
  mg d.name = some (.ref a) ∧ ∃ o pm cd doc, h.get? a = some o ∧ o.data = .func (Calls.docDef d.name d.params d.body d.scope pm cd doc) ∧ h.CodeRec cd d.name
theorem FnIs.ext {mg : Str → Option Value} {h h' : Heap} {d : FnD} {a : Addr} (x : FnIs mg h d a) (e : Ext h h') : FnIs mg h' d a := by
  obtain ⟨h1, o, pm, cd, doc, h2, h3, h4⟩ := x
  exact ⟨h1, o, pm, cd, doc, e _ _ h2, h3, h4.keeps e⟩

abbrev envF (k : Nat) (pm cd doc : Value) (L a : Addr) : Env := callEnvC (Calls.docDef (fnD k).name (fnD k).params (fnD k).body (fnD k).scope pm cd doc) L a

def squareL (row : List Int) : List Int := (rangeL 0 1 row.length).filter fun k => decide (k < row.getD k.toNat 0)
def columnsL (row : List Int) : List Int := (rangeL 0 1 (row.getD 0 0).toNat).map fun k => ((row.filter fun x => decide (k < x)).length : Int)
def anglesL (row : List Int) : List Int := (squareL row).map fun k => 2 * (row.getD k.toNat 0 - k) - 1

section
variable {prog : Program} {w : World} {n : Nat} {g : Heap} {mg mb : Str → Option Value}

theorem rangeL_mem {a c : Int} {n : Nat} {y : Int} (h : y ∈ rangeL a c n) : ∃ i : Nat, i < n ∧ y = a + (i : Int) * c := by
  unfold rangeL at h
  obtain ⟨i, hi, rfl⟩ := List.mem_map.mp h
  exact ⟨i, List.mem_range.mp hi, rfl⟩
theorem rangeL0 {n : Nat} {y : Int} (h : y ∈ rangeL 0 1 n) : 0 ≤ y ∧ y < n ∧ y.toNat < n := by
  obtain ⟨i, hi, rfl⟩ := rangeL_mem h
  omega
theorem getD_get {l : List Int} {k : Nat} (h : k < l.length) : l[k]? = some (l.getD k 0) := by simp [h]
theorem squareL_le (row : List Int) : (squareL row).length ≤ row.length := by
  have := List.length_filter_le (fun k => decide (k < row.getD k.toNat 0)) (rangeL 0 1 row.length)
  rw [rangeL_len] at this
  exact this

theorem square_spec {a : Addr} (G : Gd mg mb g) (F : FnIs mg g (fnD 9) a) {v : Value} {row : List Int} (hv : TupI g v row) (hl : row.length ≤ 100) :
    Run prog w (n + 5) g (PySem.call (.ref a) [v]) (fun h r => IntR h r (squareL row).length) := by
  obtain ⟨hm, o, pm, cd, doc, ho, hd, hc⟩ := F
  refine Run.callDef (binds := [("row", v)]) (n := n + 4) G.nolimit ho hd hc rfl rfl (by rfl) (fun L x hx => ?_) fun L g' e hL hns hcells => ?_
  · simp only [List.mem_singleton] at hx
    subst hx
    exact .inr ⟨by rfl, by rfl⟩
  · have G' := G.ext e
    have K : EnvOk (envF 9 pm cd doc L a) := ⟨by rfl, by rfl, by rfl⟩
    have S : Sees g' (envF 9 pm cd doc L a) "row" v := .inr ⟨.inl (by rfl), L + 1, by rfl, hcells "row" (L + 1) (by rfl)⟩
    have hv' := TupI.mono _ _ _ _ e hv
    have hlen : (envF 9 pm cd doc L a).kindOf (Str.ofString "len") = some .globalImplicit := by rfl
    have hrange : (envF 9 pm cd doc L a).kindOf (Str.ofString "range") = some .globalImplicit := by rfl
    have hrow : (envF 9 pm cd doc L a).kindOf (Str.ofString "row") = some .cell := by rfl
    change Run prog w (n + 4) g' (execs (fnD 9).body (envF 9 pm cd doc L a)) _
    generalize envF 9 pm cd doc L a = env at K S hlen hrange hrow ⊢
    have hrow' : env.kindOf (Str.ofString "row") ≠ some .local := by rw [hrow]; decide
    refine Run.ret (Run.lenOfL K G' hlen IntR.mono (l := squareL row) ?_ (by have := squareL_le row; omega))
    refine Run.listComp (fun k => decide (k < row.getD k.toNat 0)) (fun k : Int => k) (R := IntR) (xs := rangeL 0 1 row.length) (by simp [squareL])
        ((Run.rangeOf (b := row.length) K G' hrange (Run.lenOfT K G' hlen IntR.mono (Run.nameR K S hv' TupI.mono) (by omega)) (by omega) (by omega)).mono fun _ _ _ q => by simpa using q) (by rw [rangeL_len, sizeLine_eq]; omega) IntR.mono IntR.t K ?_ ?_ ?_
    · intro p hp hf
      have : p.1 = Str.ofString "row" := by revert p; decide
      rw [this]
      exact S.cellOf hrow'
    · intro cenv g'' kv k L e' hk hkv hs
      have hb := rangeL0 hk
      refine Run.tests1 (Run.testI (a := row.getD k.toNat 0) (b := k) (Run.itemT (l := row) (k := k) IntR.mono (Run.nameR L.ok (L.free _ _ _ (by rfl) (S.ext e')) (TupI.mono _ _ _ _ e' hv') TupI.mono) (Run.nameR L.ok hs hkv IntR.mono) hb.1 (getD_get hb.2.2) (by omega)) (Run.nameR L.ok hs hkv IntR.mono))
    · intro cenv g'' kv k L e' hk hp hkv hs
      exact Run.nameR L.ok hs hkv IntR.mono

theorem angles_spec {a : Addr} (G : Gd mg mb g) (F : FnIs mg g (fnD 8) a) {v : Value} {row : List Int} (hv : TupI g v row) (hl : row.length ≤ 100) :
    Run prog w (n + 5) g (PySem.call (.ref a) [v]) (fun h r => TupI h r (anglesL row)) := by
  obtain ⟨hm, o, pm, cd, doc, ho, hd, hc⟩ := F
  refine Run.callDef (binds := [("row", v)]) (n := n + 4) G.nolimit ho hd hc rfl rfl (by rfl) (fun L x hx => ?_) fun L g' e hL hns hcells => ?_
  · simp only [List.mem_singleton] at hx
    subst hx
    exact .inr ⟨by rfl, by rfl⟩
  · have G' := G.ext e
    have K : EnvOk (envF 8 pm cd doc L a) := ⟨by rfl, by rfl, by rfl⟩
    have S : Sees g' (envF 8 pm cd doc L a) "row" v := .inr ⟨.inl (by rfl), L + 1, by rfl, hcells "row" (L + 1) (by rfl)⟩
    have hv' := TupI.mono _ _ _ _ e hv
    have hlen : (envF 8 pm cd doc L a).kindOf (Str.ofString "len") = some .globalImplicit := by rfl
    have hrange : (envF 8 pm cd doc L a).kindOf (Str.ofString "range") = some .globalImplicit := by rfl
    have htuple : (envF 8 pm cd doc L a).kindOf (Str.ofString "tuple") = some .globalImplicit := by rfl
    have hrow : (envF 8 pm cd doc L a).kindOf (Str.ofString "row") = some .cell := by rfl
    change Run prog w (n + 4) g' (execs (fnD 8).body (envF 8 pm cd doc L a)) _
    generalize envF 8 pm cd doc L a = env at K S hlen hrange htuple hrow ⊢
    have hrow' : env.kindOf (Str.ofString "row") ≠ some .local := by rw [hrow]; decide
    refine Run.ret (Run.tupleOf K G' htuple IntR.mono (l := anglesL row) ?_ (by have := squareL_le row; simp only [anglesL, List.length_map]; omega))
    refine Run.listComp (fun k => decide (k < row.getD k.toNat 0)) (fun k : Int => 2 * (row.getD k.toNat 0 - k) - 1) (R := IntR) (xs := rangeL 0 1 row.length) (by rfl)
        ((Run.rangeOf (b := row.length) K G' hrange (Run.lenOfT K G' hlen IntR.mono (Run.nameR K S hv' TupI.mono) (by omega)) (by omega) (by omega)).mono fun _ _ _ q => by simpa using q) (by rw [rangeL_len, sizeLine_eq]; omega) IntR.mono IntR.t K ?_ ?_ ?_
    · intro p hp hf
      have : p.1 = Str.ofString "row" := by revert p; decide
      rw [this]
      exact S.cellOf hrow'
    · intro cenv g'' kv k L e' hk hkv hs
      have hb := rangeL0 hk
      refine Run.tests1 (Run.testI (a := row.getD k.toNat 0) (b := k) (Run.itemT (l := row) (k := k) IntR.mono (Run.nameR L.ok (L.free _ _ _ (by rfl) (S.ext e')) (TupI.mono _ _ _ _ e' hv') TupI.mono) (Run.nameR L.ok hs hkv IntR.mono) hb.1 (getD_get hb.2.2) (by omega)) (Run.nameR L.ok hs hkv IntR.mono))
    · intro cenv g'' kv k L e' hk hp hkv hs
      have hb := rangeL0 hk
      exact Run.sub (Run.mul (.of_left (by decide)) Run.int (Run.sub (Run.itemT (l := row) (k := k) IntR.mono (Run.nameR L.ok (L.free _ _ _ (by rfl) (S.ext e')) (TupI.mono _ _ _ _ e' hv') TupI.mono) (Run.nameR L.ok hs hkv IntR.mono) hb.1 (getD_get hb.2.2) (by omega)) (Run.nameR L.ok hs hkv IntR.mono))) Run.int
end
end Mine

namespace Mine

theorem filt1 {α : Type} (l : List α) : l.filter (fun _ => true) = l := List.filter_eq_self.mpr fun _ _ => rfl
section
variable {prog : Program} {w : World} {n : Nat} {g : Heap} {env : Env} {pos : Pos}

theorem Run.ifExp {test body orelse : Expr} {b : Bool} {P : Heap → Value → Prop} (ht : Run prog w n g (isTrue test env (eval test env)) (fun _ v => v = b)) (h₁ : b = true → Run prog w n g (eval body env) P) (h₂ : b = false → Run prog w n g (eval orelse env) P) :
    Run prog w n g (eval (.IfExp test body orelse pos) env) P := by
  show Run prog w n g (isTrue test env (eval test env) >>= fun c => if c = true then eval body env else eval orelse env) P
  refine Run.bind ht fun g' c e hc => ?_
  subst hc
  cases c with
  | true => simp only [if_true]; exact (h₁ rfl).base e
  | false => simp only [Bool.false_eq_true, if_false]; exact (h₂ rfl).base e

theorem Run.tupleDisp {elts : List Expr} {k : Nat} {Ps : List (Heap → Value → Prop)} {P : Heap → Value → Prop} (h : Run prog w n g (spliced (backTo pos (starEach elts env))) (AllR Ps))
    (c : ∀ g' vs a, Ext g g' → AllR Ps g' vs → g'.get? a = none → vs.length ≤ 1000 ∧ P (g'.push (tupO vs 0)) (.ref g'.objs.size)) : Run prog w n g (eval (.Tuple elts k pos) env) P := fun A s E a x =>
  Tuple_ (h.use a x fun vs s₁ p k₁ => by
    have q := c s₁.heap vs s₁.heap.objs.size (x.trans (keeps_ext k₁)) p fresh_none
    refine wpAny_newObj_type ⟨q.2, keeps_trans k₁ (keeps_mk' (Ext.push _ _))⟩ ?_
    show vs.toArray.size ≤ sizeLine
    rw [List.size_toArray, sizeLine_eq]
    omega)
theorem tup_pushed {α : Type} {R : RelH α} {h : Heap} {vs : List Value} {l : List α} (r : RMono R) (p : Paired (R h) vs l) : TupR R (h.push (tupO vs 0)) (.ref h.objs.size) l :=
  ⟨_, vs, 0, rfl, Heap.get?_push_size _ rfl, paired_mono (fun a b q => r _ _ _ _ (Ext.push _ _) q) p⟩
theorem Run.tup0 {k : Nat} {α : Type} {R : RelH α} : Run prog w n g (eval (.Tuple [] k pos) env) (fun h v => TupR R h v []) :=
  Run.tupleDisp Run.nil fun g' vs a e p hn => by
    have p' : vs = [] := p
    subst p'
    exact ⟨by simp, _, [], 0, rfl, Heap.get?_push_size _ rfl, .nil⟩
theorem Run.tup1 {e : Expr} {k : Nat} {α : Type} {R : RelH α} {a : α} (r : RMono R) (h : Run prog w n g (eval e env) (fun h v => R h v a)) (he : starEach [e] env = [(false, eval e env)] := by rfl) :
    Run prog w n g (eval (.Tuple [e] k pos) env) (fun h v => TupR R h v [a]) :=
  Run.tupleDisp (by rw [he]; exact Run.cons h (fun _ _ _ x p => r _ _ _ _ x p) Run.nil) fun g' vs b e p hn => by
    obtain ⟨v, vs', rfl, p, q⟩ := p
    have q' : vs' = [] := q
    subst q'
    exact ⟨by simp, tup_pushed r (.cons p .nil)⟩
/-- a pair of unlike things -/
def PairR {α β : Type} (R : RelH α) (S : RelH β) : RelH (α × β) := fun h v p => ∃ a x y n, v = .ref a ∧ h.get? a = some (tupO [x, y] n) ∧ R h x p.1 ∧ S h y p.2
theorem PairR.t {α β : Type} {R : RelH α} {S : RelH β} (r : TMono R) (s : TMono S) : TMono (PairR R S) := fun h h' _ _ e ⟨a, x, y, n, hv, ho, p, q⟩ => ⟨a, x, y, n, hv, e _ _ _ ho, r _ _ _ _ e p, s _ _ _ _ e q⟩
theorem Run.tup2 {e₁ e₂ : Expr} {k : Nat} {α β : Type} {R : RelH α} {S : RelH β} {a : α} {b : β} (r : RMono R) (s : RMono S) (h₁ : Run prog w n g (eval e₁ env) (fun h v => R h v a)) (h₂ : Run prog w n g (eval e₂ env) (fun h v => S h v b))
    (he : starEach [e₁, e₂] env = [(false, eval e₁ env), (false, eval e₂ env)] := by rfl) :
    Run prog w n g (eval (.Tuple [e₁, e₂] k pos) env) (fun h v => PairR R S h v (a, b)) :=
  Run.tupleDisp (by rw [he]; exact Run.cons h₁ (fun _ _ _ x p => r _ _ _ _ x p) (Run.cons h₂ (fun _ _ _ x p => s _ _ _ _ x p) Run.nil)) fun g' vs b e p hn => by
    obtain ⟨v, vs', rfl, p, u, vs'', rfl, p', q⟩ := p
    have q' : vs'' = [] := q
    subst q'
    exact ⟨by simp, _, v, u, 0, rfl, Heap.get?_push_size _ rfl, r _ _ _ _ (Ext.push _ _) p, s _ _ _ _ (Ext.push _ _) p'⟩
theorem Run.list0 {α : Type} {R : RelH α} : Run prog w n g (eval (.List [] pos) env) (fun h v => LstR R h v []) := fun A s E a x =>
  List_ (Calls.spliced_nil (wpAny_newObj_type ⟨⟨_, [], 0, rfl, Heap.get?_push_size _ rfl, .nil⟩, keeps_mk' (Ext.push _ _)⟩))
theorem Run.list1 {e : Expr} {α : Type} {R : RelH α} {a : α} (r : RMono R) (h : Run prog w n g (eval e env) (fun h v => R h v a)) (he : starEach [e] env = [(false, eval e env)] := by rfl) :
    Run prog w n g (eval (.List [e] pos) env) (fun h v => LstR R h v [a]) := fun A s E ok x =>
  List_ (by
    rw [he]
    refine (Run.cons h (fun _ _ _ x p => r _ _ _ _ x p) Run.nil).use ok x fun vs s₁ p k₁ => ?_
    obtain ⟨v, vs', rfl, p, q⟩ := p
    have q' : vs' = [] := q
    subst q'
    exact wpAny_newObj_type ⟨⟨_, [v], 0, rfl, Heap.get?_push_size _ rfl, .cons (r _ _ _ _ (Ext.push _ _) p) .nil⟩, keeps_trans k₁ (keeps_mk' (Ext.push _ _))⟩)
/-- two tuples of ints, told apart -/
theorem Run.testNeT {l r : Expr} {a b : List Int} {whole : Sem Value} (h₁ : Run prog w (n + 4) g (eval l env) (fun h v => TupI h v a)) (h₂ : Run prog w (n + 4) g (eval r env) (fun h v => TupI h v b)) (hm : behindInMarks .NotEq r = false := by with_unfolding_all rfl) :
    Run prog w (n + 4) g (isTrue (.Compare l [.NotEq] [r] pos) env whole) (fun _ v => v = !decide (a = b)) :=
  Run.test h₁ h₂ (fun _ _ _ e p => TupI.mono _ _ _ _ e p) (fun g' x y _ p q => Run.neT p q) hm
theorem Run.testEqT {l r : Expr} {a b : List Int} {whole : Sem Value} (h₁ : Run prog w (n + 4) g (eval l env) (fun h v => TupI h v a)) (h₂ : Run prog w (n + 4) g (eval r env) (fun h v => TupI h v b)) (hm : behindInMarks .Eq r = false := by with_unfolding_all rfl) :
    Run prog w (n + 4) g (isTrue (.Compare l [.Eq] [r] pos) env whole) (fun _ v => v = decide (a = b)) :=
  Run.test h₁ h₂ (fun _ _ _ e p => TupI.mono _ _ _ _ e p) (fun g' x y _ p q => Run.eqT p q) hm
end
end Mine

namespace Mine

section
variable {prog : Program} {w : World} {n : Nat} {g : Heap} {mg mb : Str → Option Value}

theorem columns_spec {a : Addr} (G : Gd mg mb g) (F : FnIs mg g (fnD 7) a) {v : Value} {row : List Int} (hv : TupI g v row) (hl : row.length ≤ 100) (h0 : 0 ≤ row.getD 0 0) (h1 : row.getD 0 0 ≤ 100) :
    Run prog w (n + 5) g (PySem.call (.ref a) [v]) (fun h r => TupI h r (columnsL row)) := by
  obtain ⟨hm, o, pm, cd, doc, ho, hd, hc⟩ := F
  refine Run.callDef (binds := [("row", v)]) (n := n + 4) G.nolimit ho hd hc rfl rfl (by rfl) (fun L x hx => ?_) fun L g' e hL hns hcells => ?_
  · simp only [List.mem_singleton] at hx
    subst hx
    exact .inr ⟨by rfl, by rfl⟩
  · have G' := G.ext e
    have K : EnvOk (envF 7 pm cd doc L a) := ⟨by rfl, by rfl, by rfl⟩
    have S : Sees g' (envF 7 pm cd doc L a) "row" v := .inr ⟨.inl (by rfl), L + 1, by rfl, hcells "row" (L + 1) (by rfl)⟩
    have hv' := TupI.mono _ _ _ _ e hv
    have hrange : (envF 7 pm cd doc L a).kindOf (Str.ofString "range") = some .globalImplicit := by rfl
    have htuple : (envF 7 pm cd doc L a).kindOf (Str.ofString "tuple") = some .globalImplicit := by rfl
    have hrow : (envF 7 pm cd doc L a).kindOf (Str.ofString "row") = some .cell := by rfl
    change Run prog w (n + 4) g' (execs (fnD 7).body (envF 7 pm cd doc L a)) _
    generalize envF 7 pm cd doc L a = env at K S hrange htuple hrow ⊢
    have hrow' : env.kindOf (Str.ofString "row") ≠ some .local := by rw [hrow]; decide
    have hlenc : (columnsL row).length ≤ 100 := by simp only [columnsL, List.length_map, rangeL_len]; omega
    refine Run.ret (Run.tupleOf K G' htuple IntR.mono (l := columnsL row) ?_ (by omega))
    refine Run.listComp (fun _ => true) (fun k : Int => ((row.filter fun x => decide (k < x)).length : Int)) (R := IntR) (xs := rangeL 0 1 (row.getD 0 0).toNat) (by rw [filt1]; rfl)
        (Run.rangeOf (b := row.getD 0 0) K G' hrange ?_ h0 (by omega)) (by rw [rangeL_len, sizeLine_eq]; omega) IntR.mono IntR.t K ?_ ?_ ?_
    · refine Run.ifExp (Run.testNeT (a := row) (b := []) (Run.nameR K S hv' TupI.mono) Run.tup0) (fun hb => ?_) (fun hb => ?_)
      · have hne : row ≠ [] := by simpa using hb
        have hpos : 0 < row.length := List.length_pos_iff.mpr hne
        exact Run.itemT (k := 0) IntR.mono (Run.nameR K S hv' TupI.mono) Run.int (by decide) (getD_get (k := 0) hpos) (by omega)
      · have he : row = [] := by simpa using hb
        subst he
        exact Run.int
    · intro p hp hf
      have : p.1 = Str.ofString "row" := by revert p; decide
      rw [this]
      exact S.cellOf hrow'
    · intro cenv g'' kv k L e' hk hkv hs
      exact Run.tests0
    · intro cenv g'' kv k L e' hk hp hkv hs
      have Sr := L.free _ _ _ (by rfl) (S.ext e')
      have hv'' := TupI.mono _ _ _ _ e' hv'
      have hkk : cenv.kindOf (Str.ofString "k") = some .cell := L.kinds _ _ (by rfl) (by decide)
      refine Run.lenOfL L.ok (G'.ext e') (L.glob _ (by rfl)) IntR.mono (l := row.filter fun x => decide (k < x)) ?_ (by have := List.length_filter_le (fun x => decide (k < x)) row; omega)
      refine Run.listComp (fun x => decide (k < x)) (fun x : Int => x) (R := IntR) (xs := row) (by simp) ((Run.nameR L.ok Sr hv'' TupI.mono).mono fun h v _ q => Iters.tup q) (by rw [sizeLine_eq]; omega) IntR.mono IntR.t L.ok ?_ ?_ ?_
      · intro p hp hf
        have : p.1 = Str.ofString "k" := by revert p; decide
        rw [this]
        exact hs.cellOf (by rw [hkk]; decide)
      · intro cenv' g3 xv x L' e3 hx hxv hs'
        exact Run.tests1 (Run.testI (a := x) (b := k) (Run.nameR L'.ok hs' hxv IntR.mono) (Run.nameR L'.ok (L'.free _ _ _ (by rfl) (hs.ext e3)) hkv IntR.mono))
      · intro cenv' g3 xv x L' e3 hx hp hxv hs'
        exact Run.nameR L'.ok hs' hxv IntR.mono
end
end Mine

namespace Mine

section
variable {prog : Program} {w : World} {n : Nat} {g : Heap}

theorem compTurn_in (elt target iter : Expr) (c0 : Comprehension) (scope : Scope) (pos : Pos) (it acc : Value) (env : Env) :
    compTurn (.ListComp elt [c0, ⟨target, iter, [], 0⟩] scope pos) 1 it acc env = (standAt iter.pos >>= fun _ => pyNext it >>= fun r => match r with
      | none => pure (.done .next)
      | some v => letOwnedTupleGo target it v >>= fun _ => assign target env v >>= fun _ =>
        (eval elt env >>= fun x => call (.builtin "list.append") [acc, x] >>= fun _ => pure ()) >>= fun _ =>
          again (.compLoop (.ListComp elt [c0, ⟨target, iter, [], 0⟩] scope pos) 1 it acc env)) := by rfl

theorem codeAny_compLoop_in {elt target iter : Expr} {c0 : Comprehension} {scope : Scope} {pos : Pos} {it acc : Value} {env : Env} {A : Around} {R : Result → Shared → Prop} {s : Shared} (I : Nat → Shared → Prop)
    (turn : ∀ n s, I n s → wpAny (model prog w) A (pyNext it) (fun r s₁ => match r with
      | none => R (.ok .next) s₁
      | some v => wpAny (model prog w) A (assign target env v) (fun _ s₂ => wpAny (model prog w) A (eval elt env) (fun x s₃ =>
          wpAny (model prog w) A (call (.builtin "list.append") [acc, x]) (fun _ s₄ => ∃ m, m < n ∧ I m s₄) (notedBy (model prog w) A env fun e s' => R (.error e) s') s₃)
          (notedBy (model prog w) A env fun e s' => R (.error e) s') s₂) (notedBy (model prog w) A env fun e s' => R (.error e) s') s₁) (notedBy (model prog w) A env fun e s' => R (.error e) s') s)
    (k : Nat) (h : I k s) (ht : ∀ v, letOwnedTupleGo target it v = pure () := by intro _; rfl) :
    codeAny (model prog w) A (.compLoop (.ListComp elt [c0, ⟨target, iter, [], 0⟩] scope pos) 1 it acc env) R s := by
  refine codeAny_loop rfl I (fun n s hI => ?_) k h
  show wpAny _ _ ((compTurn (.ListComp elt [c0, ⟨target, iter, [], 0⟩] scope pos) 1 it acc env).onRaise (fun x => do noteFrame x env; theTreesLotGoes x)) _ _ s
  refine wpAny_noted ?_
  rw [compTurn_in]
  refine wpAny_bind (wpAny_standAt (wpAny_bind (wpAny_mono (turn n s hI) (fun r s₁ h₁ => ?_) fun _ _ h' => h')))
  cases r with
  | none => exact wpAny_pure h₁
  | some v =>
    refine wpAny_bind (wpAny_of_eq (ht v) ?_)
    exact wpAny_bind (wpAny_mono h₁ (fun _ s₂ h₂ => wpAny_bind (wpAny_bind (wpAny_mono h₂ (fun x s₃ h₃ => wpAny_bind (wpAny_mono h₃
      (fun _ s₄ h₄ => wpAny_pure (wpAny_pure ⟨rfl, h₄⟩)) fun _ _ h' => h')) fun _ _ h' => h'))) fun _ _ h' => h')

theorem codeAny_compStart_in {elt target iter : Expr} {c0 : Comprehension} {scope : Scope} {pos : Pos} {it acc : Value} {env : Env} {A : Around} {R : Result → Shared → Prop} {s : Shared}
    (h0 : codeAny (model prog w) A (.compLoop (.ListComp elt [c0, ⟨target, iter, [], 0⟩] scope pos) 1 it acc env) R s)
    (h : wpAny (model prog w) A (pyIter it) (fun it' s' => codeAny (model prog w) A (.compLoop (.ListComp elt [c0, ⟨target, iter, [], 0⟩] scope pos) 1 it' acc env) R s')
      (notedBy (model prog w) A env fun x s' => R (.error x) s') s) :
    codeAny (model prog w) A (.compStart (.ListComp elt [c0, ⟨target, iter, [], 0⟩] scope pos) 1 it acc env) R s := by
  refine codeAny_of_tree ?_
  show wpAny _ _ ((compStart (.ListComp elt [c0, ⟨target, iter, [], 0⟩] scope pos) 1 it acc env).onRaise (fun x => do noteFrame x env; standAt theWindowsPlace)) _ _ s
  refine wpAny_notedAt ?_
  unfold compStart
  show wpAny _ _ (ask >>= _) _ _ s
  refine wpAny_bind (wpAny_askSetting (wpAny_ite ?_))
  split
  · first
      | exact wpAny_bind (wpAny_pure (wpAny_pure (And.intro rfl h0)))
      | exact wpAny_pure (And.intro rfl h0)
  · first
      | exact wpAny_bind (wpAny_rule (wpAny_bind (wpAny_standAt (wpAny_bind (wpAny_mono h (fun it' s' h' => wpAny_pure (And.intro rfl h')) fun _ _ x => x)))))
      | (refine wpAny_bind (wpAny_rule ?_); show wpAny _ _ (standAt iter.pos >>= _) _ _ s; exact wpAny_bind (wpAny_standAt (wpAny_bind (wpAny_mono h (fun it' s' h' => wpAny_pure (And.intro rfl h')) fun _ _ x => x))))

theorem compTurn_out (elt t0 i0 t1 i1 : Expr) (scope : Scope) (pos : Pos) (it acc : Value) (env : Env) :
    compTurn (.ListComp elt [⟨t0, i0, [], 0⟩, ⟨t1, i1, [], 0⟩] scope pos) 0 it acc env = (standAt i0.pos >>= fun _ => pyNext it >>= fun r => match r with
      | none => pure (.done .next)
      | some v => letOwnedTupleGo t0 it v >>= fun _ => assign t0 env v >>= fun _ =>
        (eval i1 env >>= fun x => standAt i1.pos >>= fun _ => foldedSetIterable i1 env x >>= fun x => (holding [x] (pyIter x)) >>= fun it' =>
          runOwn (.compStart (.ListComp elt [⟨t0, i0, [], 0⟩, ⟨t1, i1, [], 0⟩] scope pos) 1 it' acc env) env >>= fun _ =>
          again (.compLoop (.ListComp elt [⟨t0, i0, [], 0⟩, ⟨t1, i1, [], 0⟩] scope pos) 0 it acc env))) := by rfl

theorem codeAny_compLoop_out {elt t0 i0 t1 i1 : Expr} {scope : Scope} {pos : Pos} {it acc : Value} {env : Env} {A : Around} {R : Result → Shared → Prop} {s : Shared} (I : Nat → Shared → Prop) (hm : A.mark none = A)
    (turn : ∀ n s, I n s → wpAny (model prog w) A (pyNext it) (fun r s₁ => match r with
      | none => R (.ok .next) s₁
      | some v => wpAny (model prog w) A (assign t0 env v) (fun _ s₂ => wpAny (model prog w) A (eval i1 env) (fun x s₃ =>
          wpAny (model prog w) A (pyIter x) (fun it' s₄ => codeAny (model prog w) A (.compStart (.ListComp elt [⟨t0, i0, [], 0⟩, ⟨t1, i1, [], 0⟩] scope pos) 1 it' acc env)
            (fun r s₅ => match r with | .ok _ => ∃ m, m < n ∧ I m s₅ | .error e => cameBackBy (model prog w) A env (notedBy (model prog w) A env fun e s' => R (.error e) s') e s₅) s₄) (notedBy (model prog w) A env fun e s' => R (.error e) s') s₃)
          (notedBy (model prog w) A env fun e s' => R (.error e) s') s₂) (notedBy (model prog w) A env fun e s' => R (.error e) s') s₁) (notedBy (model prog w) A env fun e s' => R (.error e) s') s)
    (k : Nat) (h : I k s) (ht : ∀ v, letOwnedTupleGo t0 it v = pure () := by intro _; rfl) (hs : ∀ x, foldedSetIterable i1 env x = pure x := by intro _; rfl) :
    codeAny (model prog w) A (.compLoop (.ListComp elt [⟨t0, i0, [], 0⟩, ⟨t1, i1, [], 0⟩] scope pos) 0 it acc env) R s := by
  refine codeAny_loop rfl I (fun n s hI => ?_) k h
  show wpAny _ A ((compTurn (.ListComp elt [⟨t0, i0, [], 0⟩, ⟨t1, i1, [], 0⟩] scope pos) 0 it acc env).onRaise (fun x => do noteFrame x env; theTreesLotGoes x)) _ _ s
  refine wpAny_noted ?_
  rw [compTurn_out]
  refine wpAny_bind (wpAny_standAt (wpAny_bind (wpAny_mono (turn n s hI) (fun r s₁ h₁ => ?_) fun _ _ h' => h')))
  cases r with
  | none => exact wpAny_pure h₁
  | some v =>
    refine wpAny_bind (wpAny_of_eq (ht v) ?_)
    refine wpAny_bind (wpAny_mono h₁ (fun _ s₂ h₂ => wpAny_bind (wpAny_mono h₂ (fun x s₃ h₃ => wpAny_bind (wpAny_standAt (wpAny_bind (wpAny_of_eq (hs x) (wpAny_bind (wpAny_holding (wpAny_mono h₃
      (fun it' s₄ h₄ => wpAny_bind (wpAny_runOwn (h := none) (by rw [hm]; exact codeAny_mono h₄ fun r s₅ h₅ => (by cases r with | ok f => exact wpAny_pure ⟨rfl, h₅⟩ | error e => exact h₅))))  fun _ _ h' => h'))))))) fun _ _ h' => h')) fun _ _ h' => h')

/-- the inner loop of two -/
theorem comp_inner {elt iter : Expr} {c0 : Comprehension} {x1 x2 : Str} {px : Pos} {scope : Scope} {pos : Pos} {cenv : Env} {A : Around} {s : Shared} {I D C : Addr} {fp : List Addr} {P : Nat → Value → Prop} {St : Nat → Heap → Prop}
    {β γ : Type} {R1 : RelH β} {R' : RelH γ} {ys : List β} {f : β → γ} {v1 : Value} {vs : List Value} {e0 : Nat} {R : Result → Shared → Prop} {h₀ : Heap} {m₀ : Str → Option Value}
    (a : AOk n A) (Wk : Walks prog w A I fp [I] ys.length P St) (st : St 0 s.heap) (hP : ∀ i v y, P i v → ys[i]? = some y → R1 h₀ v y) (t₀ : TExt h₀ s.heap) (hIo : ∀ i h, St i h → ∃ o, h.get? I = some o ∧ ∀ vs n, o ≠ tupO vs n)
    (hsz : ys.length + vs.length ≤ 100000) (hR1 : TMono R1) (hR' : TMono R') (hk : cenv.scope.kind = .function) (hl : cenv.locals = C) (k1 : cenv.kindOf x1 = some .local) (k2 : cenv.kindOf x2 = some .local) (hne : x1 ≠ x2)
    (hn : s.heap.Ns C m₀) (hm : m₀ x1 = some v1) (hD : s.heap.get? D = some (lstO vs e0)) (hDI : D ≠ I) (hCI : C ≠ I) (hDC : D ≠ C) (hDf : D ∉ fp) (hCf : C ∉ fp) (hg : ∀ b o, g.get? b = some o → s.heap.get? b = some o ∧ b ≠ I ∧ b ≠ C ∧ b ≠ D)
    (el : ∀ g' v y, Ext g g' → y ∈ ys → R1 g' v y → Sees g' cenv x1 v1 → Sees g' cenv x2 v → Run prog w n g' (eval elt cenv) (fun h r => R' h r (f y)))
    (hR : ∀ h' tk vs' e', (∃ m, h'.Ns C m) → h'.get? D = some (lstO (vs ++ vs') e') → Paired (R' h') vs' (ys.map f) → (∀ b o, b ≠ I → b ≠ C → b ≠ D → s.heap.get? b = some o → h'.get? b = some o) → TExt s.heap h' → R (.ok .next) { s with heap := h', toks := tk }) :
    codeAny (model prog w) A (.compStart (.ListComp elt [c0, ⟨.Name x2 px, iter, [], 0⟩] scope pos) 1 (.ref I) (.ref D) cenv) R s := by
  have loop : codeAny (model prog w) A (.compLoop (.ListComp elt [c0, ⟨.Name x2 px, iter, [], 0⟩] scope pos) 1 (.ref I) (.ref D) cenv) R s := by
    refine codeAny_compLoop_in
      (fun k s' => ∃ h' tk i m vs' e, s' = { s with heap := h', toks := tk } ∧ i ≤ ys.length ∧ k = ys.length + 1 - i ∧ St i h' ∧ h'.Ns C m ∧ m x1 = some v1 ∧ h'.get? D = some (lstO (vs ++ vs') e) ∧
        Paired (R' h') vs' ((ys.take i).map f) ∧ (∀ b o, b ≠ I → b ≠ C → b ≠ D → s.heap.get? b = some o → h'.get? b = some o) ∧ TExt s.heap h') ?_ (ys.length + 1)
      ⟨s.heap, s.toks, 0, m₀, [], e0, rfl, Nat.zero_le _, rfl, st, hn, hm, by simpa using hD, by simpa using Paired.nil, fun _ _ _ _ _ e => e, TExt.refl _⟩
    rintro k s' ⟨h', tk, i, m, vs', ep, rfl, hi, rfl, st', hn', hm', hD', hp', kp', tt'⟩
    by_cases hlt : i < ys.length
    · refine Wk.item i _ _ _ hlt st' fun v h₂ tk₂ hPv st₂ k₂ => ?_
      have k₂' : ∀ b o, b ≠ I → h'.get? b = some o → h₂.get? b = some o := fun b o hb e => k₂ b o (by simpa using hb) e
      have hn₂ : h₂.Ns C m := hn'.at' fun o e => k₂' _ o hCI e
      subst hl
      refine wpAny_assign_Name (wpAny_storeName_local k2 hn₂ (fun h₃ hn₃ hs₃ => ?_) (by rw [hk]; rfl))
      have hy : ys[i]? = some ys[i] := by simp [hlt]
      obtain ⟨oI, heI, hIn⟩ := hIo _ _ st'
      obtain ⟨oV, heV, hVn⟩ := ns_no_tup hn₂
      have t₃ : TExt h' h₃ := (TExt.but heI hIn k₂').trans (TExt.but heV hVn hs₃.extBut)
      have hRv : R1 h₃ v ys[i] := hR1 _ _ _ _ (t₀.trans (tt'.trans t₃)) (hP i v ys[i] hPv hy)
      have kp₃ : ∀ b o, b ≠ I → b ≠ cenv.locals → h'.get? b = some o → h₃.get? b = some o := fun b o h1 h2 e => hs₃.extBut b o h2 (k₂' b o h1 e)
      have g₃ : Ext g h₃ := fun b o e => by
        obtain ⟨q, q1, q2, q3⟩ := hg b o e
        exact kp₃ b o q1 q2 (kp' b o q1 q2 q3 q)
      have st₃ : St (i + 1) h₃ := Wk.frame _ _ _ st₂ fun b hb o e => hs₃.extBut b o (fun q => hCf (q ▸ hb)) e
      have hD₃ : h₃.get? D = some (lstO (vs ++ vs') ep) := kp₃ _ _ hDI hDC hD'
      refine (el h₃ v ys[i] g₃ (List.getElem_mem hlt) hRv (.inl ⟨k1, _, hn₃, by rw [if_neg hne]; exact hm'⟩) (.inl ⟨k2, _, hn₃, by simp⟩)).use a (Ext.refl _) fun y s₅ hy' k₅ => ?_
      obtain ⟨h₅, tk₅, rfl, kk₅⟩ := k₅
      have hD₅ := kk₅ _ _ hD₃
      have hlen : (vs ++ vs').length ≤ sizeLine := by
        have e1 := paired_len hp'
        simp only [List.length_map, List.length_take] at e1
        rw [List.length_append, sizeLine_eq]
        omega
      refine wpAny_list_append_plain (hsz := by simpa using hlen) ⟨_, hD₅⟩ fun h₆ hl₆ hs₆ => ?_
      obtain ⟨e₆, ho₆⟩ := hl₆
      have t₆ : TExt h₅ h₆ := TExt.but hD₅ lst_no_tup hs₆.extBut
      have hw : ys.length + 1 - (i + 1) < ys.length + 1 - i := by omega
      have htake : ys.take (i + 1) = ys.take i ++ [ys[i]] := by rw [List.take_append_getElem]
      refine ⟨_, hw, h₆, tk₅, i + 1, _, vs' ++ [y], e₆, rfl, hlt, rfl, ?_, (hn₃.keeps kk₅).sameBut hs₆ (Ne.symm hDC), (by rw [if_neg hne]; exact hm'), ?_, ?_, fun b o h1 h2 h3 e => hs₆.extBut b o h3 (kk₅ b o (kp₃ b o h1 h2 (kp' b o h1 h2 h3 e))), ?_⟩
      · exact Wk.frame _ _ _ st₃ fun b hb o e => hs₆.extBut b o (fun q => hDf (q ▸ hb)) (kk₅ b o e)
      · rw [ho₆]
        congr 2
        simp
      · rw [htake, List.map_append]
        exact paired_append (paired_mono (fun a b r => hR' _ _ a b (t₃.trans ((TExt.of kk₅).trans t₆)) r) hp') (.cons (hR' _ _ _ _ t₆ hy') .nil)
      · exact tt'.trans (t₃.trans ((TExt.of kk₅).trans t₆))
    · have hin : i = ys.length := by omega
      subst hin
      refine Wk.done _ _ _ st' fun h₂ tk₂ k₂ => ?_
      have k₂' : ∀ b o, b ≠ I → h'.get? b = some o → h₂.get? b = some o := fun b o hb e => k₂ b o (by simpa using hb) e
      obtain ⟨oI, heI, hIn⟩ := hIo _ _ st'
      have t₂ : TExt h' h₂ := TExt.but heI hIn k₂'
      refine hR h₂ tk₂ vs' ep ⟨_, hn'.at' fun o e => k₂' _ o hCI e⟩ (k₂' _ _ hDI hD') ?_ (fun b o h1 h2 h3 e => k₂' b o h1 (kp' b o h1 h2 h3 e)) (tt'.trans t₂)
      rw [List.take_length] at hp'
      exact paired_mono (fun a b r => hR' _ _ a b t₂ r) hp'
  exact codeAny_compStart_in loop (Wk.self 0 _ _ _ st loop)
end
end Mine

namespace Mine

def Fresh (g : Heap) (v : Value) : Prop := ∃ a, v = .ref a ∧ g.get? a = none
section
variable {prog : Program} {w : World} {n : Nat} {g : Heap}

theorem comp_block2 {elt i0 i1 : Expr} {x1 x2 : Str} {p1 p2 : Pos} {scope : Scope} {env : Env} {pos : Pos} {A : Around} {E : Value → Shared → Prop} {s : Shared} {I : Addr} {fp : List Addr} {P : Nat → Value → Prop} {St : Nat → Heap → Prop}
    {α β γ : Type} {R : RelH α} {R1 : RelH β} {R' : RelH γ} {xs : List α} {ys : α → List β} {f : α → β → γ} {RR : Value → Addr → Result → Shared → Prop}
    (a : AOk n A) (x₀ : Ext g s.heap) (Wk : Walks prog w A I fp [I] xs.length P St) (st : St 0 s.heap) (hg : g.get? I = none) (hfp : ∀ b ∈ fp, b < s.heap.objs.size) (hIo : ∀ i h, St i h → ∃ o, h.get? I = some o ∧ ∀ vs n, o ≠ tupO vs n)
    (hP : ∀ i v y, P i v → xs[i]? = some y → R g v y) (hR : TMono R) (hR1 : TMono R1) (hR' : TMono R') (K : EnvOk env) (hk : scope.kind = .function) (hf : FreeOk env scope)
    (hc : ∀ p ∈ scope.names, p.2 = .cell → ∀ q ∈ scope.names, q.2 = .free → p.1 ≠ q.1) (hx1 : scope.names.lookup x1 = some .local) (hx2 : scope.names.lookup x2 = some .local) (hne : x1 ≠ x2)
    (hs1' : ∀ e x, foldedSetIterable i1 e x = pure x)
    (hz : ∀ k ≤ xs.length, ((xs.take k).flatMap fun x => (ys x).map (f x)).length ≤ 50000) (hz1 : ∀ x ∈ xs, (ys x).length ≤ 50000)
    (inner : ∀ cenv g' v x, CLink scope env cenv → Ext g g' → x ∈ xs → R g' v x → Sees g' cenv x1 v → Run prog w n g' (eval i1 cenv) (fun h r => LstR R1 h r (ys x) ∧ Fresh g' r))
    (el : ∀ cenv g' v x u y, CLink scope env cenv → Ext g g' → x ∈ xs → y ∈ ys x → R g' v x → R1 g' u y → Sees g' cenv x1 v → Sees g' cenv x2 u → Run prog w n g' (eval elt cenv) (fun h r => R' h r (f x y)))
    (hRR : ∀ D C h' tk vs k, s.heap.get? D = none → s.heap.get? C = none → D ≠ C → (∃ m, h'.Ns C m) → h'.get? D = some (lstO vs k) → Paired (R' h') vs (xs.flatMap fun x => (ys x).map (f x)) → (∀ b o, b ≠ I → s.heap.get? b = some o → h'.get? b = some o) →
      RR (.ref D) C (.ok .next) { s with heap := h', toks := tk }) :
    wpAny (model prog w) A (newList []) (fun acc s₃ => wpAny (model prog w) A (newFunctionEnv scope env.globals (closOf env scope.names []) [] env.qual none .none (some env)) (fun cenv s₄ =>
      codeAny (model prog w) A (.compStart (.ListComp elt [⟨.Name x1 p1, i0, [], 0⟩, ⟨.Name x2 p2, i1, [], 0⟩] scope pos) 0 (.ref I) acc { cenv with scope := relabel scope env }) (RR acc cenv.locals) s₄) E s₃) E s := by
  refine wpAny_newObj_type (wpAny_newComp fun h₁ e₁ hns hcells => ?_)
  dsimp only at e₁ hns hcells ⊢
  generalize hH2 : s.heap.push { cls := .type "list", dict := none, data := .seq ([] : List Value).toArray } = H2 at e₁ hns hcells ⊢
  have hC : H2.objs.size = s.heap.objs.size + 1 := by rw [← hH2, Heap.size_push]
  have e₂ : Ext s.heap H2 := by rw [← hH2]; exact Ext.push _ _
  have L := CLink.of (C := H2.objs.size) K hk hf hc
  have old : Ext s.heap h₁ := e₂.trans e₁
  have hD₁ : h₁.get? s.heap.objs.size = some (lstO [] 0) := e₁ _ _ (by rw [← hH2]; exact Heap.get?_push_size _ rfl)
  have fresh : ∀ b, s.heap.objs.size ≤ b → s.heap.get? b = none := fun b hb => Heap.get?_none_of_le hb
  have hIlt : @LT.lt Nat _ I s.heap.objs.size := hfp I (Wk.sub I (by simp))
  have k1 : (cEnv scope env H2.objs.size).kindOf x1 = some .local := by have := relabel_lookup (scope := scope) (env := env) hx1; simpa [Env.kindOf, relabel] using this
  have k2 : (cEnv scope env H2.objs.size).kindOf x2 = some .local := by have := relabel_lookup (scope := scope) (env := env) hx2; simpa [Env.kindOf, relabel] using this
  have vol : ∀ b o, s.heap.get? b = some o → b ≠ s.heap.objs.size ∧ b ≠ H2.objs.size := fun b o e => by
    have hlt : @LT.lt Nat _ b s.heap.objs.size := Heap.lt_size e
    exact ⟨Nat.ne_of_lt hlt, Nat.ne_of_lt (by omega)⟩
  have hDC : s.heap.objs.size ≠ H2.objs.size := Nat.ne_of_lt (by omega)
  have hCf : H2.objs.size ∉ fp := fun hm => by have : @LT.lt Nat _ H2.objs.size s.heap.objs.size := hfp _ hm; omega
  have hDf : s.heap.objs.size ∉ fp := fun hm => by have : @LT.lt Nat _ s.heap.objs.size s.heap.objs.size := hfp _ hm; omega
  have hID : I ≠ s.heap.objs.size := Nat.ne_of_lt (by omega)
  have hIC : I ≠ H2.objs.size := Nat.ne_of_lt (by omega)
  have gI : ∀ b o, g.get? b = some o → b ≠ I := fun b o e h => by rw [h, hg] at e; cases e
  have st₁ : St 0 h₁ := Wk.frame _ _ _ st fun b _ o e => old b o e
  have loop : codeAny (model prog w) A (.compLoop (.ListComp elt [⟨.Name x1 p1, i0, [], 0⟩, ⟨.Name x2 p2, i1, [], 0⟩] scope pos) 0 (.ref I) (.ref s.heap.objs.size) (cEnv scope env H2.objs.size)) (RR (.ref s.heap.objs.size) H2.objs.size) { s with heap := h₁ } := by
    refine codeAny_compLoop_out (hs := hs1' _)
      (fun k s' => ∃ h' tk i vs e, s' = { s with heap := h', toks := tk } ∧ i ≤ xs.length ∧ k = xs.length + 1 - i ∧ St i h' ∧ (∃ m, h'.Ns H2.objs.size m) ∧ h'.get? s.heap.objs.size = some (lstO vs e) ∧
        Paired (R' h') vs ((xs.take i).flatMap fun x => (ys x).map (f x)) ∧ (∀ b o, b ≠ I → s.heap.get? b = some o → h'.get? b = some o)) ?_ ?_ (xs.length + 1)
      ⟨h₁, s.toks, 0, [], 0, rfl, Nat.zero_le _, rfl, st₁, ⟨_, hns⟩, hD₁, by simpa using Paired.nil, fun b o _ e => old b o e⟩
    · obtain ⟨hd, d, fr, gs, u⟩ := A
      rfl
    rintro k s' ⟨h', tk, i, vs, ep, rfl, hi, rfl, st', ⟨m', hn'⟩, hD', hp', kp'⟩
    by_cases hlt : i < xs.length
    · refine Wk.item i _ _ _ hlt st' fun v h₂ tk₂ hPv st₂ k₂ => ?_
      have k₂' : ∀ b o, b ≠ I → h'.get? b = some o → h₂.get? b = some o := fun b o hb e => k₂ b o (by simpa using hb) e
      have hn₂ : h₂.Ns H2.objs.size m' := hn'.at' fun o e => k₂' _ o (Ne.symm hIC) e
      refine wpAny_assign_Name (wpAny_storeName_local k1 hn₂ (fun h₃ hn₃ hs₃ => ?_) (by show (scope.kind == .class || (scope.kind == .module && _)) = false; rw [hk]; rfl))
      have hy : xs[i]? = some xs[i] := by simp [hlt]
      have hym : xs[i] ∈ xs := List.getElem_mem hlt
      have hRv := hP i v xs[i] hPv hy
      obtain ⟨oI, heI, hIn⟩ := hIo _ _ st'
      obtain ⟨oV, heV, hVn⟩ := ns_no_tup hn₂
      have t₃ : TExt h' h₃ := (TExt.but heI hIn k₂').trans (TExt.but heV hVn hs₃.extBut)
      have kp₃ : ∀ b o, b ≠ I → b ≠ H2.objs.size → h'.get? b = some o → h₃.get? b = some o := fun b o h1 h2 e => hs₃.extBut b o h2 (k₂' b o h1 e)
      have g₃ : Ext g h₃ := fun b o e => kp₃ b o (gI b o e) (vol b o (x₀ b o e)).2 (kp' b o (gI b o e) (x₀ b o e))
      have st₃ : St (i + 1) h₃ := Wk.frame _ _ _ st₂ fun b hb o e => hs₃.extBut b o (fun q => hCf (by have q' : b = H2.objs.size := q; rw [← q']; exact hb)) e
      have hD₃ : h₃.get? s.heap.objs.size = some (lstO vs ep) := kp₃ _ _ (Ne.symm hID) hDC hD'
      have hRv₃ : R h₃ v xs[i] := hR _ _ _ _ (TExt.of g₃) hRv
      have S1 : Sees h₃ (cEnv scope env H2.objs.size) x1 v := .inl ⟨k1, _, hn₃, by simp⟩
      refine (inner _ h₃ v xs[i] L g₃ hym hRv₃ S1).use a (Ext.refl _) fun r s₄ hr k₄ => ?_
      obtain ⟨h₄, tk₄, rfl, kk₄⟩ := k₄
      obtain ⟨⟨ax, us, ue, rfl, hax, pus⟩, a', ea, hfr⟩ := hr
      cases ea
      have hlus : us.length = (ys xs[i]).length := paired_len pus
      refine wpAny_pyIter_list (items := us.toArray) ⟨_, hax, rfl, ue, rfl⟩ ?_
      have hD₄ := kk₄ _ _ hD₃
      have hn₄ := hn₃.keeps kk₄
      have haxlt : @LT.lt Nat _ ax h₄.objs.size := Heap.lt_size hax
      have hDlt : @LT.lt Nat _ s.heap.objs.size h₄.objs.size := Heap.lt_size hD₄
      have hClt : @LT.lt Nat _ H2.objs.size h₄.objs.size := hn₄.lt
      have haxD : s.heap.objs.size ≠ ax := fun q => by rw [← q, hD₃] at hfr; cases hfr
      have haxC : H2.objs.size ≠ ax := fun q => by obtain ⟨o, _, _, ho, _⟩ := hn₃; rw [← q, ho] at hfr; cases hfr
      have W2 := Walks.list (prog := prog) (w := w) a.hh h₄.objs.size ax (Nat.ne_of_lt haxlt) us.toArray
      rw [show us.toArray.size = (ys xs[i]).length by simpa using hlus] at W2
      refine comp_inner (g := g) (h₀ := h₄) (R1 := R1) (R' := R') (f := f xs[i]) (v1 := v) (vs := vs) (e0 := ep) a W2 ⟨⟨_, Heap.get?_push_size _ rfl, rfl, rfl⟩, ⟨_, Heap.get?_push_of_some _ hax, rfl, ue, rfl⟩⟩ (fun j u y hj hy => ?_) (TExt.of (Ext.push _ _)) (fun j h stj => ?_) ?_ hR1 hR'
        (by exact hk) rfl k1 k2 hne ((hn₃.keeps kk₄).push _) (by simp) (Heap.get?_push_of_some _ hD₄) (Nat.ne_of_lt hDlt) (Nat.ne_of_lt hClt) hDC (by simp; exact ⟨Nat.ne_of_lt hDlt, haxD⟩) (by simp; exact ⟨Nat.ne_of_lt hClt, haxC⟩) (fun b o e => ?_)
        (fun g' u y eg hym' hu s1 s2 => el _ g' v xs[i] u y L eg hym hym' (hR _ _ _ _ (TExt.of eg) hRv) hu s1 s2) ?_
      · exact paired_get pus j u y (by simpa using hj) hy
      · obtain ⟨⟨o, e, hc', hd⟩, _⟩ := stj
        exact ⟨o, e, fun us m q => by rw [q] at hd; simp at hd⟩
      · have e1 := paired_len hp'
        have e2 := hz i hi
        have e3 := hz1 _ hym
        omega
      · have q₄ : h₄.get? b = some o := kk₄ b o (g₃ b o e)
        exact ⟨Heap.get?_push_of_some _ q₄, Nat.ne_of_lt (Heap.lt_size q₄), (vol b o (x₀ b o e)).2, (vol b o (x₀ b o e)).1⟩
      · intro h₅ tk₅ vs' e' hn₅ hD₅ hp₅ kp₅ t₅
        have hw : xs.length + 1 - (i + 1) < xs.length + 1 - i := by omega
        have htake : xs.take (i + 1) = xs.take i ++ [xs[i]] := by rw [List.take_append_getElem]
        have t₄ : TExt h₃ h₅ := (TExt.of (kk₄)).trans ((TExt.of (Ext.push _ _)).trans t₅)
        refine ⟨_, hw, h₅, tk₅, i + 1, vs ++ vs', e', rfl, hlt, rfl, ?_, hn₅, hD₅, ?_, fun b o hb e => ?_⟩
        · refine Wk.frame _ _ _ st₃ fun b hb o e => ?_
          have q₄ : h₄.get? b = some o := kk₄ b o e
          exact kp₅ b o (Nat.ne_of_lt (Heap.lt_size q₄)) (fun q => hCf (by have q' : b = H2.objs.size := q; rw [← q']; exact hb)) (fun q => hDf (q ▸ hb)) (Heap.get?_push_of_some _ q₄)
        · rw [htake, List.flatMap_append]
          simp only [List.flatMap_cons, List.flatMap_nil, List.append_nil]
          exact paired_append (paired_mono (fun a b r => hR' _ _ a b (t₃.trans t₄) r) hp') hp₅
        · have q₄ : h₄.get? b = some o := kk₄ b o (kp₃ b o hb (vol b o e).2 (kp' b o hb e))
          exact kp₅ b o (Nat.ne_of_lt (Heap.lt_size q₄)) (vol b o e).2 (vol b o e).1 (Heap.get?_push_of_some _ q₄)
    · have hin : i = xs.length := by omega
      subst hin
      refine Wk.done _ _ _ st' fun h₂ tk₂ k₂ => ?_
      have k₂' : ∀ b o, b ≠ I → h'.get? b = some o → h₂.get? b = some o := fun b o hb e => k₂ b o (by simpa using hb) e
      obtain ⟨oI, heI, hIn⟩ := hIo _ _ st'
      refine hRR _ _ h₂ tk₂ vs ep (fresh _ (Nat.le_refl _)) (fresh _ (by rw [hC]; exact Nat.le_succ _)) hDC ⟨_, hn'.at' fun o e => k₂' _ o (Ne.symm hIC) e⟩ (k₂' _ _ (Ne.symm hID) hD') ?_ fun b o hb e => k₂' b o hb (kp' b o hb e)
      rw [List.take_length] at hp'
      exact paired_mono (fun a b r => hR' _ _ a b (TExt.but heI hIn k₂') r) hp'
  exact codeAny_compStart_list loop (Wk.self 0 _ _ _ st₁ loop)

theorem Run.listComp2 {env : Env} {elt i0 i1 : Expr} {x1 x2 : Str} {p1 p2 : Pos} {scope : Scope} {pos : Pos} {α β γ : Type} {R : RelH α} {R1 : RelH β} {R' : RelH γ} {xs : List α} {res : List γ} (ys : α → List β) (f : α → β → γ) (hres : (xs.flatMap fun x => (ys x).map (f x)) = res)
    (src : Run prog w n g (eval i0 env) (fun h v => Iters prog w h v R xs)) (hR : TMono R) (hR1 : TMono R1) (hR' : TMono R') (K : EnvOk env) (hf : FreeOk env scope)
    (hz : ∀ k ≤ xs.length, ((xs.take k).flatMap fun x => (ys x).map (f x)).length ≤ 50000) (hz1 : ∀ x ∈ xs, (ys x).length ≤ 50000)
    (inner : ∀ cenv g' v x, CLink scope env cenv → Ext g g' → x ∈ xs → R g' v x → Sees g' cenv x1 v → Run prog w n g' (eval i1 cenv) (fun h r => LstR R1 h r (ys x) ∧ Fresh g' r))
    (el : ∀ cenv g' v x u y, CLink scope env cenv → Ext g g' → x ∈ xs → y ∈ ys x → R g' v x → R1 g' u y → Sees g' cenv x1 v → Sees g' cenv x2 u → Run prog w n g' (eval elt cenv) (fun h r => R' h r (f x y)))
    (hk : scope.kind = .function := by rfl) (hc : ∀ p ∈ scope.names, p.2 = .cell → ∀ q ∈ scope.names, q.2 = .free → p.1 ≠ q.1 := by decide) (hx1 : scope.names.lookup x1 = some .local := by decide) (hx2 : scope.names.lookup x2 = some .local := by decide) (hne : x1 ≠ x2 := by decide)
    (hnames : ∀ x ∈ scope.names, x.2 = .local → scope.names.lookup x.1 = some .local := by decide)
    (hs : ∀ x, foldedSetIterable i0 env x = pure x := by intro _; rfl) (hs1 : ∀ e x, foldedSetIterable i1 e x = pure x := by intro _ _; rfl) :
    Run prog w n g (eval (.ListComp elt [⟨.Name x1 p1, i0, [], 0⟩, ⟨.Name x2 p2, i1, [], 0⟩] scope pos) env) (fun h v => LstR R' h v res ∧ Fresh g v) := fun A s E a e => by
  subst hres
  rw [eval_ListComp]
  refine wpAny_comprehension_free (use := none) (cl := closOf env scope.names []) rfl hs (closureFor_eq hf) hk hnames ?_
  refine src.use a e fun xv s₁ it k₁ => ?_
  obtain ⟨h₁, t₁, rfl, kk₁⟩ := k₁
  refine it A _ _ _ a.hh (Ext.refl _) fun I fp P St h₂ Wk st e₂ hI hIo hfp hIo' hP _ => ?_
  dsimp only at e₂ hI hIo hfp hP st ⊢
  refine comp_block2 (g := h₁) (R := R) (R1 := R1) (R' := R') (ys := ys) (f := f) (RR := fun acc C => compPost (model prog w) A E none (fun v s' => (LstR R' s'.heap v (xs.flatMap fun x => (ys x).map (f x)) ∧ Fresh g v) ∧ Keeps s s') acc C) a e₂ Wk st hI hfp hIo' hP hR hR1 hR' K hk hf hc hx1 hx2 hne hs1 hz hz1
    (fun cenv g' v x L x' hy r sees => inner cenv g' v x L (e.trans (Ext.trans kk₁ x')) hy r sees)
    (fun cenv g' v x u y L x' hx hy r r1 s1 s2 => el cenv g' v x u y L (e.trans (Ext.trans kk₁ x')) hx hy r r1 s1 s2) ?_
  intro D C h' tk vs ep hD hC hDC hn hl hp hkeep
  obtain ⟨m, hn⟩ := hn
  refine ⟨m, hn, fun h'' hs'' => ⟨⟨⟨D, vs, ep, rfl, hs''.extBut _ _ hDC hl, ?_⟩, D, rfl, ?_⟩, h'', tk, rfl, fun b o q => ?_⟩⟩
  · obtain ⟨oC, heC, hCn⟩ := ns_no_tup hn
    exact paired_mono (fun a b r => hR' _ _ a b (TExt.but heC hCn hs''.extBut) r) hp
  · cases q : g.get? D with
    | none => rfl
    | some o => rw [e₂ _ _ (kk₁ _ _ (e _ _ q))] at hD; cases hD
  · have q₁ : h₁.get? b = some o := kk₁ b o q
    have q₂ : h₂.get? b = some o := e₂ b o q₁
    refine hs''.extBut b o (fun z => ?_) (hkeep b o (fun z => ?_) q₂)
    · rw [z, hC] at q₂; cases q₂
    · rw [z, hI] at q₁; cases q₁
end
end Mine

namespace Mine

section
variable {prog : Program} {w : World} {n : Nat} {g : Heap} {env : Env} {pos fpos : Pos} {mg mb : Str → Option Value}

theorem Run.addTup {u v : Value} {a b : List Int} (x : TupI g u a) (y : TupI g v b) (hz : a.length + b.length ≤ 1000) : Run prog w n g (binaryOp .Add u v) (fun h r => TupI h r (a ++ b)) := fun A s E ok e => by
  obtain ⟨l, xs, na, rfl, ho, px⟩ := TupI.mono _ _ _ _ e x
  obtain ⟨m, ys, nb, rfl, ho2, py⟩ := TupI.mono _ _ _ _ e y
  have ex := paired_len px
  have ey := paired_len py
  by_cases h1 : xs.toArray.isEmpty = true
  · have hx : xs = [] := by simpa using h1
    subst hx
    have ha : a = [] := by cases px; rfl
    subst ha
    exact concat_meets ⟨_, ho, rfl⟩ ⟨_, ho2, rfl⟩ noFill_tuple_add seq_tuple_add F.slot_tuple_add F.entry_tuple_add (F.args_tuple_add_2 _ _) (AutoSeq1.tuple___add___tuple_tuple_0 l #[] na m ys.toArray nb h1) ⟨ho, ho2, ⟨m, ys, nb, rfl, ho2, py⟩, keeps_refl s⟩
  · by_cases h2 : ys.toArray.isEmpty = true
    · have hy : ys = [] := by simpa using h2
      subst hy
      have hb : b = [] := by cases py; rfl
      subst hb
      exact concat_meets ⟨_, ho, rfl⟩ ⟨_, ho2, rfl⟩ noFill_tuple_add seq_tuple_add F.slot_tuple_add F.entry_tuple_add (F.args_tuple_add_2 _ _) (AutoSeq1.tuple___add___tuple_tuple_1 l xs.toArray na m #[] nb h1 h2) ⟨ho, ho2, ⟨l, xs, na, rfl, ho, by simpa using px⟩, keeps_refl s⟩
    · exact P.add_tuple ho ho2 h1 h2 ⟨⟨_, xs ++ ys, 0, rfl, by rw [show (tupO (xs ++ ys) 0 : Obj) = { cls := .type "tuple", data := .seq (xs.toArray ++ ys.toArray) } by simp]; exact Heap.get?_push_size _ rfl, paired_append px py⟩, keeps_mk' (Ext.push _ _)⟩ (by rw [sizeLine_eq]; simp; omega)
theorem Run.addT {l r : Expr} {a b : List Int} (h₁ : Run prog w n g (eval l env) (fun h v => TupI h v a)) (h₂ : Run prog w n g (eval r env) (fun h v => TupI h v b)) (hz : a.length + b.length ≤ 1000) :
    Run prog w n g (eval (.BinOp l .Add r pos) env) (fun h v => TupI h v (a ++ b)) :=
  Run.binop h₁ h₂ (fun _ _ _ e p => TupI.mono _ _ _ _ e p) fun g' x y _ p q => Run.addTup p q hz
theorem Run.addL {l r : Expr} {a b : List Int} (h₁ : Run prog w n g (eval l env) (fun h v => LstI h v a)) (h₂ : Run prog w n g (eval r env) (fun h v => LstI h v b)) (hz : a.length + b.length ≤ 1000) :
    Run prog w n g (eval (.BinOp l .Add r pos) env) (fun h v => LstI h v (a ++ b)) :=
  Run.binop h₁ h₂ (fun _ _ _ e p => LstI.mono _ _ _ _ e p) fun g' x y _ p q A s E ok e => by
    obtain ⟨l, xs, na, rfl, ho, px⟩ := LstI.mono _ _ _ _ e p
    obtain ⟨m, ys, nb, rfl, ho2, py⟩ := LstI.mono _ _ _ _ e q
    have ex := paired_len px
    have ey := paired_len py
    exact P.add_list ho ho2 ⟨⟨_, xs ++ ys, 0, rfl, by rw [show (lstO (xs ++ ys) 0 : Obj) = { cls := .type "list", data := .seq (xs.toArray ++ ys.toArray) } by simp]; exact Heap.get?_push_size _ rfl, paired_append px py⟩, keeps_mk' (Ext.push _ _)⟩ (by rw [sizeLine_eq]; simp; omega)

theorem small_down {a : Int} (h0 : 0 ≤ a) (h1 : a ≤ 100000) : Builtin.Range.small a 0 (-1) = true := by
  have e : Builtin.Range.rangeSize a 0 (-1) = a := by
    unfold Builtin.Range.rangeSize
    simp only [show ¬ ((-1 : Int) > 0) by decide, if_false, Int.neg_neg, Int.ediv_one]
    split <;> omega
  unfold Builtin.Range.small
  rw [e]
  simp only [Builtin.Range.rangeFitsLong, Bool.and_eq_true, Bool.or_eq_true, decide_eq_true_eq, beq_iff_eq, show ¬ ((-1 : Int) > 0) by decide, if_false]
  omega
theorem Run.rangeDown {e₁ e₂ e₃ : Expr} {a : Int} (K : EnvOk env) (G : Gd mg mb g) (hk : env.kindOf (Str.ofString "range") = some .globalImplicit) (h₁ : Run prog w n g (eval e₁ env) (fun h v => IntR h v a)) (h₂ : Run prog w n g (eval e₂ env) (fun h v => IntR h v 0)) (h₃ : Run prog w n g (eval e₃ env) (fun h v => IntR h v (-1)))
    (h0 : 0 ≤ a) (h1 : a ≤ 100000) (he : starEach [e₁, e₂, e₃] env = [(false, eval e₁ env), (false, eval e₂ env), (false, eval e₃ env)] := by rfl) (he₂ : starEach [e₂, e₃] env = [(false, eval e₂ env), (false, eval e₃ env)] := by rfl) :
    Run prog w n g (eval (.Call (.Name (Str.ofString "range") fpos) [e₁, e₂, e₃] [] pos) env) (fun h v => Iters prog w h v IntR (rangeL a (-1) a.toNat)) :=
  Run.call3 (Run.built' K G (by decide) PyProof.Rows.boot_range hk (by decide) (by decide)) (.inr (.inl ⟨_, rfl⟩)) h₁ (fun _ _ _ x p => p) h₂ (fun _ _ _ x p => p) h₃ (fun _ _ _ x p => p) (fun g' v₁ v₂ v₃ x p₁ p₂ p₃ A s E ok e => by
    obtain ⟨t, rfl⟩ := p₁
    obtain ⟨t', rfl⟩ := p₂
    obtain ⟨t'', rfl⟩ := p₃
    refine call_range_3 (by decide) ⟨Iters.range ⟨_, 0, _, _, _, rfl, IsRange.new s.heap a 0 (-1) _ _ _, small_down h0 h1, ?_⟩, keeps_mk (Ext.push _ _)⟩ (.inl (PyProof.noPylong_small (by decide)))
    unfold Builtin.Range.rangeSize
    simp only [show ¬ ((-1 : Int) > 0) by decide, if_false, Int.neg_neg, Int.ediv_one]
    split <;> omega) he he₂
theorem Run.minOf {e₁ e₂ : Expr} {a b : Int} (K : EnvOk env) (G : Gd mg mb g) (hk : env.kindOf (Str.ofString "min") = some .globalImplicit) (h₁ : Run prog w n g (eval e₁ env) (fun h v => IntR h v a)) (h₂ : Run prog w n g (eval e₂ env) (fun h v => IntR h v b))
    (he : starEach [e₁, e₂] env = [(false, eval e₁ env), (false, eval e₂ env)] := by rfl) (he₂ : starEach [e₂] env = [(false, eval e₂ env)] := by rfl) :
    Run prog w n g (eval (.Call (.Name (Str.ofString "min") fpos) [e₁, e₂] [] pos) env) (fun h v => IntR h v (min a b)) :=
  Run.call2 (Run.built' K G (by decide) PyProof.Rows.boot_min hk (by decide) (by decide)) (.inl ⟨_, rfl⟩) h₁ (fun _ _ _ x p => p) h₂ (fun _ _ _ x p => p) (fun g' v₁ v₂ x p₁ p₂ => Run.min2 p₁ p₂) he he₂

theorem Fresh.anti {g g' : Heap} {v : Value} (e : Ext g g') (h : Fresh g' v) : Fresh g v := by
  obtain ⟨a, rfl, hn⟩ := h
  refine ⟨a, rfl, ?_⟩
  cases q : g.get? a with
  | none => rfl
  | some o => rw [e _ _ q] at hn; cases hn
theorem Run.list1F {e : Expr} {α : Type} {R : RelH α} {a : α} (r : RMono R) (h : Run prog w n g (eval e env) (fun h v => R h v a)) (he : starEach [e] env = [(false, eval e env)] := by rfl) :
    Run prog w n g (eval (.List [e] pos) env) (fun h v => LstR R h v [a] ∧ Fresh g v) := fun A s E ok x =>
  List_ (by
    rw [he]
    refine (Run.cons h (fun _ _ _ x p => r _ _ _ _ x p) Run.nil).use ok x fun vs s₁ p k₁ => ?_
    obtain ⟨v, vs', rfl, p, q⟩ := p
    have q' : vs' = [] := q
    subst q'
    exact wpAny_newObj_type ⟨⟨⟨_, [v], 0, rfl, Heap.get?_push_size _ rfl, .cons (r _ _ _ _ (Ext.push _ _) p) .nil⟩, Fresh.anti (x.trans (keeps_ext k₁)) ⟨_, rfl, fresh_none⟩⟩, keeps_trans k₁ (keeps_mk' (Ext.push _ _))⟩)

/-! statements that hand back -/
abbrev RetR (P : Heap → Value → Prop) : Heap → Flow → Prop := fun h fl => ∃ v, fl = .ret v ∧ P h v
theorem Run.ifThen {test : Expr} {body rest : List Stmt} {b : Bool} {P : Heap → Value → Prop} (ht : Run prog w n g (isTrue test env (eval test env)) (fun _ v => v = b)) (h₁ : b = true → Run prog w n g (execs body env) (RetR P)) (h₂ : b = false → Run prog w n g (execs rest env) (RetR P)) :
    Run prog w n g (execs (.If test body [] pos :: rest) env) (RetR P) := fun A s E a x =>
  wpAny_execs_cons (wpAny_If (ht.use a x fun c s₁ hc k₁ => by
    subst hc
    cases c with
    | true =>
      simp only [if_true]
      refine (h₁ rfl).use a (x.trans (keeps_ext k₁)) fun fl s₂ hr k₂ => ?_
      obtain ⟨v, rfl, p⟩ := hr
      exact ⟨⟨v, rfl, p⟩, keeps_trans k₁ k₂⟩
    | false =>
      simp only [Bool.false_eq_true, if_false]
      refine wpAny_execs_nil ?_
      exact ((h₂ rfl).use a (x.trans (keeps_ext k₁)) fun fl s₂ hr k₂ => ⟨hr, keeps_trans k₁ k₂⟩)))
end
end Mine

namespace Mine


def rowsF : Nat → Int → Int → List (List Int)
  | 0, _, _ => [[]]
  | f + 1, wh, mo => if wh = 0 then [[]] else (rangeL (min wh mo) (-1) (min wh mo).toNat).flatMap fun k => (rowsF f (wh - k) k).map fun row => [k] ++ row

theorem rangeL_down {a : Int} {y : Int} (h : y ∈ rangeL a (-1) a.toNat) : 1 ≤ y ∧ y ≤ a := by
  obtain ⟨i, hi, rfl⟩ := rangeL_mem h
  omega
theorem rowsF_len : ∀ (f : Nat) (wh mo : Int) (y : List Int), y ∈ rowsF f wh mo → y.length ≤ f
  | 0, _, _, y, h => by simp [rowsF] at h; subst h; simp
  | f + 1, wh, mo, y, h => by
    unfold rowsF at h
    split at h
    · simp at h; subst h; simp
    · obtain ⟨k, hk, hy⟩ := List.mem_flatMap.mp h
      obtain ⟨row, hr, rfl⟩ := List.mem_map.mp hy
      have := rowsF_len f _ _ row hr
      simp
      omega
theorem sum_pow (c : Nat) : ∀ n : Nat, ((List.range n).map fun i => 2 ^ (c + i)).sum + 2 ^ c = 2 ^ (c + n)
  | 0 => by simp
  | n + 1 => by
    have := sum_pow c n
    rw [List.range_succ, List.map_append, List.sum_append]
    simp only [List.map_cons, List.map_nil, List.sum_cons, List.sum_nil]
    rw [show c + (n + 1) = (c + n) + 1 by omega, Nat.pow_succ]
    omega
theorem sum_le {α : Type} : ∀ (l : List α) (p q : α → Nat), (∀ x ∈ l, p x ≤ q x) → (l.map p).sum ≤ (l.map q).sum
  | [], _, _, _ => by simp
  | x :: l, p, q, h => by
    have := sum_le l p q fun y hy => h y (List.mem_cons_of_mem _ hy)
    have := h x List.mem_cons_self
    simp
    omega
theorem rowsF_size : ∀ (f : Nat) (wh mo : Int), 0 ≤ wh → (rowsF f wh mo).length ≤ 2 ^ wh.toNat
  | 0, wh, _, _ => by simp [rowsF]; exact Nat.one_le_two_pow
  | f + 1, wh, mo, h0 => by
    unfold rowsF
    split
    · simp; exact Nat.one_le_two_pow
    · rw [List.length_flatMap]
      simp only [rangeL, List.map_map]
      by_cases hm : 0 < min wh mo
      · have h1 := sum_le (List.range (min wh mo).toNat) ((fun k => ((rowsF f (wh - k) k).map fun row => [k] ++ row).length) ∘ fun (i : Nat) => min wh mo + (i : Int) * -1) (fun i => 2 ^ ((wh - min wh mo).toNat + i)) fun i hi => by
          have hi' := List.mem_range.mp hi
          simp only [Function.comp, List.length_map]
          refine Nat.le_trans (rowsF_size f _ _ (by omega)) ?_
          exact Nat.pow_le_pow_right (by decide) (by omega)
        have h2 := sum_pow (wh - min wh mo).toNat (min wh mo).toNat
        rw [show (wh - min wh mo).toNat + (min wh mo).toNat = wh.toNat by omega] at h2
        exact Nat.le_trans h1 (Nat.le.intro h2)
      · rw [show (min wh mo).toNat = 0 by omega]
        simp
theorem flat_take {α γ : Type} (xs : List α) (h : α → List γ) (k : Nat) : ((xs.take k).flatMap h).length ≤ (xs.flatMap h).length := by
  conv => rhs; rw [← List.take_append_drop k xs]
  rw [List.flatMap_append, List.length_append]
  omega

section
variable {prog : Program} {w : World} {n : Nat} {mg mb : Str → Option Value}

theorem rows_spec {a : Addr} : ∀ (f : Nat) {g : Heap} (G : Gd mg mb g) (F : FnIs mg g (fnD 6) a) {u v : Value} {wh mo : Int} (hu : IntR g u wh) (hv : IntR g v mo) (h0 : 0 ≤ wh) (h1 : wh ≤ f) (hf : f ≤ 10) (m0 : 0 ≤ mo) (m1 : mo ≤ 10),
    Run prog w (n + f + 6) g (PySem.call (.ref a) [u, v]) (fun h r => LstT h r (rowsF f wh mo) ∧ Fresh g r) := by
  intro f
  induction f with
  | zero =>
    intro g G F u v wh mo hu hv h0 h1 hf m0 m1
    obtain ⟨hm, o, pm, cd, doc, ho, hd, hc⟩ := F
    refine Run.callDef (binds := [("whole", u), ("most", v)]) (n := n + 5) G.nolimit ho hd hc rfl rfl (by rfl) (fun L x hx => ?_) fun L g' e hL hns hcells => ?_
    · simp only [List.mem_cons, List.not_mem_nil, or_false] at hx
      rcases hx with rfl | rfl
      · exact .inr ⟨by rfl, by rfl⟩
      · exact .inl (by rfl)
    · have K : EnvOk (envF 6 pm cd doc L a) := ⟨by rfl, by rfl, by rfl⟩
      have S : Sees g' (envF 6 pm cd doc L a) "whole" u := .inr ⟨.inl (by rfl), L + 1, by rfl, hcells "whole" (L + 1) (by rfl)⟩
      change Run prog w (n + 5) g' (execs (fnD 6).body (envF 6 pm cd doc L a)) _
      have hw0 : wh = 0 := by omega
      subst hw0
      refine Run.ifThen (b := true) (Run.testI (a := 0) (b := 0) (Run.nameR K S hu IntR.mono) Run.int) (fun _ => ?_) (fun h => by cases h)
      exact Run.ret ((Run.list1F TupI.mono Run.tup0).mono fun h r _ q => ⟨q.1, q.2.anti e⟩)
  | succ f ih =>
    intro g G F u v wh mo hu hv h0 h1 hf m0 m1
    have F0 := F
    obtain ⟨hm, o, pm, cd, doc, ho, hd, hc⟩ := F
    refine Run.callDef (binds := [("whole", u), ("most", v)]) (n := n + f + 6) G.nolimit ho hd hc rfl rfl (by rfl) (fun L x hx => ?_) fun L g' e hL hns hcells => ?_
    · simp only [List.mem_cons, List.not_mem_nil, or_false] at hx
      rcases hx with rfl | rfl
      · exact .inr ⟨by rfl, by rfl⟩
      · exact .inl (by rfl)
    · have G' := G.ext e
      have F' := F0.ext e
      have K : EnvOk (envF 6 pm cd doc L a) := ⟨by rfl, by rfl, by rfl⟩
      have S : Sees g' (envF 6 pm cd doc L a) "whole" u := .inr ⟨.inl (by rfl), L + 1, by rfl, hcells "whole" (L + 1) (by rfl)⟩
      obtain ⟨m, hn, hmm⟩ := hns
      have S2 : Sees g' (envF 6 pm cd doc L a) "most" v := .inl ⟨by rfl, m, hn, hmm "most" v (by rfl)⟩
      have hmin : (envF 6 pm cd doc L a).kindOf (Str.ofString "min") = some .globalImplicit := by rfl
      have hrange : (envF 6 pm cd doc L a).kindOf (Str.ofString "range") = some .globalImplicit := by rfl
      have hwh : (envF 6 pm cd doc L a).kindOf (Str.ofString "whole") = some .cell := by rfl
      change Run prog w (n + f + 6) g' (execs (fnD 6).body (envF 6 pm cd doc L a)) _
      generalize envF 6 pm cd doc L a = env at K S S2 hmin hrange hwh ⊢
      refine Run.ifThen (b := wh == 0) (Run.testI (a := wh) (b := 0) (Run.nameR K S hu IntR.mono) Run.int) (fun hb => ?_) (fun hb => ?_)
      · have hw0 : wh = 0 := by simpa using hb
        subst hw0
        exact Run.ret ((Run.list1F TupI.mono Run.tup0).mono fun h r _ q => ⟨by simpa [rowsF] using q.1, q.2.anti e⟩)
      · have hw0 : wh ≠ 0 := by simpa using hb
        refine Run.ret (Run.mono (P := fun h r => LstT h r (rowsF (f + 1) wh mo) ∧ Fresh g' r) ?_ fun h r _ q => ⟨q.1, q.2.anti e⟩)
        · have hpow : (rowsF (f + 1) wh mo).length ≤ 50000 := by
            have e1 := rowsF_size (f + 1) wh mo h0
            have e2 : 2 ^ wh.toNat ≤ 2 ^ 10 := Nat.pow_le_pow_right (by decide) (by omega)
            omega
          have hunf : ((rangeL (min wh mo) (-1) (min wh mo).toNat).flatMap fun k => (rowsF f (wh - k) k).map fun row => [k] ++ row) = rowsF (f + 1) wh mo := by
            conv => rhs; unfold rowsF
            rw [if_neg hw0]
          refine Run.listComp2 (R := IntR) (R1 := TupI) (R' := TupI) (xs := rangeL (min wh mo) (-1) (min wh mo).toNat) (fun k => rowsF f (wh - k) k) (fun k row => [k] ++ row) hunf
            (Run.rangeDown K G' hrange (Run.minOf K G' hmin (Run.nameR K S hu IntR.mono) (Run.nameR K S2 hv IntR.mono)) Run.int (Run.sub Run.int Run.int) (by omega) (by omega)) IntR.t TupI.t TupI.t K ?_ ?_ ?_ ?_ ?_
          · intro p hp hfr
            have : p.1 = Str.ofString "whole" := by revert p; decide
            rw [this]
            exact S.cellOf (by rw [hwh]; decide)
          · intro k hk
            refine Nat.le_trans (flat_take _ _ _) ?_
            rw [hunf]; exact hpow
          · intro x hx
            have hb := rangeL_down hx
            have e1 := rowsF_size f (wh - x) x (by omega)
            have e2 : 2 ^ (wh - x).toNat ≤ 2 ^ 10 := Nat.pow_le_pow_right (by decide) (by omega)
            omega
          · intro cenv g'' vx x L e' hx hxv hs
            have hb := rangeL_down hx
            exact Run.call2 (Run.glob L.ok (G'.ext e') F'.1 (L.glob _ (by rfl))) (.inr (.inr (by
                obtain ⟨_, o, pm, cd, doc, ho, hd, _⟩ := F'.ext e'
                exact ⟨_, o, _, rfl, ho, hd⟩)))
              (Run.sub (a := wh) (b := x) (Run.nameR L.ok (L.free _ _ _ (by rfl) (S.ext e')) hu IntR.mono) (Run.nameR L.ok hs hxv IntR.mono)) (fun _ _ _ _ p => p)
              (Run.nameR L.ok hs hxv IntR.mono) (fun _ _ _ _ p => p) (fun g3 v1 v2 e3 p1 p2 => (ih ((G'.ext e').ext e3) ((F'.ext e').ext e3) p1 p2 (by omega) (by omega) (by omega) (by omega) (by omega)).mono fun h r eh q => ⟨q.1, q.2.anti e3⟩)
          · intro cenv g'' vx x uy y L e' hx hy hxv hyu hs1 hs2
            have := rowsF_len f _ _ y hy
            exact Run.addT (Run.tup1 IntR.mono (Run.nameR L.ok hs1 hxv IntR.mono)) (Run.nameR L.ok hs2 hyu TupI.mono) (by simp; omega)
end
end Mine

namespace Mine


/-- all that was there but L stands -/
def KB (L : Addr) (s s' : Shared) : Prop := ∃ h' tk, s' = { s with heap := h', toks := tk } ∧ ∀ b o, b ≠ L → s.heap.get? b = some o → h'.get? b = some o
theorem KB.refl (L : Addr) (s : Shared) : KB L s s := ⟨s.heap, s.toks, rfl, fun _ _ _ e => e⟩
theorem KB.trans {L : Addr} {a b c : Shared} (x : KB L a b) (y : KB L b c) : KB L a c := by
  obtain ⟨h1, t1, rfl, k1⟩ := x
  obtain ⟨h2, t2, rfl, k2⟩ := y
  exact ⟨h2, t2, rfl, fun b o n e => k2 b o n (k1 b o n e)⟩
theorem KB.of {L : Addr} {a b : Shared} (x : Keeps a b) : KB L a b := by
  obtain ⟨h1, t1, rfl, k1⟩ := x
  exact ⟨h1, t1, rfl, fun b o _ e => k1 b o e⟩
theorem KB.ext {L : Addr} {g : Heap} {a b : Shared} (x : KB L a b) (e : Ext g a.heap) (hL : g.get? L = none) : Ext g b.heap := by
  obtain ⟨h1, t1, rfl, k1⟩ := x
  exact fun q o he => k1 q o (fun z => by rw [z, hL] at he; cases he) (e q o he)
theorem KB.keeps {L : Addr} {s₀ a b : Shared} (k₀ : Keeps s₀ a) (hL : s₀.heap.get? L = none) (x : KB L a b) : Keeps s₀ b := by
  obtain ⟨h0, t0, rfl, kk⟩ := k₀
  obtain ⟨h1, t1, rfl, k1⟩ := x
  exact ⟨h1, t1, rfl, fun q o he => k1 q o (fun z => by rw [z, hL] at he; cases he) (kk q o he)⟩

theorem sees_loc {h : Heap} {env : Env} {x : Str} {v : Value} {m : Str → Option Value} (k : env.kindOf x = some .local) (hn : h.Ns env.locals m) (hm : m x = some v) : Sees h env x v := .inl ⟨k, m, hn, hm⟩

section
variable {prog : Program} {w : World} {n : Nat} {env : Env} {A : Around} {s : Shared} {E : Value → Shared → Prop} {Q : Flow → Shared → Prop} {m : Str → Option Value} {pos p : Pos}

theorem wp_assign {x : Str} {value : Expr} {P : Heap → Value → Prop} (hk : env.scope.kind = .function) (hl : env.kindOf x = some .local) (hn : s.heap.Ns env.locals m) (a : AOk n A) (h : Run prog w n s.heap (eval value env) P)
    (k : ∀ v h₁ h' tk, P h₁ v → Ext s.heap h₁ → Heap.SameBut env.locals h₁ h' → h'.Ns env.locals (fun y => if y = x then some v else m y) → KB env.locals s { s with heap := h', toks := tk } → Q .next { s with heap := h', toks := tk })
    (hs : swapsWith value (some (.Name x p)) pos.line env = pure false := by rfl) : wpAny (model prog w) A (exec (.Assign [.Name x p] value pos) env) Q E s :=
  wpAny_Assign_Name (h.use a (Ext.refl _) fun v s₁ pv k₁ => by
    obtain ⟨h₁, t₁, rfl, kk⟩ := k₁
    exact wpAny_storeName_local hl (hn.keeps kk) (fun h' hn' hs' => k v h₁ h' _ pv kk hs' hn' ⟨h', _, rfl, fun b o hb e => hs'.extBut b o hb (kk b o e)⟩) (by rw [hk]; rfl)) hs
theorem wp_if {test : Expr} {body orelse : List Stmt} {b : Bool} (a : AOk n A) (ht : Run prog w n s.heap (isTrue test env (eval test env)) (fun _ v => v = b))
    (k : ∀ s₁, Keeps s s₁ → if b then wpAny (model prog w) A (execs body env) Q E s₁ else wpAny (model prog w) A (execs orelse env) Q E s₁) : wpAny (model prog w) A (exec (.If test body orelse pos) env) Q E s :=
  wpAny_If (ht.use a (Ext.refl _) fun c s₁ hc k₁ => by subst hc; exact k s₁ k₁)
theorem Run.isNone {g : Heap} {v : Value} (b : Bool) (h : (b = true ∧ v = .none) ∨ (b = false ∧ ∃ i t, v = .int i t)) : Run prog w n g (compareOp .Is v .none) (fun h r => BoolR h r b) := fun A s E _ _ => by
  rcases h with ⟨rfl, rfl⟩ | ⟨rfl, i, t, rfl⟩
  · exact wpAny_is_self (by rfl) ⟨rfl, keeps_refl s⟩
  · exact is_int_none ⟨rfl, keeps_refl s⟩
theorem Run.testNone {g : Heap} {e : Expr} {v : Value} {k : Nat} {cp : Pos} {whole : Sem Value} (b : Bool) (h : Run prog w n g (eval e env) (fun _ r => r = v)) (hv : (b = true ∧ v = .none) ∨ (b = false ∧ ∃ i t, v = .int i t)) :
    Run prog w n g (isTrue (.Compare e [.Is] [.Constant .none k cp] pos) env whole) (fun _ r => r = b) :=
  Run.test h Run.cnone (fun _ _ _ _ p => p) (fun g' x y _ p q => by subst p; subst q; exact Run.isNone b hv) (by with_unfolding_all rfl)
theorem Run.floordiv {g : Heap} {l r : Expr} {a b : Int} (hb : b ≠ 0) (hs : b.natAbs < 1073741824) (h₁ : Run prog w n g (eval l env) (fun h v => IntR h v a)) (h₂ : Run prog w n g (eval r env) (fun h v => IntR h v b)) :
    Run prog w n g (eval (.BinOp l .FloorDiv r pos) env) (fun h v => IntR h v (a.fdiv b)) :=
  Run.binop h₁ h₂ (fun _ _ _ _ x => x) fun g' x y _ ⟨t, e⟩ ⟨u, f⟩ A s E ok _ => by
    subst e; subst f
    exact floordiv_int_or ok.hh (fun h => absurd h hb) (fun _ => ⟨⟨_, rfl⟩, keeps_tok⟩) (fun _ => .inl (PyProof.noPylong_small hs))
theorem Run.mod {g : Heap} {l r : Expr} {a b : Int} (hb : b ≠ 0) (hs : b.natAbs < 1073741824) (h₁ : Run prog w n g (eval l env) (fun h v => IntR h v a)) (h₂ : Run prog w n g (eval r env) (fun h v => IntR h v b)) :
    Run prog w n g (eval (.BinOp l .Mod r pos) env) (fun h v => IntR h v (a.fmod b)) :=
  Run.binop h₁ h₂ (fun _ _ _ _ x => x) fun g' x y _ ⟨t, e⟩ ⟨u, f⟩ A s E ok _ => by
    subst e; subst f
    exact mod_int_or ok.hh (fun h => absurd h hb) (fun _ => ⟨⟨_, rfl⟩, keeps_tok⟩)
end

/-! a def with defaults and no cells -/
section
variable {prog : Program} {w : World} {n : Nat} {g : Heap}
theorem Run.callB {a : Addr} {o : Obj} {fd : FuncData} {body : List Stmt} {args : List Value} {binds : List (Str × Value)} {P : Heap → Value → Prop}
    (nolim : g.NoLimit) (ho : g.get? a = some o) (hdata : o.data = .func fd) (hcd : g.CodeRec fd.code fd.qualname) (hbody : fd.body = .stmts body)
    (hbind : ∀ s : Shared, Ext g s.heap → BindsTo s fd ⟨args, []⟩ binds) (hcell : ∀ x ∈ fd.scope.names, x.2 ≠ .cell) (hloc : ∀ x ∈ binds, fd.scope.names.lookup x.1 = some .local)
    (h : ∀ (L : Addr) (A : Around) (s : Shared) (E : Value → Shared → Prop), AOk n A → Ext g s.heap → g.get? L = none → s.heap.Ns L (fun x => binds.reverse.lookup x) →
      wpAny (model prog w) A (execs body (callEnv fd L a)) (fun fl s' => ∃ v, fl = .ret v ∧ P s'.heap v ∧ KB L s s') E s)
    (hco : fd.scope.isCoroutine = false := by rfl) (hgen : fd.scope.isGenerator = false := by rfl) (hk : fd.scope.kind = .function := by rfl) :
    Run prog w (n + 1) g (PySem.call (.ref a) args) P := fun A s E ok e => by
  refine wpAny_call (codeAny_call_def ok.room (e _ _ ho) hdata (nolim.keeps e) (hcd.keeps e) hbody (hbind s e) hcell hloc (fun h₁ hns kk => ?_) hco hgen hk)
  have hL : g.get? s.heap.objs.size = none := by
    cases q : g.get? s.heap.objs.size with
    | none => rfl
    | some o => exact absurd (Heap.lt_size (e _ _ q)) (Nat.lt_irrefl _)
  refine wpAny_mono (h s.heap.objs.size _ { s with heap := h₁, toks := s.toks + binds.length } _ (ok.deeper _) (e.trans kk) hL hns) (fun fl s₂ hv => ?_) fun _ _ x => x
  obtain ⟨v, rfl, hp, k₂⟩ := hv
  exact ⟨hp, KB.keeps (keeps_mk kk) fresh_none k₂⟩
end
end Mine

namespace Mine


abbrev fdB (k : Nat) (dV kV doc pm : Value) (an : Option Addr) (cdv ct : Value) : FuncData := fnX (fnD k).name (fnD k).name (fnD k).params (fnD k).body (fnD k).scope [] dV kV doc pm an cdv ct
/-- a def with defaults stands under its name -/
def FnB (mg : Str → Option Value) (h : Heap) (k : Nat) (a : Addr) : Prop :=
  mg (fnD k).name = some (.ref a) ∧ ∃ o dV kV doc pm an cdv ct t, h.get? a = some o ∧ o.data = .func (fdB k dV kV doc pm an cdv ct) ∧ h.CodeRec cdv (fnD k).name ∧
    (∀ (s : Shared) v₁ v₂, Ext h s.heap → BindsTo s (fdB k dV kV doc pm an cdv ct) ⟨[v₁, v₂], []⟩ [("a", v₁), ("x", v₂), ("lo", .int 0 t), ("hi", .none), ("key", .none)]) ∧
    (∀ (s : Shared) v₁ v₂ v₃ v₄, Ext h s.heap → BindsTo s (fdB k dV kV doc pm an cdv ct) ⟨[v₁, v₂, v₃, v₄], []⟩ [("a", v₁), ("x", v₂), ("lo", v₃), ("hi", v₄), ("key", .none)])
theorem FnB.ext {mg : Str → Option Value} {h h' : Heap} {k : Nat} {a : Addr} (x : FnB mg h k a) (e : Ext h h') : FnB mg h' k a := by
  obtain ⟨h1, o, dV, kV, doc, pm, an, cdv, ct, t, h2, h3, h4, h5, h6⟩ := x
  exact ⟨h1, o, dV, kV, doc, pm, an, cdv, ct, t, e _ _ h2, h3, h4.keeps e, fun s v₁ v₂ x => h5 s v₁ v₂ (e.trans x), fun s v₁ v₂ v₃ v₄ x => h6 s v₁ v₂ v₃ v₄ (e.trans x)⟩

def bisF : Nat → List (List Int) → List Int → Nat → Nat → Nat
  | 0, _, _, lo, _ => lo
  | f + 1, l, x, lo, hi => if lo < hi then (if ltL (l.getD ((lo + hi) / 2) []) x then bisF f l x ((lo + hi) / 2 + 1) hi else bisF f l x lo ((lo + hi) / 2)) else lo
def bisL (l : List (List Int)) (x : List Int) : Nat := bisF l.length l x 0 l.length
theorem bisF_end (f : Nat) (l : List (List Int)) (x : List Int) (lo hi : Nat) (h : hi ≤ lo) : bisF f l x lo hi = lo := by
  cases f with
  | zero => rfl
  | succ f => unfold bisF; rw [if_neg (by omega)]
theorem bisF_le : ∀ (f : Nat) (l : List (List Int)) (x : List Int) (lo hi : Nat), lo ≤ hi → lo ≤ bisF f l x lo hi ∧ bisF f l x lo hi ≤ hi
  | 0, _, _, lo, hi, h => by simp [bisF, h]
  | f + 1, l, x, lo, hi, h => by
    unfold bisF
    split
    · split
      · have := bisF_le f l x ((lo + hi) / 2 + 1) hi (by omega)
        omega
      · have := bisF_le f l x lo ((lo + hi) / 2) (by omega)
        omega
    · omega
theorem bisL_le (l : List (List Int)) (x : List Int) : bisL l x ≤ l.length := (bisF_le _ l x 0 l.length (Nat.zero_le _)).2
theorem getD_getT {l : List (List Int)} {k : Nat} (h : k < l.length) : l[k]? = some (l.getD k []) := by simp [h]

section
variable {prog : Program} {w : World} {n : Nat} {mg mb : Str → Option Value}

/-- the body of bisect_left, from a frame that holds its names -/
theorem bisect_body {dV kV doc pm cdv ct : Value} {an : Option Addr} {a L : Addr} {g : Heap} {va vx : Value} {t : Tok} {l : List (List Int)} {x : List Int} (G : Gd mg mb g) (ha : LstT g va l) (hx : TupI g vx x) (hl : l.length ≤ 1000)
    {A : Around} {s : Shared} {E : Value → Shared → Prop} (ok : AOk (n + 4) A) (e : Ext g s.heap) (hL : g.get? L = none)
    (hn : s.heap.Ns L (fun y => (([("a", va), ("x", vx), ("lo", Value.int 0 t), ("hi", Value.none), ("key", Value.none)] : List (Str × Value)).reverse).lookup y)) :
    wpAny (model prog w) A (execs (fnD 4).body (callEnv (fdB 4 dV kV doc pm an cdv ct) L a)) (fun fl s' => ∃ v, fl = .ret v ∧ IntR s'.heap v (bisL l x) ∧ KB L s s') E s := by
  have K : EnvOk (callEnv (fdB 4 dV kV doc pm an cdv ct) L a) := ⟨by rfl, by rfl, by rfl⟩
  have hloc : (callEnv (fdB 4 dV kV doc pm an cdv ct) L a).locals = L := by rfl
  have ka : (callEnv (fdB 4 dV kV doc pm an cdv ct) L a).kindOf (Str.ofString "a") = some .local := by rfl
  have kx : (callEnv (fdB 4 dV kV doc pm an cdv ct) L a).kindOf (Str.ofString "x") = some .local := by rfl
  have klo : (callEnv (fdB 4 dV kV doc pm an cdv ct) L a).kindOf (Str.ofString "lo") = some .local := by rfl
  have khi : (callEnv (fdB 4 dV kV doc pm an cdv ct) L a).kindOf (Str.ofString "hi") = some .local := by rfl
  have kkey : (callEnv (fdB 4 dV kV doc pm an cdv ct) L a).kindOf (Str.ofString "key") = some .local := by rfl
  have kmid : (callEnv (fdB 4 dV kV doc pm an cdv ct) L a).kindOf (Str.ofString "mid") = some .local := by rfl
  have klen : (callEnv (fdB 4 dV kV doc pm an cdv ct) L a).kindOf (Str.ofString "len") = some .globalImplicit := by rfl
  generalize callEnv (fdB 4 dV kV doc pm an cdv ct) L a = env at K hloc ka kx klo khi kkey kmid klen ⊢
  subst hloc
  -- if lo < 0
  refine wpAny_execs_cons (wp_if (n := n + 4) (b := false) ok (Run.testI (a := 0) (b := 0) (Run.nameR (R := IntR) (v := .int 0 t) K (sees_loc klo hn (by rfl)) ⟨t, rfl⟩ IntR.mono) Run.int) fun s₁ k₁ => ?_)
  simp only [Bool.false_eq_true, if_false]
  refine wpAny_execs_nil ?_
  have e₁ := e.trans (keeps_ext k₁)
  have hn₁ := hn.keeps (keeps_ext k₁)
  -- if hi is None
  refine wpAny_execs_cons (wp_if (n := n + 4) (b := true) ok (Run.testNone true (Run.name K (sees_loc khi hn₁ (by rfl)) fun _ _ => rfl) (.inl ⟨rfl, rfl⟩)) fun s₂ k₂ => ?_)
  simp only [if_true]
  have e₂ := e₁.trans (keeps_ext k₂)
  have hn₂ := hn₁.keeps (keeps_ext k₂)
  refine wpAny_execs_cons (wp_assign (P := fun h v => IntR h v l.length) K.kind khi hn₂ ok (Run.lenOfL K (G.ext e₂) klen TupI.mono (Run.nameR K (sees_loc ka hn₂ (by rfl)) (LstT.mono _ _ _ _ e₂ ha) LstT.mono) hl) fun vh h₁ h₃ tk₃ ph eh hsb hn₃ kb₃ => ?_)
  refine wpAny_execs_nil ?_
  have e₃ := kb₃.ext e₂ hL
  obtain ⟨th, rfl⟩ := ph
  -- if key is None
  refine wpAny_execs_cons (wp_if (n := n + 4) (b := true) ok (Run.testNone true (Run.name K (sees_loc kkey hn₃ (by rfl)) fun _ _ => rfl) (.inl ⟨rfl, rfl⟩)) fun s₄ k₄ => ?_)
  simp only [if_true]
  have kb₄ : KB env.locals s s₄ := (KB.of (keeps_trans k₁ k₂)).trans (kb₃.trans (KB.of k₄))
  have hn₄ := hn₃.keeps (keeps_ext k₄)
  have e₄ := kb₄.ext e hL
  refine wpAny_execs_cons (wpAny_While ?_)
  refine codeAny_whileLoop (fun k s' => ∃ (lo hi : Nat) (t₁ t₂ : Tok) (m : Str → Option Value), lo ≤ hi ∧ hi ≤ l.length ∧ hi - lo ≤ k ∧ bisF k l x lo hi = bisL l x ∧ s'.heap.Ns env.locals m ∧ m "a" = some va ∧ m "x" = some vx ∧ m "lo" = some (.int lo t₁) ∧ m "hi" = some (.int hi t₂) ∧ KB env.locals s s')
    ?_ l.length ⟨0, l.length, t, th, _, Nat.zero_le _, Nat.le_refl _, by omega, rfl, hn₄, by rfl, by rfl, by rfl, by rfl, kb₄⟩
  rintro k s₅ ⟨lo, hi, t₁, t₂, m, h1, h2, h3, h4, hn₅, ma, mx, mlo, mhi, kb₅⟩
  have e₅ := kb₅.ext e hL
  refine (Run.testI (n := n + 4) (a := lo) (b := hi) (Run.nameR (R := IntR) K (sees_loc klo hn₅ mlo) ⟨t₁, rfl⟩ IntR.mono) (Run.nameR (R := IntR) K (sees_loc khi hn₅ mhi) ⟨t₂, rfl⟩ IntR.mono)).use ok (Ext.refl _) fun c s₆ hc k₆ => ?_
  subst hc
  by_cases hlt : lo < hi
  · rw [decide_eq_true (by omega)]
    simp only [if_true]
    obtain ⟨k, rfl⟩ : ∃ j, k = j + 1 := ⟨k - 1, by omega⟩
    have hn₆ := hn₅.keeps (keeps_ext k₆)
    have kb₆ := kb₅.trans (KB.of k₆)
    have e₆ := kb₆.ext e hL
    -- mid
    refine wpAny_execs_cons (wp_assign (P := fun h v => IntR h v (((lo + hi) / 2 : Nat) : Int)) K.kind kmid hn₆ ok ((Run.floordiv (a := lo + hi) (b := 2) (by decide) (by decide) (Run.add (Run.nameR (R := IntR) K (sees_loc klo hn₆ mlo) ⟨t₁, rfl⟩ IntR.mono) (Run.nameR (R := IntR) K (sees_loc khi hn₆ mhi) ⟨t₂, rfl⟩ IntR.mono)) Run.int).mono fun h v _ q => ?_) fun vm h₆ h₇ tk₇ pm' eh₇ hsb₇ hn₇ kb₇ => ?_)
    · obtain ⟨tq, rfl⟩ := q
      refine ⟨tq, ?_⟩
      congr 1
      rw [Int.fdiv_eq_ediv_of_nonneg _ (by omega)]
      omega
    obtain ⟨tm, rfl⟩ := pm'
    have kb₇' := kb₆.trans kb₇
    have e₇ := kb₇'.ext e hL
    -- if a[mid] < x
    refine wpAny_execs_cons (wp_if (n := n + 4) (b := ltL (l.getD ((lo + hi) / 2) []) x) ok (Run.test (P₁ := fun h v => TupI h v (l.getD ((lo + hi) / 2) [])) (P₂ := fun h v => TupI h v x)
      (Run.itemL (k := (((lo + hi) / 2 : Nat) : Int)) TupI.mono (Run.nameR K (sees_loc ka hn₇ (by rw [if_neg (by decide)]; exact ma)) (LstT.mono _ _ _ _ e₇ ha) LstT.mono) (Run.nameR (R := IntR) K (sees_loc kmid hn₇ (by rw [if_pos rfl])) ⟨tm, rfl⟩ IntR.mono) (by omega) (getD_getT (by omega)) hl)
      (Run.nameR K (sees_loc kx hn₇ (by rw [if_neg (by decide)]; exact mx)) (TupI.mono _ _ _ _ e₇ hx) TupI.mono) (fun _ _ _ e p => TupI.mono _ _ _ _ e p) (fun g' x y _ p q => Run.ltT p q)) fun s₈ k₈ => ?_)
    have hn₈ := hn₇.keeps (keeps_ext k₈)
    have kb₈ := kb₇'.trans (KB.of k₈)
    unfold bisF at h4
    rw [if_pos hlt] at h4
    cases hc : ltL (l.getD ((lo + hi) / 2) []) x with
    | true =>
      simp only [if_true]
      rw [if_pos hc] at h4
      refine wpAny_execs_cons (wp_assign (P := fun h v => IntR h v (((lo + hi) / 2 + 1 : Nat) : Int)) K.kind klo hn₈ ok (Run.add (Run.nameR (R := IntR) K (sees_loc kmid hn₈ (by rw [if_pos rfl])) ⟨tm, rfl⟩ IntR.mono) Run.int) fun vq h₉ h₁₀ tk₁₀ pq eh₁₀ hsb₁₀ hn₁₀ kb₁₀ => ?_)
      obtain ⟨tq, rfl⟩ := pq
      refine wpAny_execs_nil (wpAny_execs_nil ⟨k, Nat.lt_succ_self _, (lo + hi) / 2 + 1, hi, tq, t₂, _, by omega, h2, by omega, h4, hn₁₀, ?_, ?_, ?_, ?_, kb₈.trans kb₁₀⟩)
      · rw [if_neg (by decide), if_neg (by decide)]; exact ma
      · rw [if_neg (by decide), if_neg (by decide)]; exact mx
      · rw [if_pos rfl]
      · rw [if_neg (by decide), if_neg (by decide)]; exact mhi
    | false =>
      simp only [Bool.false_eq_true, if_false]
      rw [if_neg (by rw [hc]; decide)] at h4
      refine wpAny_execs_cons (wp_assign (P := fun h v => IntR h v (((lo + hi) / 2 : Nat) : Int)) K.kind khi hn₈ ok (Run.nameR (R := IntR) K (sees_loc kmid hn₈ (by rw [if_pos rfl])) ⟨tm, rfl⟩ IntR.mono) fun vq h₉ h₁₀ tk₁₀ pq eh₁₀ hsb₁₀ hn₁₀ kb₁₀ => ?_)
      obtain ⟨tq, rfl⟩ := pq
      refine wpAny_execs_nil (wpAny_execs_nil ⟨k, Nat.lt_succ_self _, lo, (lo + hi) / 2, t₁, tq, _, by omega, by omega, by omega, h4, hn₁₀, ?_, ?_, ?_, ?_, kb₈.trans kb₁₀⟩)
      · rw [if_neg (by decide), if_neg (by decide)]; exact ma
      · rw [if_neg (by decide), if_neg (by decide)]; exact mx
      · rw [if_neg (by decide), if_neg (by decide)]; exact mlo
      · rw [if_pos rfl]
  · rw [decide_eq_false (by omega)]
    simp only [Bool.false_eq_true, if_false]
    refine wpAny_execs_nil (wpAny_execs_nil ?_)
    have hn₆ := hn₅.keeps (keeps_ext k₆)
    have kb₆ := kb₅.trans (KB.of k₆)
    rw [bisF_end _ _ _ _ _ (by omega)] at h4
    refine wpAny_execs_cons (wpAny_Return_some ((Run.nameR (n := n + 4) (R := IntR) K (sees_loc klo hn₆ mlo) ⟨t₁, rfl⟩ IntR.mono).use ok (Ext.refl _) fun v s₇ pv k₇ => ?_))
    exact ⟨v, rfl, by rw [← h4]; exact pv, kb₆.trans (KB.of k₇)⟩

theorem bisect_spec {a : Addr} {g : Heap} (G : Gd mg mb g) (F : FnB mg g 4 a) {va vx : Value} {l : List (List Int)} {x : List Int} (ha : LstT g va l) (hx : TupI g vx x) (hl : l.length ≤ 1000) :
    Run prog w (n + 5) g (PySem.call (.ref a) [va, vx]) (fun h r => IntR h r (bisL l x)) := by
  obtain ⟨hm, o, dV, kV, doc, pm, an, cdv, ct, t, ho, hd, hc, b2, b4⟩ := F
  exact Run.callB (n := n + 4) G.nolimit ho hd hc rfl (fun s e => b2 s va vx e) (show ∀ x ∈ (fnD 4).scope.names, x.2 ≠ .cell by decide) (locs (by rfl)) fun L A s E ok e hL hn => bisect_body G ha hx hl ok e hL hn
theorem bisect_spec4 {a : Addr} {g : Heap} (G : Gd mg mb g) (F : FnB mg g 4 a) {va vx : Value} {t : Tok} {l : List (List Int)} {x : List Int} (ha : LstT g va l) (hx : TupI g vx x) (hl : l.length ≤ 1000) :
    Run prog w (n + 5) g (PySem.call (.ref a) [va, vx, .int 0 t, .none]) (fun h r => IntR h r (bisL l x)) := by
  obtain ⟨hm, o, dV, kV, doc, pm, an, cdv, ct, t', ho, hd, hc, b2, b4⟩ := F
  exact Run.callB (n := n + 4) G.nolimit ho hd hc rfl (fun s e => b4 s va vx _ _ e) (show ∀ x ∈ (fnD 4).scope.names, x.2 ≠ .cell by decide) (locs (by rfl)) fun L A s E ok e hL hn => bisect_body G ha hx hl ok e hL hn
end
end Mine

namespace Mine


def insL (l : List (List Int)) (x : List Int) : List (List Int) := l.take (bisL l x) ++ x :: l.drop (bisL l x)

section
variable {prog : Program} {w : World} {n : Nat} {mg mb : Str → Option Value}

theorem list_insert0 {A : Around} {s : Shared} {E : Value → Shared → Prop} {la : Addr} {vs : List Value} {ep : Nat} {x : Int} {t : Tok} {y : Value} {Q : Value → Shared → Prop} (ho : s.heap.get? la = some (lstO vs ep)) (hf : Builtin.List.listFitsIndex x = true) (hz : vs.length ≤ sizeLine)
    (h : ∀ h' e', h'.get? la = some (lstO (kl_ins vs x y) e') → (∀ b o, b ≠ la → s.heap.get? b = some o → h'.get? b = some o) → Q .none { s with heap := h' }) :
    wpAny (model prog w) A (call (.builtin "list.insert") [.ref la, .int x t, y]) Q E s := by
  refine call_meets PySem.F.slot_list_insert ⟨_, ho, rfl⟩ PySem.F.entry_list_insert (PySem.F.args_list_insert_3 _ _ _) (PySem.AutoSeq1.list_insert_list_int_val_1 la _ ep x t y (by simp [hf]) (by rw [List.size_toArray]; exact hz)) ⟨ho, h _ _ ((get?_update_seq (c := "list") ho _).trans (congrArg (fun z => some (seqObj "list" z _)) ?_)) fun b o hb e => (Heap.SameBut.update s.heap la _).extBut b o hb e⟩
  show (vs.toArray.extract 0 (if x < 0 then (x + (vs.toArray.size : Int)).toNat else min x.toNat vs.toArray.size)).push y ++ vs.toArray.extract (if x < 0 then (x + (vs.toArray.size : Int)).toNat else min x.toNat vs.toArray.size) = (kl_ins vs x y).toArray
  rw [kl_ins_eq, List.size_toArray]
  rfl
theorem list_insert {A : Around} {s : Shared} {E : Value → Shared → Prop} {la : Addr} {vs : List Value} {ep : Nat} {k : Nat} {t : Tok} {y : Value} {Q : Value → Shared → Prop} (ho : s.heap.get? la = some (lstO vs ep)) (hk : k ≤ vs.length) (hz : vs.length ≤ 1000)
    (h : ∀ h' e', h'.get? la = some (lstO (vs.take k ++ y :: vs.drop k) e') → (∀ b o, b ≠ la → s.heap.get? b = some o → h'.get? b = some o) → Q .none { s with heap := h' }) :
    wpAny (model prog w) A (call (.builtin "list.insert") [.ref la, .int (k : Int) t, y]) Q E s := by
  refine list_insert0 ho (by unfold Builtin.List.listFitsIndex; simp; omega) (by rw [sizeLine_eq]; omega) fun h' e' ho' kp => h h' e' ?_ kp
  rw [ho']
  unfold kl_ins
  rw [if_neg (by omega), show min (k : Int).toNat vs.length = k by omega]

theorem insort_call {a b la : Addr} {g : Heap} (G : Gd mg mb g) (F : FnB mg g 3 a) (F' : FnB mg g 4 b) (hg : g.get? la = none) {vs : List Value} {ep : Nat} {l : List (List Int)} {x : List Int} {vx : Value}
    {A : Around} {s : Shared} {E : Value → Shared → Prop} {Q : Value → Shared → Prop} (ok : AOk (n + 6) A) (e : Ext g s.heap) (ho : s.heap.get? la = some (lstO vs ep)) (hp : Paired (TupI s.heap) vs l) (hx : TupI s.heap vx x) (hl : l.length ≤ 900)
    (h : ∀ h' tk e' vs', h'.get? la = some (lstO vs' e') → Paired (TupI h') vs' (insL l x) → (∀ b o, b ≠ la → s.heap.get? b = some o → h'.get? b = some o) → Q .none { s with heap := h', toks := tk }) :
    wpAny (model prog w) A (call (.ref a) [.ref la, vx]) Q E s := by
  obtain ⟨hm, o, dV, kV, doc, pm, an, cdv, ct, t, hoa, hd, hc, b2, b4⟩ := F
  have ok' := ok.le (show n + 5 + 1 ≤ n + 6 by omega)
  refine wpAny_call (codeAny_call_def ok.room (e _ _ hoa) hd (G.nolimit.keeps e) (hc.keeps e) rfl (b2 s _ _ e) (show ∀ x ∈ (fnD 3).scope.names, x.2 ≠ .cell by decide) (locs (by rfl)) (fun h₁ hns kk => ?_) (by rfl) (by rfl) (by rfl))
  have ok1 := ok'.deeper (callEnv (fdB 3 dV kV doc pm an cdv ct) s.heap.objs.size a)
  have K : EnvOk (callEnv (fdB 3 dV kV doc pm an cdv ct) s.heap.objs.size a) := ⟨by rfl, by rfl, by rfl⟩
  have hloc : (callEnv (fdB 3 dV kV doc pm an cdv ct) s.heap.objs.size a).locals = s.heap.objs.size := by rfl
  have ka : (callEnv (fdB 3 dV kV doc pm an cdv ct) s.heap.objs.size a).kindOf (Str.ofString "a") = some .local := by rfl
  have kx : (callEnv (fdB 3 dV kV doc pm an cdv ct) s.heap.objs.size a).kindOf (Str.ofString "x") = some .local := by rfl
  have klo : (callEnv (fdB 3 dV kV doc pm an cdv ct) s.heap.objs.size a).kindOf (Str.ofString "lo") = some .local := by rfl
  have khi : (callEnv (fdB 3 dV kV doc pm an cdv ct) s.heap.objs.size a).kindOf (Str.ofString "hi") = some .local := by rfl
  have kkey : (callEnv (fdB 3 dV kV doc pm an cdv ct) s.heap.objs.size a).kindOf (Str.ofString "key") = some .local := by rfl
  have kb : (callEnv (fdB 3 dV kV doc pm an cdv ct) s.heap.objs.size a).kindOf (Str.ofString "bisect_left") = some .globalImplicit := by rfl
  have hLs : s.heap.get? s.heap.objs.size = none := fresh_none
  have hint : interactive (callEnv (fdB 3 dV kV doc pm an cdv ct) s.heap.objs.size a) = false := by rfl
  show wpAny _ _ (execs (fnD 3).body _) _ _ _
  generalize callEnv (fdB 3 dV kV doc pm an cdv ct) s.heap.objs.size a = env at K hloc ka kx klo khi kkey kb hint ok1 ⊢
  have hLa : la ≠ env.locals := by rw [hloc]; exact Nat.ne_of_lt (Heap.lt_size ho)
  rw [← hloc] at hns hLs
  -- if key is None
  refine wpAny_execs_cons (wp_if (n := n + 5) (b := true) ok1 (Run.testNone true (Run.name K (sees_loc kkey hns (by rfl)) fun _ _ => rfl) (.inl ⟨rfl, rfl⟩)) fun s₂ k₂ => ?_)
  simp only [if_true]
  obtain ⟨h₂, t₂, rfl, kk₂⟩ := k₂
  dsimp only at kk₂ hns
  have es : Ext s.heap h₂ := Ext.trans kk kk₂
  have e₂ : Ext g h₂ := e.trans es
  have hns₂ := hns.keeps kk₂
  have hla₂ : LstT h₂ (.ref la) l := ⟨la, vs, ep, rfl, es _ _ ho, paired_mono (fun a b r => TupI.mono _ _ _ _ es r) hp⟩
  have hx₂ := TupI.mono _ _ _ _ es hx
  refine wpAny_execs_cons (wp_assign (n := n + 5) (P := fun h v => IntR h v (bisL l x)) K.kind klo hns₂ ok1 ?_ fun v h₃ h₄ tk₄ pv e₃ hsb hns₄ kb₄ => ?_)
  · refine Run.call (f := .ref b) (Run.glob K (G.ext e₂) F'.1 kb) (.inr (.inr (by
      obtain ⟨_, o, dV, kV, doc, pm, an, cdv, ct, t, hob, hdb, _⟩ := F'.ext e₂
      exact ⟨_, o, _, rfl, hob, hdb⟩))) (Run.cons (Run.name (P := fun _ v => v = .ref la) K (sees_loc ka hns₂ (by rfl)) fun _ _ => rfl) (fun _ _ _ _ p => p) (Run.cons (Run.name (P := fun _ v => v = vx) K (sees_loc kx hns₂ (by rfl)) fun _ _ => rfl) (fun _ _ _ _ p => p)
        (Run.cons (Run.name (P := fun _ v => v = .int 0 t) K (sees_loc klo hns₂ (by rfl)) fun _ _ => rfl) (fun _ _ _ _ p => p) (Run.cons (Run.name (P := fun _ v => v = .none) K (sees_loc khi hns₂ (by rfl)) fun _ _ => rfl) (fun _ _ _ _ p => p) Run.nil)))) (fun g' ws eg p => ?_)
    obtain ⟨v1, r1, rfl, p1, v2, r2, rfl, p2, v3, r3, rfl, p3, v4, r4, rfl, p4, p5⟩ := p
    have q1 : v1 = _ := p1
    have q2 : v2 = _ := p2
    have q3 : v3 = _ := p3
    have q4 : v4 = _ := p4
    have q5 : r4 = [] := p5
    subst q1 q2 q3 q4 q5
    exact bisect_spec4 ((G.ext e₂).ext eg) ((F'.ext e₂).ext eg) (LstT.mono _ _ _ _ eg hla₂) (TupI.mono _ _ _ _ eg hx₂) (by omega)
  refine wpAny_execs_nil ?_
  obtain ⟨tk5, rfl⟩ := pv
  -- a.insert(lo, x)
  have hk4 : ∀ c o, c ≠ env.locals → s.heap.get? c = some o → h₄.get? c = some o := fun c o hc q => hsb.extBut c o hc (e₃ c o (es c o q))
  have ho₄ : h₄.get? la = some (lstO vs ep) := hk4 la _ hLa ho
  have hlv : vs.length = l.length := paired_len hp
  have tx : TExt s.heap h₄ := by
    obtain ⟨oL, heL, hLn⟩ := ns_no_tup (hns₂.keeps e₃)
    exact (TExt.of es).trans ((TExt.of e₃).trans (TExt.but heL hLn hsb.extBut))
  have ma : (if (Str.ofString "a" : Str) = Str.ofString "lo" then some (Value.int (bisL l x) tk5) else List.lookup (Str.ofString "a") (List.reverse [(Str.ofString "a", Value.ref la), (Str.ofString "x", vx), (Str.ofString "lo", Value.int 0 t), (Str.ofString "hi", Value.none), (Str.ofString "key", Value.none)])) = some (.ref la) := by rfl
  refine wpAny_execs_cons (wpAny_Expr ?_ hint (by rfl))
  refine MethodCall_ (pl := (do return (← importBound (.Name (Str.ofString "a") _) env).getD true)) ?_ (by rfl)
  refine (Run.name (n := n + 5) (P := fun _ v => v = .ref la) K (sees_loc ka hns₄ ma) fun _ _ => rfl).use ok1 (Ext.refl _) fun v s₅ hv k₅ => ?_
  subst hv
  obtain ⟨h₅, t₅, rfl, kk₅⟩ := k₅
  have ho₅ := kk₅ _ _ ho₄
  have hns₅ := hns₄.keeps kk₅
  refine getMethod_list_of PySem.F.slot_list_insert PySem.F.type_list_insert ⟨_, ho₅, rfl, ep, rfl⟩ ⟨_, ho₅, rfl⟩ ?_
  refine callWith_method1 ?_ (by rfl) (by rfl)
  refine (Run.cons (n := n + 5) (g := h₅) (Run.name (P := fun _ v => v = .int (bisL l x) tk5) K (sees_loc klo hns₅ (by rw [if_pos rfl])) fun _ _ => rfl) (fun _ _ _ _ p => p)
    (Run.cons (Run.name (P := fun _ v => v = vx) K (sees_loc kx hns₅ (by rw [if_neg (by decide)]; rfl)) fun _ _ => rfl) (fun _ _ _ _ p => p) Run.nil)).use ok1 (Ext.refl _) fun ws s₆ p k₆ => ?_
  obtain ⟨v1, r1, rfl, p1, v2, r2, rfl, p2, p3⟩ := p
  have q1 : v1 = _ := p1
  have q2 : v2 = _ := p2
  have q3 : r2 = [] := p3
  subst q1 q2 q3
  obtain ⟨h₆, t₆, rfl, kk₆⟩ := k₆
  have hbl := bisL_le l x
  refine list_insert (k := bisL l x) (kk₆ _ _ ho₅) (by omega) (by omega) fun h₇ e' ho₇ k₇ => ?_
  dsimp only
  have tx₇ : TExt s.heap h₇ := tx.trans ((TExt.of kk₅).trans ((TExt.of kk₆).trans (TExt.but (kk₆ _ _ ho₅) lst_no_tup k₇)))
  have hp₇ := paired_mono (fun a b r => TupI.t _ _ a b tx₇ r) hp
  refine wpAny_execs_nil ?_
  refine h h₇ _ e' _ ho₇ (paired_append (paired_take _ hp₇) (.cons (TupI.t _ _ _ _ tx₇ hx) (paired_drop _ hp₇))) fun c o hc q => ?_
  refine k₇ c o hc (kk₆ c o (kk₅ c o (hk4 c o (fun z => ?_) q)))
  rw [z, hLs] at q
  cases q
end
end Mine

namespace Mine


/-- all that was there but X stands -/
def KX (X : List Addr) (s s' : Shared) : Prop := ∃ h' tk, s' = { s with heap := h', toks := tk } ∧ ∀ b o, b ∉ X → s.heap.get? b = some o → h'.get? b = some o
theorem KX.refl (X : List Addr) (s : Shared) : KX X s s := ⟨s.heap, s.toks, rfl, fun _ _ _ e => e⟩
theorem KX.trans {X : List Addr} {a b c : Shared} (x : KX X a b) (y : KX X b c) : KX X a c := by
  obtain ⟨h1, t1, rfl, k1⟩ := x
  obtain ⟨h2, t2, rfl, k2⟩ := y
  exact ⟨h2, t2, rfl, fun b o n e => k2 b o n (k1 b o n e)⟩
theorem KX.of {X : List Addr} {a b : Shared} (x : Keeps a b) : KX X a b := by
  obtain ⟨h1, t1, rfl, k1⟩ := x
  exact ⟨h1, t1, rfl, fun b o _ e => k1 b o e⟩
theorem KX.ofB {X : List Addr} {L : Addr} {a b : Shared} (x : KB L a b) (hL : L ∈ X) : KX X a b := by
  obtain ⟨h1, t1, rfl, k1⟩ := x
  exact ⟨h1, t1, rfl, fun b o hb e => k1 b o (fun z => hb (z ▸ hL)) e⟩
theorem KX.toB {L : Addr} {a b : Shared} (x : KX [L] a b) : KB L a b := by
  obtain ⟨h1, t1, rfl, k1⟩ := x
  exact ⟨h1, t1, rfl, fun b o hb e => k1 b o (by simpa using hb) e⟩
theorem KX.get {X : List Addr} {a b : Shared} (x : KX X a b) {c : Addr} {o : Obj} (hc : c ∉ X) (e : a.heap.get? c = some o) : b.heap.get? c = some o := by
  obtain ⟨h1, t1, rfl, k1⟩ := x
  exact k1 c o hc e
theorem KX.ext {X : List Addr} {g : Heap} {a b : Shared} (x : KX X a b) (e : Ext g a.heap) (hX : ∀ c ∈ X, g.get? c = none) : Ext g b.heap := fun q o he => x.get (fun z => by rw [hX q z] at he; cases he) (e q o he)
theorem KX.text {X : List Addr} {g : Heap} {a b : Shared} (x : KX X a b) (e : Ext g a.heap) (hX : ∀ c ∈ X, ∃ o, g.get? c = some o ∧ ∀ vs n, o ≠ tupO vs n) : TExt g b.heap := fun q vs n he => x.get (fun z => by
  obtain ⟨o, ho, hn⟩ := hX q z
  rw [he] at ho
  exact hn vs n (Option.some.inj ho).symm) (e q _ he)
theorem KX.sub {X Y : List Addr} {a b : Shared} (x : KX X a b) (h : ∀ c ∈ X, c ∈ Y) : KX Y a b := by
  obtain ⟨h1, t1, rfl, k1⟩ := x
  exact ⟨h1, t1, rfl, fun b o hb e => k1 b o (fun z => hb (h b z)) e⟩
/-- what is new in between may be forgotten -/
theorem KX.forget {X Y : List Addr} {a b c : Shared} (x : KX X a b) (y : KX Y b c) (h : ∀ d ∈ Y, d ∈ X ∨ a.heap.get? d = none) : KX X a c := by
  obtain ⟨h1, t1, rfl, k1⟩ := x
  obtain ⟨h2, t2, rfl, k2⟩ := y
  exact ⟨h2, t2, rfl, fun b o hb e => k2 b o (fun z => by
    rcases h b z with q | q
    · exact hb q
    · rw [q] at e; cases e) (k1 b o hb e)⟩

section
variable {prog : Program} {w : World} {n : Nat} {env : Env} {A : Around} {s : Shared} {E : Value → Shared → Prop} {Q : Flow → Shared → Prop} {pos : Pos} {α : Type} {R : RelH α} {xs : List α}

theorem wp_for {target iter : Expr} {body : List Stmt} (X : List Addr) (Inv : Nat → Shared → Prop) (a : AOk n A) (hR : TMono R)
    (src : Run prog w n s.heap (eval iter env) (fun h v => Iters prog w h v R xs ∧ ∀ b ∈ X, v ≠ .ref b))
    (hX : ∀ c ∈ X, ∃ o, s.heap.get? c = some o ∧ ∀ vs n, o ≠ tupO vs n)
    (h0 : ∀ s₁, Keeps s s₁ → Inv 0 s₁)
    (stab : ∀ i I s₁ s₂, s.heap.get? I = none → (∃ o, s₁.heap.get? I = some o ∧ ∀ vs k, o ≠ tupO vs k) → KX X s s₁ → Inv i s₁ → KX [I] s₁ s₂ → Inv i s₂)
    (turn : ∀ i v y s₁ (E' : Value → Shared → Prop), xs[i]? = some y → R s₁.heap v y → Inv i s₁ → KX X s s₁ → wpAny (model prog w) A (assign target env v) (fun _ s₂ => wpAny (model prog w) A (execs body env) (fun fl s₃ => match fl with
      | .next | .cont => Inv (i + 1) s₃ ∧ KX X s₁ s₃
      | .brk => False
      | .ret v => Q (.ret v) s₃) E' s₂) E' s₁)
    (done : ∀ s', Inv xs.length s' → KX X s s' → Q .next s')
    (ht : ∀ it v, letOwnedTupleGo target it v = pure () := by intro _ _; rfl) (hs : ∀ x, foldedSetIterable iter env x = pure x := by intro _; rfl) :
    wpAny (model prog w) A (exec (.For target iter body [] pos) env) Q E s := by
  refine wpAny_For (src.use a (Ext.refl _) fun xv s₁ ⟨it, hxv⟩ k₁ => ?_) hs
  obtain ⟨h₁, t₁, rfl, kk₁⟩ := k₁
  refine it A _ _ _ a.hh (Ext.refl _) fun I fp P St h₂ Wk st e₂ hI hIo hfp hIo' hP hfx => ?_
  dsimp only at e₂ hI hIo hfp hP st ⊢
  have hIs : s.heap.get? I = none := by
    cases q : s.heap.get? I with
    | none => rfl
    | some o => rw [kk₁ _ _ q] at hI; cases hI
  have hIX : I ∉ X := fun z => by obtain ⟨o, ho, _⟩ := hX I z; rw [hIs] at ho; cases ho
  have hfX : ∀ b ∈ fp, b ∉ X := fun b hb z => by
    rcases hfx b hb with rfl | e
    · exact hIX z
    · exact hxv b z e
  have hX₁ : ∀ c ∈ X, ∃ o, h₁.get? c = some o ∧ ∀ vs n, o ≠ tupO vs n := fun c hc => let ⟨o, ho, hn⟩ := hX c hc; ⟨o, kk₁ _ _ ho, hn⟩
  refine codeAny_forLoop (ht := ht _) (fun k s' => ∃ i, i ≤ xs.length ∧ k = xs.length + 1 - i ∧ St i s'.heap ∧ KX X { s with heap := h₁, toks := t₁ } s' ∧ Inv i s') ?_ (xs.length + 1) ⟨0, Nat.zero_le _, rfl, st, KX.of ⟨h₂, t₁, rfl, e₂⟩, h0 _ ⟨h₂, t₁, rfl, fun b o e => e₂ b o (kk₁ b o e)⟩⟩
  rintro k s' ⟨i, hi, rfl, st', kx', inv'⟩
  have kxs : KX X s s' := (KX.of ⟨h₁, t₁, rfl, kk₁⟩).trans kx'
  by_cases hlt : i < xs.length
  · refine Wk.item i _ _ _ hlt st' fun v h₃ tk₃ hPv st₃ k₃ => ?_
    have hy : xs[i]? = some xs[i] := by simp [hlt]
    have kI : KX [I] s' { s' with heap := h₃, toks := tk₃ } := ⟨h₃, tk₃, rfl, fun b o hb e => k₃ b o hb e⟩
    have kxs₃ : KX X s { s' with heap := h₃, toks := tk₃ } := kxs.forget kI fun d hd => .inr (by rw [List.mem_singleton.mp hd]; exact hIs)
    have inv₃ : Inv i { s' with heap := h₃, toks := tk₃ } := stab i I s' _ hIs (hIo' _ _ st') kxs inv' kI
    have t₃ : TExt h₁ h₃ := by
      have q : KX X { s with heap := h₁, toks := t₁ } { s' with heap := h₃, toks := tk₃ } := kx'.forget kI fun d hd => .inr (by rw [List.mem_singleton.mp hd]; exact hI)
      exact q.text (Ext.refl _) hX₁
    refine wpAny_mono (turn i v xs[i] _ _ hy (hR _ _ _ _ t₃ (hP i v _ hPv hy)) inv₃ kxs₃) (fun _ s₄ h₄ => wpAny_mono h₄ (fun fl s₅ h₅ => ?_) fun _ _ e => e) fun _ _ e => e
    have fin : Inv (i + 1) s₅ ∧ KX X { s' with heap := h₃, toks := tk₃ } s₅ → ∃ m, m < xs.length + 1 - i ∧ ∃ i, i ≤ xs.length ∧ m = xs.length + 1 - i ∧ St i s₅.heap ∧ KX X { s with heap := h₁, toks := t₁ } s₅ ∧ Inv i s₅ := by
      rintro ⟨inv₅, kx₅⟩
      refine ⟨xs.length + 1 - (i + 1), by omega, i + 1, hlt, rfl, Wk.frame _ _ _ st₃ fun b hb o e => kx₅.get (hfX b hb) e, ?_, inv₅⟩
      exact (kx'.forget kI fun d hd => .inr (by rw [List.mem_singleton.mp hd]; exact hI)).trans kx₅
    cases fl with
    | next => exact fin h₅
    | cont => exact fin h₅
    | brk => exact h₅.elim
    | ret v => exact h₅
  · have hin : i = xs.length := by omega
    subst hin
    refine Wk.done _ _ _ st' fun h₃ tk₃ k₃ => wpAny_execs_nil ?_
    have kI : KX [I] s' { s' with heap := h₃, toks := tk₃ } := ⟨h₃, tk₃, rfl, fun b o hb e => k₃ b o hb e⟩
    exact done _ (stab _ I s' _ hIs (hIo' _ _ st') kxs inv' kI) (kxs.forget kI fun d hd => .inr (by rw [List.mem_singleton.mp hd]; exact hIs))
end
end Mine

namespace Mine

open PySem.Sem (wp)

/-- the builtins that a bytearray asks the stack for -/
def heldIds : List String := ["bytearray.__contains__", "bytearray.__mod__", "bytearray.__rmod__", "_struct.pack_into.held", "bytearray.find.held"] ++ PySem.Builtin.Bytes.decodersThatHold
def okC : Code → Bool
  | .builtin id _ => !heldIds.contains id
  | _ => true
def OkL (l : List (Code × Pos)) : Prop := ∀ x ∈ l, okC x.1 = true

/-- as wpAny, of the stacks that hold none of these builtins -/
def wpC {α : Type} (M : Model) (A : Around) (t : Sem α) (Q : α → Shared → Prop) (E : Value → Shared → Prop) (s : Shared) : Prop :=
  ∀ Γ p, Γ.In A → okC Γ.code = true → OkL Γ.below → wp M Γ t (fun a _ s' => Q a s') (fun e _ s' => E e s') p s
def codeC (M : Model) (A : Around) (c : Code) (R : Result → Shared → Prop) (s : Shared) : Prop :=
  ∀ Γ p, Γ.code = c → Γ.Below A → OkL Γ.below → wpCode M Γ R p s

section
variable {α β : Type} {M : Model} {A : Around} {E : Value → Shared → Prop} {s : Shared}
theorem wpC_of {t : Sem α} {Q : α → Shared → Prop} (h : wpAny M A t Q E s) : wpC M A t Q E s := fun Γ p hΓ _ _ => h Γ p hΓ
theorem codeC_of {c : Code} {R : Result → Shared → Prop} (h : codeAny M A c R s) : codeC M A c R s := fun Γ p hc hΓ _ => h Γ p hc hΓ
theorem wpC_mono {t : Sem α} {Q Q' : α → Shared → Prop} {E' : Value → Shared → Prop} (h : wpC M A t Q E s)
    (hQ : ∀ a s, Q a s → Q' a s) (hE : ∀ e s, E e s → E' e s) : wpC M A t Q' E' s :=
  fun Γ p hΓ h1 h2 => Sem.wp_mono M Γ t (fun a _ s => hQ a s) (fun e _ s => hE e s) p s (h Γ p hΓ h1 h2)
theorem wpC_bind {m : Sem α} {f : α → Sem β} {Q : β → Shared → Prop} (h : wpC M A m (fun a s' => wpC M A (f a) Q E s') E s) :
    wpC M A (m >>= f) Q E s := fun Γ p hΓ h1 h2 => by
  rw [Sem.wp_bind']
  exact Sem.wp_mono M Γ m (fun a p' s' h' => h' Γ p' hΓ h1 h2) (fun _ _ _ h' => h') p s (h Γ p hΓ h1 h2)
/-- the first part on any stack -/
theorem wpC_bindA {m : Sem α} {f : α → Sem β} {Q : β → Shared → Prop} (h : wpAny M A m (fun a s' => wpC M A (f a) Q E s') E s) :
    wpC M A (m >>= f) Q E s := wpC_bind (wpC_of h)
theorem wpC_pure {a : α} {Q : α → Shared → Prop} (h : Q a s) : wpC M A (pure a) Q E s := fun _ _ _ _ _ => h
theorem wpC_onRaise {m : Sem α} {k : Value → Sem Unit} {Q : α → Shared → Prop}
    (h : wpC M A m Q (fun e s' => wpAny M A (k e) (fun _ s'' => E e s'') E s') s) : wpC M A (m.onRaise k) Q E s := fun Γ p hΓ h1 h2 => by
  rw [Sem.wp_onRaise]
  exact Sem.wp_mono M Γ m (fun _ _ _ h' => h') (fun e p' s' h' => h' Γ p' hΓ) p s (h Γ p hΓ h1 h2)
theorem wpC_holding {vs : List Value} {m : Sem α} {Q : α → Shared → Prop} (h : wpC M A m Q E s) : wpC M A (holding vs m) Q E s :=
  fun Γ p hΓ h1 h2 => by rw [Sem.wp_holding]; exact h Γ p hΓ h1 h2
theorem wpC_of_eq {t : Sem α} {a : α} {Q : α → Shared → Prop} (he : t = pure a) (h : Q a s) : wpC M A t Q E s := by subst he; exact wpC_pure h

theorem codeC_mono {c : Code} {R R' : Result → Shared → Prop} (h : codeC M A c R s) (hR : ∀ r s, R r s → R' r s) : codeC M A c R' s :=
  fun Γ p hc hΓ h2 => wpCode_mono hR (h Γ p hc hΓ h2)
theorem wpC_run {c : Code} {h : Option Value} {Q : Flow → Shared → Prop}
    (hc : codeC M (A.mark h) c (fun r s' => match r with | .ok f => Q f s' | .error e => E e s') s) (hnb : h ≠ some byPass := by intro x; cases x) :
    wpC M A (run c h) Q E s :=
  fun Γ p hΓ h1 h2 => by rw [Sem.wp_run]; exact hc _ p rfl (hΓ.enter c h p hnb) (List.forall_mem_cons.mpr ⟨h1, h2⟩)
theorem wpC_runValue {c : Code} {Q : Value → Shared → Prop}
    (hc : codeC M A c (fun r s' => match r with | .ok (.ret v) => Q v s' | .ok _ => False | .error e => E e s') s) :
    wpC M A (runValue c) Q E s := fun Γ p hΓ h1 h2 => by rw [Sem.wp_runValue]; exact hc _ p rfl (hΓ.enter c none p (by intro x; cases x)) (List.forall_mem_cons.mpr ⟨h1, h2⟩)
theorem wpC_call {f : Value} {pos : List Value} {kw : List (Str × Value)} {Q : Value → Shared → Prop}
    (hc : codeC M A (.call f ⟨pos, kw⟩) (fun r s' => match r with | .ok (.ret v) => Q v s' | .ok _ => False | .error e => E e s') s) :
    wpC M A (PySem.call f pos kw) Q E s := wpC_runValue hc

theorem codeC_of_tree {c : Code} {R : Result → Shared → Prop} (hc : okC c = true)
    (h : wpC M (A.under c) (M.den c) (fun fin s' => match fin with | .done f => R (.ok f) s' | .again c' => c'.quiet = true ∧ codeC M A c' R s')
      (fun e s' => R (.error e) s') s) : codeC M A c R s := fun Γ p hg hΓ h2 => by
  rw [wpCode_iff_wp, hg]
  refine Sem.wp_mono M Γ _ (fun fin p' s' h' => ?_) (fun _ _ _ h' => h') p s (h Γ p (hg ▸ hΓ.in) (by rw [hg]; exact hc) h2)
  cases fin with
  | done f => exact h'
  | again c' => exact ⟨h'.1, h'.2 (Γ.goto c') p' rfl (hΓ.goto c') h2⟩

theorem codeC_loop {c : Code} {R : Result → Shared → Prop} (hq : c.quiet = true) (hc : okC c = true) (I : Nat → Shared → Prop)
    (turn : ∀ n s, I n s → wpC M (A.under c) (M.den c)
      (fun fin s' => match fin with
        | .done f => R (.ok f) s'
        | .again c' => (c' = c ∧ ∃ m, m < n ∧ I m s') ∨ (c'.quiet = true ∧ codeC M A c' R s')) (fun e s' => R (.error e) s') s)
    (n : Nat) (h : I n s) : codeC M A c R s := by
  induction n using Nat.strongRecOn generalizing s with
  | ind n ih =>
    refine codeC_of_tree hc (wpC_mono (turn n s h) (fun fin s' hf => ?_) fun _ _ h' => h')
    cases fin with
    | done f => exact hf
    | again c' =>
      rcases hf with ⟨rfl, m, hm, hI⟩ | hf
      · exact ⟨hq, ih m hm hI⟩
      · exact hf

theorem exported_false {self : Value} {Q : Bool → Shared → Prop} (h : Q false s) : wpC M A (PySem.Builtin.Bytes.exported self) Q E s := fun Γ p hΓ h1 h2 => by
  unfold PySem.Builtin.Bytes.exported
  show Q (((Γ.code, p) :: Γ.below).any _) s
  have e : ∀ (f : Code × Pos → Bool), (∀ x, okC x.1 = true → f x = false) → ((Γ.code, p) :: Γ.below).any f = false := fun f hf => by
    rw [List.any_eq_false]
    intro x hx
    rcases List.mem_cons.mp hx with rfl | hx
    · rw [hf _ h1]; exact Bool.false_ne_true
    · rw [hf _ (h2 x hx)]; exact Bool.false_ne_true
  rw [e _ ?_]
  · exact h
  rintro ⟨c, q⟩ ok
  dsimp only at ok ⊢
  split
  all_goals first
    | rfl
    | (rename_i heq; obtain ⟨rfl, rfl⟩ := Prod.mk.inj heq; exfalso; simp [okC, heldIds] at ok; done)
    | (rename_i heq; obtain ⟨rfl, rfl⟩ := Prod.mk.inj heq; simp only [okC, heldIds, Bool.not_eq_true'] at ok
       have ok2 := (Bool.or_eq_false_iff.mp ((List.contains_append ..).symm.trans ok)).2
       rw [ok2, Bool.and_false])
end
end Mine

namespace Mine


section
variable {M : Model} {A : Around} {E : Value → Shared → Prop} {s : Shared} {env : Env}

theorem wpC_execs_cons {st rest} {Q : Flow → Shared → Prop}
    (h : wpC M A (exec st env) (fun f s' => match f with | .next => wpC M A (execs rest env) Q E s' | f => Q f s') E s) :
    wpC M A (execs (st :: rest) env) Q E s := by
  rw [execs_cons]
  refine wpC_bind (wpC_mono h (fun f s' h' => ?_) fun _ _ e => e)
  cases f <;> first | exact h' | exact wpC_pure h'
/-- a statement walked on any stack -/
theorem wpC_execs_any {st rest} {Q : Flow → Shared → Prop}
    (h : wpAny M A (exec st env) (fun f s' => match f with | .next => wpC M A (execs rest env) Q E s' | f => Q f s') E s) :
    wpC M A (execs (st :: rest) env) Q E s := wpC_execs_cons (wpC_of h)
theorem wpC_If {test body orelse pos} {Q : Flow → Shared → Prop}
    (h : wpC M A (isTrue test env (eval test env)) (fun b s₂ => if b then wpC M A (execs body env) Q E s₂ else wpC M A (execs orelse env) Q E s₂) E s) :
    wpC M A (exec (.If test body orelse pos) env) Q E s := by
  rw [exec_If]
  refine wpC_bindA (wpAny_standAt (wpC_bind (wpC_mono h (fun b s₂ h₂ => ?_) fun _ _ e => e)))
  cases b <;> exact h₂
theorem wpC_Assign_Name {x pos' value pos} {Q : Flow → Shared → Prop}
    (h : wpC M A (eval value env) (fun v s₁ => wpAny M A (storeName env x v) (fun _ => Q .next) E s₁) E s)
    (hs : swapsWith value (some (.Name x pos')) pos.line env = pure false := by rfl) :
    wpC M A (exec (.Assign [.Name x pos'] value pos) env) Q E s := by
  rw [exec_Assign_Name env x pos' value pos hs]
  refine wpC_bindA (wpAny_standAt (wpC_bind (wpC_mono h (fun v s₁ h₁ => ?_) fun _ _ e => e)))
  exact wpC_of (wpAny_bind (wpAny_standAt (wpAny_bind (wpAny_bindName (wpAny_mono h₁ (fun _ _ q => wpAny_pure q) fun _ _ e => e)))))
theorem wpC_isTrue_and {x rest pos whole} {Q : Bool → Shared → Prop}
    (h : wpC M A (isTrue x env (eval x env)) (fun c s' => if c then wpC M A (isTrue (.BoolOp .And rest pos) env whole) Q E s' else Q false s') E s) :
    wpC M A (isTrue (.BoolOp .And (x :: rest) pos) env whole) Q E s := by
  show wpC M A (do
    match BoolOp.And, ← isTrue x env (eval x env) with
    | .And, false => pure false
    | .Or, true => pure true
    | _, _ => allTrue .And rest env) Q E s
  refine wpC_bind (wpC_mono h (fun c s' h' => ?_) fun _ _ x => x)
  cases c with
  | false => exact wpC_pure h'
  | true => exact h'
/-- one comparison, the left side over wpC -/
theorem wpC_isTrue_Compare1 {l op r pos whole} {Q : Bool → Shared → Prop}
    (h : wpC M A (eval l env) (fun a s₁ => wpAny M A (eval r env) (fun b s₂ => wpAny M A (compareOp op a b)
      (fun c s₃ => wpAny M A (truthy c) Q E s₃) E s₂) E s₁) E s)
    (hm : behindInMarks op r = false := by with_unfolding_all rfl) : wpC M A (isTrue (.Compare l [op] [r] pos) env whole) Q E s := by
  rw [isTrue_Compare1, markedBehindIn_of_false hm]
  refine wpC_bind (wpC_mono h (fun a s₁ h₁ => wpC_of ?_) fun _ _ e => e)
  refine wpAny_bind (wpAny_holding (wpAny_mono h₁ (fun b s₂ h₂ => wpAny_bind (wpAny_standAt (wpAny_bind ?_))) fun _ _ e => e))
  exact fun Γ p hΓ => by
    rw [Sem.wp_operate]
    exact Sem.wp_mono _ _ _ (fun c p' s₃ h₃ => wpAny_holding h₃) (fun _ _ _ e => e) _ _ (h₂ Γ p hΓ)
theorem wpC_keep {α : Type} {vs : List Value} {m : Sem α} {Q : α → Shared → Prop} (h : wpC M A m Q E s) : wpC M A (m.keep vs) Q E s :=
  fun Γ p hΓ a b => by rw [Sem.wp_keep]; exact h Γ p hΓ a b
theorem wpC_ite {α : Type} {c : Prop} [Decidable c] {a b : Sem α} {Q : α → Shared → Prop} (h : if c then wpC M A a Q E s else wpC M A b Q E s) :
    wpC M A (if c then a else b) Q E s := by split <;> simp_all
theorem wpC_pointed {t : Sem Value} {Q : Value → Shared → Prop} (h : wpC M A t Q E s) : wpC M A (t >>= fun r => holding [r] point >>= fun _ => Pure.pure r) Q E s :=
  wpC_bind (wpC_mono h (fun r s₂ hr => wpC_of (wpAny_bind (wpAny_holding (wpAny_point (wpAny_pure hr))))) fun _ _ x => x)
/-- the call of a type, the call itself over wpC -/
theorem wpC_callWith_type {pos : Pos} {T : String} {e : Expr} {rest : List Expr} {Q : Value → Shared → Prop}
    (h : wpAny M A (spliced (backTo pos (starEach (e :: rest) env))) (fun vs s₁ => wpC M A (PySem.call (.type T) vs) Q E s₁) E s)
    (he : starEach (e :: rest) env = (false, eval e env) :: starEach rest env := by rfl)
    (hplain : (backTo pos (starEach rest env)).any (·.1) = false := by rfl) :
    wpC M A (callWith pos (.type T) [] (backTo pos (starEach (e :: rest) env)) []) Q E s := by
  rw [he] at h ⊢
  have hp : (backTo pos ((false, eval e env) :: starEach rest env)).any (·.1) = false := by show (false || (backTo pos (starEach rest env)).any (·.1)) = false; rw [hplain]; rfl
  unfold callWith
  refine wpC_bindA (wpAny_holding (Calls.evalArgs_plain (wpAny_mono h (fun vs s₁ h₁ => ?_) fun _ _ x => x)))
  refine wpC_bindA (wpAny_standAt ?_)
  simp only [hp, List.any_nil, Bool.or_false]
  refine wpC_bindA (wpAny_pure ?_)
  exact wpC_pointed h₁
/-- the call of a def, the call itself over wpC -/
theorem wpC_callWith_def {pos : Pos} {f : Addr} {o : Obj} {fd : FuncData} {e : Expr} {rest : List Expr} {Q : Value → Shared → Prop} (hd : o.data = .func fd)
    (h : wpAny M A (spliced (backTo pos (starEach (e :: rest) env))) (fun vs s₁ => s₁.heap.get? f = some o ∧ wpC M A (PySem.call (.ref f) vs) Q E s₁) E s)
    (he : starEach (e :: rest) env = (false, eval e env) :: starEach rest env := by rfl)
    (hplain : (backTo pos (starEach rest env)).any (·.1) = false := by rfl) :
    wpC M A (callWith pos (.ref f) [] (backTo pos (starEach (e :: rest) env)) []) Q E s := by
  rw [he] at h ⊢
  have hp : (backTo pos ((false, eval e env) :: starEach rest env)).any (·.1) = false := by show (false || (backTo pos (starEach rest env)).any (·.1)) = false; rw [hplain]; rfl
  unfold callWith
  refine wpC_bindA (wpAny_holding (Calls.evalArgs_plain (wpAny_mono h (fun vs s₁ h₁ => ?_) fun _ _ x => x)))
  refine wpC_bindA (wpAny_standAt ?_)
  simp only [hp, List.any_nil, Bool.or_false]
  refine wpC_bindA (m := keeperOf (.ref f)) ?_
  unfold keeperOf
  refine wpAny_bind (wpAny_load h₁.1 ?_)
  rw [hd]
  refine wpAny_pure ?_
  refine wpC_ite ?_
  split
  · exact wpC_pointed h₁.2
  · exact wpC_pointed (by unfold callMarked; exact wpC_keep h₁.2)
theorem wpC_Call {id : Str} {p pos : Pos} {args : List Expr} {Q : Value → Shared → Prop}
    (h : wpAny M A (eval (.Name id p) env) (fun f s₁ => wpC M A (callWith pos f [] (backTo pos (starEach args env)) []) Q E s₁) E s) :
    wpC M A (eval (.Call (.Name id p) args [] pos) env) Q E s := by
  show wpC M A (do callWith pos (← eval (.Name id p) env) [] (backTo pos (starEach args env)) (backToKw pos (keywordEach [] env))) Q E s
  exact wpC_bindA h
theorem wpC_runOwn {c : Code} {h : Option Value} {Q : Flow → Shared → Prop}
    (hc : codeC M (A.mark h) c (fun r s' => match r with | .ok f => Q f s' | .error e => cameBackBy M A env E e s') s) (hnb : h ≠ some byPass := by intro x; cases x) :
    wpC M A (runOwn c env h) Q E s := by
  unfold runOwn
  exact wpC_onRaise (wpC_run hc hnb)
theorem wpC_For {target iter body orelse pos} {Q : Flow → Shared → Prop}
    (h : wpAny M A (eval iter env) (fun x s₁ => wpAny M A (pyIter x) (fun it s₂ =>
      codeC M A (.forLoop target it body orelse env) (fun r s' => match r with | .ok f => Q f s' | .error e => cameBackBy M A env E e s') s₂) E s₁) E s)
    (hs : ∀ x, foldedSetIterable iter env x = pure x := by intro _; rfl) :
    wpC M A (exec (.For target iter body orelse pos) env) Q E s := by
  rw [exec_For]
  refine wpC_bindA (wpAny_standAt (wpC_bindA (wpAny_mono h (fun x s₁ h₁ => ?_) fun _ _ e => e)))
  refine wpC_bindA (wpAny_of_eq (hs x) (wpC_bindA (wpAny_standAt (wpC_bindA (wpAny_holding (wpAny_mono h₁ (fun it s₂ h₂ => ?_) fun _ _ e => e))))))
  exact wpC_runOwn (A := A) (h := none) h₂
end
end Mine

namespace Mine


section
variable {prog : Program} {w : World} {A : Around} {E : Value → Shared → Prop} {s : Shared}

theorem codeC_forLoop {R : Result → Shared → Prop} {target it body env} (I : Nat → Shared → Prop)
    (turn : ∀ n s (E' : Value → Shared → Prop), I n s → wpAny (model prog w) A (pyNext it) (fun r s₁ => match r with
      | none => R (.ok .next) s₁
      | some v => wpAny (model prog w) A (assign target env v) (fun _ s₂ => wpC (model prog w) A (execs body env) (fun f s₃ => match f with
          | .next | .cont => ∃ m, m < n ∧ I m s₃
          | .brk => False
          | .ret v => R (.ok (.ret v)) s₃) E' s₂) E' s₁) E' s)
    (n : Nat) (h : I n s) (ht : ∀ v, letOwnedTupleGo target it v = pure () := by intro _; rfl) : codeC (model prog w) A (.forLoop target it body [] env) R s := by
  refine codeC_loop rfl rfl I (fun n s hI => ?_) n h
  show wpC _ A ((forTurn target it body [] env).onRaise (fun x => do noteFrame x env; theTreesLotGoes x)) _ _ s
  refine wpC_onRaise ?_
  simp only [forTurn]
  refine wpC_bindA (wpAny_standAt ?_)
  refine wpC_bindA (wpAny_onRaise (wpAny_mono (turn n s _ hI) (fun r s₁ h₁ => ?_) fun _ _ h' => wpAny_standAt h'))
  cases r with
  | none => exact wpC_pure (.inr ⟨rfl, codeC_of (codeAny_block (wpAny_execs_nil h₁))⟩)
  | some v =>
    refine wpC_bindA (wpAny_of_eq (ht v) ?_)
    refine wpC_bindA (wpAny_mono h₁ (fun _ s₂ h₂ => wpC_bind (wpC_mono h₂ (fun f s₃ h₃ => ?_) fun _ _ h' => h')) fun _ _ h' => h')
    cases f with
    | next => exact wpC_pure (.inl ⟨rfl, h₃⟩)
    | cont => exact wpC_pure (.inl ⟨rfl, h₃⟩)
    | brk => exact h₃.elim
    | ret v => exact wpC_pure h₃

theorem codeC_func {body env} {R : Result → Shared → Prop}
    (h : ∀ E', wpC (model prog w) (A.deeper env) (execs body env) (fun f s' => R (.ok (.ret (match f with | .ret v => v | _ => .none))) s') E' s) :
    codeC (model prog w) A (.func body env) R s := by
  refine codeC_of_tree rfl ?_
  show wpC _ (A.deeper env) (do point; match ← (execs body env).onRaise (leaving env) with | .ret v => ret v | _ => ret .none) _ _ s
  refine wpC_bindA (wpAny_point (wpC_bind (wpC_onRaise (wpC_mono (h _) (fun f s' h' => ?_) fun _ _ h' => h'))))
  cases f <;> exact wpC_pure h'

theorem codeC_call_function {a : Addr} {args : Args} {o : Obj} {fd : FuncData} {body : List Stmt} {R : Result → Shared → Prop} (hroom : A.depth < recursionLimit)
    (ho : s.heap.get? a = some o)
    (hd' : o.data = .func fd) (hco : fd.scope.isCoroutine = false) (hgen : fd.scope.isGenerator = false) (hbody : fd.body = .stmts body) (hcd : s.heap.CodeRec fd.code fd.qualname)
    (h : wpAny (model prog w) A.in1 (bindArgs fd args) (fun binds s₁ =>
      wpAny (model prog w) A.in1 (newFunctionEnv fd.scope fd.globals fd.closure binds (fd.qualname ++ ".<locals>.") (some a) fd.code none fd.builtins)
        (fun env s₂ => s₂.heap.NoLimit ∧ codeC (model prog w) A (.func body env) R s₂) (fun e s' => R (.error e) s') s₁) (fun e s' => R (.error e) s') s) :
    codeC (model prog w) A (.call (.ref a) args) R s := by
  refine codeC_of_tree rfl ?_
  show wpC _ A.in1 (callAny (.ref a) args) _ _ s
  simp only [callAny]
  refine wpC_bindA (wpAny_load ho ?_)
  obtain ⟨c, oc, vs, tq, hc, hoc, hdc, hq⟩ := hcd
  simp only [hd', callFunction, hco, hgen, hbody, hc]
  rw [hc] at h
  refine wpC_bindA (m := field (.ref c) 1) (wpAny_field hoc hdc hq ?_)
  refine wpC_bindA (wpAny_pure ?_)
  refine wpC_bindA (wpAny_mono h (fun binds s₁ h₁ => ?_) fun _ _ h' => h')
  refine wpC_bindA (wpAny_mono h₁ (fun env s₂ h₂ => ?_) fun _ _ h' => h')
  exact wpC_bindA (wpAny_enterFrame h₂.1 hroom (wpC_pure (And.intro rfl h₂.2)))

/-- a call of a def, its body over wpC -/
theorem wpC_callDef {a : Addr} {o : Obj} {fd : FuncData} {body : List Stmt} {args : List Value} {binds : List (Str × Value)} {Q : Value → Shared → Prop}
    (room : A.depth < recursionLimit) (nolim : s.heap.NoLimit) (ho : s.heap.get? a = some o) (hdata : o.data = .func fd) (hcd : s.heap.CodeRec fd.code fd.qualname) (hbody : fd.body = .stmts body) (hclo : fd.closure = [])
    (hbind : bindArgs fd ⟨args, []⟩ = pure binds)
    (hkind : ∀ L, ∀ x ∈ binds, fd.scope.names.lookup x.1 = some .local ∨ (fd.scope.names.lookup x.1 = some .cell ∧ ((cellsFrom L fd.scope.names []).lookup x.1).isSome = true))
    (h : ∀ (L : Addr) (s₁ : Shared) (E' : Value → Shared → Prop), Keeps s s₁ → s.heap.get? L = none → s₁.heap.Ns L (bindL (callEnvC fd L a).kindOf binds (fun _ => none)) →
      (∀ x c, (cellsFrom (L + 1) fd.scope.names []).lookup x = some c → s.heap.get? c = none ∧ c ≠ L ∧ s₁.heap.IsCell c (bindC (callEnvC fd L a).kindOf binds (fun _ => none) x)) →
      wpC (model prog w) (A.deeper (callEnvC fd L a)) (execs body (callEnvC fd L a)) (fun fl s' => ∃ v, fl = .ret v ∧ Q v s') E' s₁)
    (hco : fd.scope.isCoroutine = false := by rfl) (hgen : fd.scope.isGenerator = false := by rfl) (hk : fd.scope.kind = .function := by rfl) :
    wpC (model prog w) A (PySem.call (.ref a) args) Q E s := by
  refine wpC_call (codeC_call_function room ho hdata hco hgen hbody hcd ?_)
  rw [hbind, hclo]
  refine wpAny_pure (wpAny_newFunctionEnv_cells hk (hkind _) fun env he s' x => ?_)
  subst he
  refine ⟨nolim.keeps x.toInCall.keep, codeC_func fun E' => ?_⟩
  obtain ⟨h₁, tk, rfl, kk⟩ := x.done
  refine wpC_mono (h s.heap.objs.size _ E' (keeps_mk kk) fresh_none x.toInCall.ns fun y c hc => ?_) (fun fl s₂ ⟨v, e, q⟩ => by subst e; exact q) fun _ _ e => e
  have hlt : s.heap.objs.size < c := x.above y c (mem_of_lookup hc)
  refine ⟨?_, Ne.symm (Nat.ne_of_lt hlt), x.cell y c hc⟩
  cases q : s.heap.get? c with
  | none => rfl
  | some o => exact absurd (Heap.lt_size q) (Nat.not_lt.mpr (Nat.le_of_lt hlt))
end
end Mine

namespace Mine
open PySem.Calls

/-- the thread of the call ends, from a walk over the stacks that hold no holder of a bytearray -/
theorem thread_endsC {prog : Program} {w : World} {t : Sem Fin} {s : Shared} {R : Result → Shared → Prop} (hreg : s.asleep)
    (h : wpC (model prog w) callerA t (fun fin s' => ∃ f, fin = .done f ∧ (R (.ok f) s' ∧ leftWithCleanup s'.gens = false)) (fun e s' => R (.error e) s' ∧ leftWithCleanup s'.gens = false) s) :
    ∃ n r s' s'', runN (denote table) prog w n s ⟨t, .builtin "claim.caller" {}, default, []⟩ = .halted (outcomeOf r) s' ∧
      schedN (denote table) prog w n (.single s ⟨t, .builtin "claim.caller" {}, default, []⟩) = .halted (outcomeOf r) s' ∧ s'.forget = s''.forget ∧ R r s'' := by
  have g : Sem.wp (model prog w) ⟨.builtin "claim.caller" {}, none, none, [], none⟩ t
      (Sem.finPost (model prog w) ⟨.builtin "claim.caller" {}, none, none, [], none⟩ fun r s' => R r s' ∧ leftWithCleanup s'.gens = false) (fun e _ s' => R (.error e) s' ∧ leftWithCleanup s'.gens = false) default s := by
    refine Sem.wp_mono _ _ t (fun fin p' s' h' => ?_) (fun _ _ _ h' => h') _ s (h _ default caller_in (by decide +kernel) (fun _ hx => nomatch hx))
    obtain ⟨f, rfl, hf⟩ := h'
    exact hf
  obtain ⟨n, r, s₁, s₂, hs, hn, hfo, hR⟩ := wp_halts_full (M := model prog w) (R := R) hreg g
  exact ⟨n, r, s₂, s₁, hn, hs, hfo, hR⟩

/-- the call's clause of the claim -/
theorem callFromC {c : ClaimW} {tree : List Value → Sem Fin} {w : World} {s : Shared} {free : Addr → Prop} {gens : Prop} {kept : Heap → Prop} (hz : s.asleep) (hgens : s.gens = #[])
    (hspec : ∀ args, c.pre args = true → WData.layableAll args = true → ∀ ord : List DictEntry → List DictEntry, (∀ l, (ord l).Perm l) →
      ∃ vs s₁, layAllW c.records (classAt s.heap) w.params ord args s = some (vs, s₁) ∧
        wpC (model c.prog w) callerA (tree vs) (fun fin s' => ∃ f, fin = .done f ∧ (c.Ends s args vs s₁ (.ok f) s' ∧ s'.os = s.os ∧ AllBare s'.gens ∧ kept s'.heap))
          (fun e s' => c.Ends s args vs s₁ (.error e) s' ∧ s'.os = s.os ∧ AllBare s'.gens ∧ kept s'.heap) s₁) :
    c.CallFrom (fun vs => ⟨tree vs, .builtin "claim.caller" {}, default, []⟩) w free gens kept s := fun args hpre hlay ord hord => by
  obtain ⟨vs, s₁, hlaid, hcode⟩ := hspec args hpre hlay ord hord
  have rest := layAllW_rest _ _ _ hlaid
  obtain ⟨k, r, s', s'', hrun, hsched, hfo, hcase, hos, hkp⟩ := thread_endsC (prog := c.prog) (w := w) (t := tree vs) (s := s₁) (R := fun r s' => c.Ends s args vs s₁ r s' ∧ s'.os = s.os ∧ kept s'.heap)
    (Shared.asleep_of_life rest.2.2.2 hz)
    (wpC_mono hcode (fun fin s' ⟨f, e, a, b, d, k⟩ => ⟨f, e, ⟨a, b, k⟩, leftWithCleanup_false_of_bare d⟩) fun e s' ⟨a, b, d, k⟩ => ⟨⟨a, b, k⟩, leftWithCleanup_false_of_bare d⟩)
  obtain ⟨eh, _, _, eo, _⟩ := Shared.forget_eq hfo
  have hcase := hcase.congr eh
  rw [← eh] at hkp
  rw [← eo] at hos
  refine ⟨vs, s₁, hlaid, k, _, s', hsched, ?_, (fun _ i x hx => by rw [hgens] at hx; simp at hx), hkp, by rw [(runN_life _ _ _ hrun).trans rest.2.2.2], Shared.rest_eq hos⟩
  rcases hcase with ⟨v, rfl, d1, d2, d3, d4, d5⟩ | ⟨e, ob, cls, rfl, d1, d2, d3, d4, d5⟩
  · exact .inl ⟨v, rfl, d1, d2, d3, fun b o y _ => d4 b o y, d5⟩
  · exact .inr ⟨e, ob, cls, rfl, d1, d2, d3, d4, fun b o y _ => d5 b o y⟩

/-- what is to be walked -/
abbrev WalkC (q : Program) (loose : List Str) (XP : (Str → Option Value) → Heap → Prop) (YP : World → Heap → Prop) (r : RowW) (d : DefRec) (kwd : List (Str × Expr)) : Prop :=
  ∀ (w : World) (s₀ s₁ : Shared) (mg mb : Str → Option Value), Ground q loose r.records XP w s₀ mg mb s₁.heap → YP w s₁.heap → ∀ (a : Addr) (o : Obj) (pm cd doc dV kV : Value), s₁.heap.get? a = some o →
    o.data = .func { docDef d.name d.params d.body d.scope pm cd doc with defaults := dV, kwdefaults := kV } → s₁.heap.CodeRec cd d.name → Dflts mg s₁.heap d.params kwd dV kV → mg d.name = some (.ref a) → s₁.gens = #[] →
    ∀ (args : List WData) (vals : List Value) (as : List Addr), r.claim.pre args = true → WData.layableAll args = true → ReadsAllW r.records (classAt s₀.heap) s₁.heap vals args as → WellAll w.params s₁.heap vals args → (∀ a ∈ as, (a == sysModules) = false) →
      wpC (model r.prog w) callerA (PySem.call (.ref a) vals) (fun v s' => GoodWG r.claim (classAt s₀.heap) (ExcName.means s₀.heap) args s₁ (.ok (.ret v)) s')
        (fun e s' => GoodWG r.claim (classAt s₀.heap) (ExcName.means s₀.heap) args s₁ (.error e) s') s₁

end Mine

namespace Mine.PySem.W
/-- the head, over wpC -/
theorem holds_open {r : OpenRow} {q : Program} {loose : List Str} {Xt : Shared → Bool} {XP : (Str → Option Value) → Heap → Prop} {α : Type} {Yf : Shared → α} {Ya : World → α} {YP : World → Heap → Prop} {d : DefRec} {kwd : List (Str × Expr)} {N : Nat}
    (left : LeftO r.prog q loose Xt Yf Ya N) (hY : ∀ w s, Yf s = Ya w → YP w s.heap) (hYk : ∀ w h h', YP w h → (∀ b o, h.get? b = some o → h'.get? b = some o) → YP w h')
    (hX : ∀ s, Xt s = true → XP (s.heap.nsMap mainGlobals) s.heap) (hXk : ∀ mg h h', XP mg h → (∀ b o, h.get? b = some o → h'.get? b = some o) → XP mg h')
    (hdef : defOf q r.name = some (d, kwd)) (hp : r.prog.theDef r.name = some (d.params, d.body, d.scope)) (hk : kwWritten? d.params.kwonlyargs d.params.kw_defaults = some kwd) (hRf : ∀ s, Xt s = true → RecFacts r.records s.heap) (hwr : (!r.writes || r.records.isEmpty) = true)
    (k1 : r.wellSaid = true) (ok : (chainsOk q && opensWell r.prog && (frees r.toRowW && r.within.isEmpty)) = true) (hb : r.prog.bare) (hw : r.toRowW.promised)
    (call : WalkC q loose XP YP r.toRowW d kwd) : r.Holds := by
  obtain ⟨ok, k5⟩ := Bool.and_eq_true_iff.mp ok
  obtain ⟨hch, o1⟩ := Bool.and_eq_true_iff.mp ok
  obtain ⟨k5, k6⟩ := Bool.and_eq_true_iff.mp k5
  obtain ⟨hsame, hu, ha, hap, hm⟩ := frees_parts k5
  refine ⟨k1, hw, ⟨⟨hb, o1, by show r.toRowW.makers.map _ = []; rw [hm]; rfl⟩, hw.witness, fun w => ⟨(left.behind hX hch w).1, fun s' hs' => ?_⟩⟩⟩
  obtain ⟨s₀, hf, hg0, s, hT, hz, hgens, hg, G00, y⟩ := (left.behind (XP := fun mg h => XP mg h ∧ RecFacts r.records h) (fun s hs => ⟨hX s hs, hRf s hs⟩) hch w).2 s' hs'
  have G0 : Ground q loose [] XP w s (s.heap.nsMap mainGlobals) (s.heap.nsMap builtinsNs) s.heap := ⟨G00.T, G00.B, G00.D, G00.TE, G00.TD, G00.W, G00.X.1, G00.cls, G00.has, G00.apart, G00.once, G00.K⟩
  have RF := G00.X.2
  refine ⟨s₀, hf, hg0, s, hT, fun n hn => ?_, RF.1, RF.2.1, ?_⟩
  · obtain rfl : n = r.name := by split at hn <;> simp_all
    exact pinned_of_view hg G0 hdef hp hk
  have hgens : s.gens = #[] := Array.eq_empty_of_size_eq_zero (beq_iff_eq.mp hgens)
  have G : Ground q loose r.records XP w s _ _ s.heap := RF.ground G0
  refine callFromC (c := r.toRowW.claim) hz hgens fun args hpre hlay ord hord => ?_
  obtain ⟨⟨vs, s₁⟩, hlaid⟩ := Option.isSome_iff_exists.mp (layAllW_isSome (P := w.params) (ord := ord) G.has args r.args s (pre_splitW hpre).1)
  have keeps := layAllW_keeps _ _ _ hlaid
  have rest := layAllW_rest _ _ _ hlaid
  obtain ⟨as, hrd, hin, hold⟩ := reads_layAllW hord _ _ _ hlaid hlay s₁.heap (fun _ _ e => e)
  have L : Laid r.records w s s₁ args vs as := ⟨⟨ord, hord, hlaid⟩, hrd, hin, hold, keeps, rest.1.trans hgens, rest.2.2.1⟩
  have G₁ := G.keeps hXk keeps
  obtain ⟨a, o, pm, cd, doc, dV, kV, h1, h2, h3, h4, h5⟩ := G₁.fn hdef
  have h := call w s s₁ _ _ G₁ (hYk _ _ _ (hY w s y) keeps) a o pm cd doc dV kV h2 h3 h4 h5 (defOf_name hdef ▸ h1) L.gens args vs as hpre hlay L.reads L.well (L.low G.low)
  have hi := ident_freeW hu ha hap
  have hwi : r.toRowW.claim.within = [] := List.isEmpty_iff.mp k6
  refine ⟨vs, s₁, hlaid, ?_⟩
  refine wpC_bindA (wpAny_nsGet G₁.T.g ?_)
  rw [h1]
  refine wpC_bind (wpC_mono h (fun v s' g => wpC_pure ⟨_, rfl, ?_⟩) fun e s' g => ?_)
  all_goals
    have z := g.laid (c := r.toRowW.claim) hsame hwi hi L
    exact ⟨z.1, z.2.1, z.2.2, fun q => ⟨namesKept_of hT hg _ keeps g.2.1.old, noTable hwr q⟩⟩
end Mine.PySem.W

namespace Mine


theorem ba_mro : mroOf (.type "bytearray") = pure [.type "bytearray", .type "object"] := by rw [mroOf_type]; kernel_rfl
theorem ba_lookup_new : typeLookup (.type "bytearray") "__new__" = pure (some (.builtin "bytearray.__new__")) := by rw [typeLookup_type, builtinLookup_eq_fast]; kernel_rfl
theorem ba_slot_init : Slot "bytearray" "__init__" "bytearray.__init__" :=
  .of (owner := "bytearray") (n := "__init__") (by rw [typeLookup_type, builtinLookup_eq_fast]; kernel_rfl) (by decide +kernel) (by decide +kernel) (by decide +kernel)
    (by first | exact .inl (by decide +kernel) | exact .inr (by decide +kernel)) (by rw [isSubtype_type]; kernel_rfl)
theorem ba_sub : isSubtype (.type "bytearray") (.type "bytearray") = pure true := by rw [isSubtype_type]; kernel_rfl
theorem ba_called : TypeCalled "bytearray" "bytearray.__new__" "bytearray.__init__" :=
  ⟨by decide +kernel, by decide +kernel, ⟨_, _, ba_mro⟩, madeBy_type ba_mro ba_lookup_new (by decide +kernel), by decide +kernel, ba_sub, ba_slot_init⟩
theorem ba_typeCall (a : Value) : checkTypeCall "bytearray" ⟨[a], []⟩ = pure () := by kernel_rfl
theorem ba_newCall (a : Value) : checkBuiltinCall "bytearray.__new__" ⟨[.type "bytearray", a], []⟩ = pure () := by kernel_rfl
theorem ba_plain_new : plainId "bytearray.__new__" = true := by decide +kernel
theorem ba_plain_init : plainId "bytearray.__init__" = true := by decide +kernel
theorem ba_entry_new : entryFor table "bytearray.__new__" = some Builtin.«list.__new__» := entryFor_alias (id' := "list.__new__") (by kernel_rfl) (by decide +kernel) (by decide +kernel) (by kernel_rfl)
theorem ba_entry_init : entryFor table "bytearray.__init__" = some Builtin.«bytearray.__init__» := entryFor_of_fast (by kernel_rfl)
theorem ba_bind (v : Value) : Builtin.Bytes.bindOptional "bytearray.__init__" "bytearray" ["source", "encoding", "errors"] [v] [] = pure [some v, none, none] := by kernel_rfl
set_option maxRecDepth 1000000 in
set_option maxHeartbeats 4000000 in
theorem ba_owner : ("bytearray.__new__".splitOn ".__new__").headD "" = "bytearray" := by simp +decide [String.splitOn, String.splitOnAux]
theorem ba_argsOk (a b : Value) : argsOk "bytearray.__init__" ⟨[a, b], []⟩ := by
  unfold argsOk; kernel_rfl

section
variable {prog : Program} {w : World} {A : Around} {E : Value → Shared → Prop} {s : Shared}
theorem ba_new (a : Value) {Q₁ : Value → Shared → Prop}
    (h : Q₁ (.ref s.heap.objs.size) { s with heap := s.heap.push { cls := .type "bytearray", data := .bytearray #[] } }) :
    codeAny (model prog w) A (.call (.builtin "bytearray.__new__") ⟨[.type "bytearray", a], []⟩) (wants Q₁ E) s := by
  refine codeAny_of_tree ?_
  show wpAny _ A.in1 (do checkBuiltinCall "bytearray.__new__" ⟨[.type "bytearray", a], []⟩; again (.builtin "bytearray.__new__" ⟨[.type "bytearray", a], []⟩)) _ _ s
  refine wpAny_bind (wpAny_of_eq (ba_newCall a) (wpAny_pure ⟨plainId_quiet ba_plain_new _, codeAny_builtin_stack ba_entry_new rfl fun p st => ?_⟩))
  rw [Around.under_plainId ba_plain_new _]
  have hsub := ba_sub
  have hown := ba_owner
  obtain ⟨hp, g, d, tk, os⟩ := s
  simp only [hown]
  wp_walk
  exact h
end
end Mine

namespace Mine

open PySem.Builtin (Bytes.ownRelease Bytes.slotIsOwn Bytes.exported Bytes.exportsOf Bytes.write)

theorem ba_look_release : typeLookup (.type "bytearray") "__release_buffer__" = pure (some (.builtin "bytearray.__release_buffer__")) := by rw [typeLookup_type, builtinLookup_eq_fast]; kernel_rfl

section
variable {prog : Program} {w : World} {A : Around} {E : Value → Shared → Prop} {s : Shared}
def baO (b : Array UInt8) : Obj := { cls := .type "bytearray", data := .bytearray b }
theorem baO_type {h : Heap} {g d tk os} {S : Addr} {b : Array UInt8} (hS : h.get? S = some (baO b)) : ({ heap := h, gens := g, drawn := d, toks := tk, os := os } : Shared).TypeIs (.ref S) "bytearray" := ⟨_, hS, rfl⟩
theorem wpC_ifF {α : Type} {M : Model} {c : Bool} {a b : Sem α} {Q : α → Shared → Prop} (hc : c = false) (h : wpC M A b Q E s) : wpC M A (if c = true then a else b) Q E s := by
  subst hc
  exact h
theorem wpC_ifT {α : Type} {M : Model} {c : Bool} {a b : Sem α} {Q : α → Shared → Prop} (hc : c = true) (h : wpC M A a Q E s) : wpC M A (if c = true then a else b) Q E s := by
  subst hc
  exact h
theorem ba_release {S : Addr} {b : Array UInt8} {Q : Bool → Shared → Prop} (hS : s.heap.get? S = some (baO b)) (h : Q false s) : wpAny (model prog w) A (Builtin.Bytes.ownRelease (.ref S)) Q E s := by
  have hT : s.TypeIs (.ref S) "bytearray" := ⟨_, hS, rfl⟩
  have key : ∀ x : String, x = "bytearray" → ∀ {Q : Bool → Shared → Prop}, Q true s → wpAny (model prog w) A (isInstance (.ref S) (.type x)) Q E s := fun x hx Q q => by rw [hx]; exact wpAny_isInstance hT ba_sub q
  unfold Builtin.Bytes.ownRelease Builtin.Bytes.slotIsOwn
  refine wpAny_bind (wpAny_bind (wpAny_specialOf hT ba_look_release ?_))
  dsimp only
  refine bm_if_false (by decide +kernel) ?_
  exact key _ (by decide +kernel) (wpAny_pure h)
theorem ba_write {S : Addr} {b : Array UInt8} {f : Array UInt8 → Array UInt8} {Q : Unit → Shared → Prop} (hS : s.heap.get? S = some (baO b)) (hn : (f b).size ≤ sizeLine)
    (h : ∀ h', Heap.SameBut S s.heap h' → h'.get? S = some (baO (f b)) → Q () { s with heap := h' }) : wpAny (model prog w) A (Builtin.Bytes.write (.ref S) f) Q E s := by
  show wpAny _ _ (updateBytearray S f) _ _ _
  unfold updateBytearray
  refine wpAny_bind (wpAny_load hS ?_)
  show wpAny _ _ (update S (Obj.mapBytearray f) >>= fun _ => lookBehind S) _ _ _
  refine wpAny_bind (wpAny_update hS ?_)
  have hS₂ : (s.heap.update S (Obj.mapBytearray f)).get? S = some (baO (f b)) := Heap.get?_update_self (Obj.mapBytearray f) hS rfl
  refine wpAny_lookBehind hS₂ ?_ (h _ (Heap.SameBut.update ..) hS₂)
  show (if (f b).size > sizeLine then some "bytearray:memory" else none) = none
  rw [if_neg (Nat.not_lt.mpr hn)]
theorem ba_exports {S : Addr} {b : Array UInt8} {Q : Nat → Shared → Prop} (hS : s.heap.get? S = some (baO b)) (h : Q 0 s) : wpAny (model prog w) A (Builtin.Bytes.exportsOf (.ref S)) Q E s := by
  unfold Builtin.Bytes.exportsOf
  exact wpAny_bind (wpAny_load hS (wpAny_pure h))
theorem okC_builtin {id : String} {args : Args} (h : heldIds.contains id = false) : okC (.builtin id args) = true := by
  show (!heldIds.contains id) = true
  rw [h]; rfl
theorem codeC_builtin {R : Result → Shared → Prop} {id : String} {args : Args} {b : Builtin} (hb : entryFor table id = some b) (hid : heldIds.contains id = false)
    (h : wpC (model prog w) (A.under (.builtin id args)) (b args)
      (fun fin s' => match fin with | .done f => R (.ok f) s' | .again c' => c'.quiet = true ∧ codeC (model prog w) A c' R s') (fun e s' => R (.error e) s') s) :
    codeC (model prog w) A (.builtin id args) R s := by
  refine codeC_of_tree (okC_builtin hid) ?_
  show wpC _ _ (match entryFor table id with | some b => b args | none => unsupported ((withoutEnding? id "#data").getD id)) _ _ s
  rw [hb]; exact h
theorem int_notStr (i : Int) (t : Tok) : asStr? (.int i t) = pure none := by first | rfl | kernel_rfl
theorem ba_init {S : Addr} {n : Nat} {t : Tok} {Q : Fin → Shared → Prop} (hS : s.heap.get? S = some (baO #[])) (hn : n ≤ 1000)
    (hQ : ∀ h', (∀ b o, b ≠ S → s.heap.get? b = some o → h'.get? b = some o) → h'.get? S = some (baO (Array.replicate n 0)) → Q (.done (.ret .none)) { s with heap := h' }) :
    wpC (model prog w) A (Builtin.«bytearray.__init__» ⟨[.ref S, .int n t], []⟩) Q E s := by
  unfold Builtin.«bytearray.__init__»
  refine wpC_bindA (ba_release hS ?_)
  refine wpC_ifF rfl ?_
  refine wpC_bindA (wpAny_of_eq (ba_bind _) ?_)
  refine wpC_bindA (wpAny_of_eq (a := ()) rfl ?_)
  refine wpC_bindA (wpAny_of_eq (a := ()) rfl ?_)
  refine wpC_bind (?_ : wpC _ _ (Builtin.Bytes.exported (.ref S) >>= fun b => _) _ _ _)
  refine wpC_bind (exported_false ?_)
  refine wpC_of (wpAny_bind (ba_exports hS (wpAny_pure ?_)))
  refine wpC_ifF (show decide (0 > 0) = false from rfl) ?_
  refine wpC_bindA (ba_write hS (Nat.zero_le _) fun h₁ sb hS₁ => ?_)
  dsimp only
  rw [int_notStr, pure_bind]
  simp only [Option.isSome_none, Bool.false_eq_true, if_false, pure_bind]
  generalize hk : (fun (x : Option Value) => (_ : Sem PySem.Fin)) = kk
  refine wpC_bindA (wpAny_specialOf (T := "int") (typeIs_int _ _ _) F.slot_int_index.lookup ?_)
  rw [← hk]
  clear hk
  simp only [Option.isSome_some, if_true]
  have e : (asIndex (.int (n : Int) t)).attempt = pure (.ok (n : Int)) := rfl
  rw [e, pure_bind]
  dsimp only
  have e1 : Builtin.Bytes.fitsIndex (n : Int) = true := by
    unfold Builtin.Bytes.fitsIndex
    simp only [Bool.and_eq_true, decide_eq_true_eq]
    omega
  have e2 : ((n : Int) == 2 ^ 63 - 1) = false := by
    rw [beq_eq_false_iff_ne]
    omega
  have e3 : ¬ ((n : Int) < 0) := by omega
  have e4 : Builtin.Bytes.tooLong (n : Int).toNat = false := by
    unfold Builtin.Bytes.tooLong
    rw [sizeLine_eq]
    exact decide_eq_false (by simp; omega)
  simp only [e1, e2, e4, e3, Bool.not_true, Bool.false_eq_true, if_false, pure_bind]
  refine wpC_bindA (wpAny_rule ?_)
  have o₁ : ∀ b o, b ≠ S → s.heap.get? b = some o → h₁.get? b = some o := fun b o hb e => sb.extBut b o hb e
  refine wpC_of ?_
  by_cases hn0 : (n : Int) > 0
  · rw [if_pos hn0]
    refine wpAny_bind (ba_write hS₁ (by rw [Array.size_replicate, sizeLine_eq]; simp; omega) fun h₂ sb₂ hS₂ => ?_)
    refine wpAny_pure (hQ h₂ (fun b o hb e => sb₂.extBut b o hb (o₁ b o hb e)) ?_)
    rw [hS₂]
    simp
  · rw [if_neg hn0]
    have : n = 0 := by omega
    subst this
    exact wpAny_pure (hQ h₁ o₁ hS₁)

/-- bytearray(n): a new bytearray of n zeros -/
theorem ba_call {n : Nat} {t : Tok} {Q : Value → Shared → Prop} (hn : n ≤ 1000)
    (hQ : ∀ S h', s.heap.get? S = none → Ext s.heap h' → h'.get? S = some (baO (Array.replicate n 0)) → Q (.ref S) { s with heap := h' }) :
    wpC (model prog w) A (PySem.call (.type "bytearray") [.int n t]) Q E s := by
  have hmade := ba_called.made
  have h1 := ba_called.notType
  have h2 := ba_called.canCreate
  refine wpC_call (codeC_of_tree rfl ?_)
  show wpC _ _ (callAny (.type "bytearray") _) _ _ _
  refine wpC_pure ⟨Code.quiet_builtin _ (by decide +kernel), codeC_builtin F.entry_type_call (by decide +kernel) ?_⟩
  rw [Around.under_plain (weight_type_call_type "bytearray" [.int n t] []) rfl]
  unfold Builtin.«type.__call__»
  dsimp only
  simp only [h1, Bool.false_eq_true, if_false, h2, ba_typeCall, ba_mro, hmade, pure_bind, List.isEmpty_cons]
  refine wpC_bindA (wpAny_holding (wpAny_call (codeAny_mono (ba_new (.int n t) (E := E) (Q₁ := fun v s₁ => v = .ref s.heap.objs.size ∧ s₁ = { s with heap := s.heap.push (baO #[]) }) ⟨rfl, rfl⟩) fun r s₁ hr => ?_)))
  cases r with
  | error e => exact hr
  | ok fl =>
  cases fl with
  | next => exact hr.elim
  | brk => exact hr.elim
  | cont => exact hr.elim
  | ret obj =>
  obtain ⟨rfl, rfl⟩ := hr
  generalize hSz : s.heap.objs.size = S
  have hS : (s.heap.push (baO #[])).get? S = some (baO #[]) := by rw [← hSz]; exact Heap.get?_push_size _ rfl
  have hN : s.heap.get? S = none := by rw [← hSz]; exact fresh_none
  have hT : ({ s with heap := s.heap.push (baO #[]) } : Shared).TypeIs (.ref S) "bytearray" := ⟨_, hS, rfl⟩
  refine wpC_bindA (wpAny_isInstance hT ba_sub ?_)
  refine wpC_ifF rfl ?_
  refine wpC_bind (wpC_holding ?_)
  unfold callSpecial?
  refine wpC_bindA (wpAny_specialOf hT ba_slot_init.lookup ?_)
  dsimp only
  refine wpC_holding ?_
  refine wpC_bindA (wpAny_of_eq (ba_slot_init.bind _) ?_)
  dsimp only
  refine wpC_bind ?_
  refine wpC_call (codeC_of_tree rfl ?_)
  show wpC _ _ (do checkBuiltinCall "bytearray.__init__" ⟨[.ref S, .int n t], []⟩; again (.builtin "bytearray.__init__" ⟨[.ref S, .int n t], []⟩)) _ _ _
  refine wpC_bindA (ba_slot_init.check _ _ _ _ _ _ _ _ hT (ba_argsOk _ _) (wpC_pure ⟨plainId_quiet ba_plain_init _, codeC_builtin ba_entry_init (by decide +kernel) ?_⟩))
  refine ba_init hS hn fun h' o' hS' => ?_
  refine wpC_pure (wpC_ifF rfl (wpC_pure ?_))
  have ext : Ext s.heap h' := fun b o e => o' b o (fun z => by rw [z, hN] at e; cases e) (Heap.get?_push_of_some _ e)
  exact hQ S h' hN ext hS'
end
end Mine

namespace Mine


theorem et_no_bytes : typeLookup (.type "tuple") "__bytes__" = pure none := by rw [typeLookup_type, builtinLookup_eq_fast]; kernel_rfl
theorem et_no_index : typeLookup (.type "tuple") "__index__" = pure none := by rw [typeLookup_type, builtinLookup_eq_fast]; kernel_rfl
theorem et_no_buffer : typeLookup (.type "tuple") "__buffer__" = pure none := by rw [typeLookup_type, builtinLookup_eq_fast]; kernel_rfl
theorem et_split : splitId "tuple.__len__" = some ("tuple", "__len__") := by decide +kernel
theorem et_sub_tuple : isSubtype (.type "tuple") (.type "tuple") = pure true := by rw [isSubtype_type]; kernel_rfl
theorem ba_no_bytes : typeLookup (.type "bytearray") "__bytes__" = pure none := by rw [typeLookup_type, builtinLookup_eq_fast]; kernel_rfl
theorem ba_no_index : typeLookup (.type "bytearray") "__index__" = pure none := by rw [typeLookup_type, builtinLookup_eq_fast]; kernel_rfl
theorem ba_look_buffer : typeLookup (.type "bytearray") "__buffer__" = pure (some (.builtin "bytearray.__buffer__")) := by rw [typeLookup_type, builtinLookup_eq_fast]; kernel_rfl

section
variable {prog : Program} {w : World} {A : Around} {E : Value → Shared → Prop} {s : Shared}

theorem bt_loop {R : Result → Shared → Prop} {I S : Addr} {fp : List Addr} {P : Nat → Value → Prop} {St : Nat → Heap → Prop} {ns : List Int}
    (Wk : Walks prog w A.in1 I fp [I] ns.length P St) (hP : ∀ i v x, P i v → ns[i]? = some x → ∃ t, v = .int x t) (hr : ∀ n ∈ ns, 0 ≤ n ∧ n < 256) (hz : ns.length ≤ 1000) (hIS : I ≠ S) (hS : S ∉ fp) :
    ∀ (k i : Nat) (s : Shared), ns.length - i = k → i ≤ ns.length → St i s.heap → s.heap.get? S = some (baO (byteArr (ns.take i))) →
      (∀ h' t k', (∀ b o, b ≠ I → b ≠ S → s.heap.get? b = some o → h'.get? b = some o) → R (.ok (.ret (.bytes (byteArr ns) t))) { s with heap := h', toks := k' }) →
      codeAny (model prog w) A (.builtin "bytes.__new__.loop" ⟨[.type "bytes", .ref I, .ref S], []⟩) R s := by
  intro k
  induction k with
  | zero =>
    intro i s hk hle st hSo hR
    have hin : i = ns.length := by omega
    subst hin
    refine codeAny_builtin F.bm_entry_loop ?_
    rw [Around.under_plainId F.bm_plain_loop _]
    show wpAny _ A.in1 (pyNext (.ref I) >>= _) _ _ s
    refine wpAny_bind (Wk.done _ _ _ st fun h' tk he => ?_)
    have hS' : h'.get? S = some (baO (byteArr (ns.take ns.length))) := he S _ (by simpa using Ne.symm hIS) hSo
    refine wpAny_bind ?_
    unfold Builtin.Bytes.payload Builtin.Bytes.payload?
    refine wpAny_bind (wpAny_bind (wpAny_load hS' ?_))
    refine wpAny_pure (wpAny_pure ?_)
    rw [List.take_length]
    refine wpAny_bind (wpAny_mkBytes ?_ (by rw [byteArr_size, sizeLine_eq]; omega))
    show wpAny _ _ (if (Value.type "bytes" == Value.type "bytes") = true then _ else _) _ _ _
    refine bm_if_true (by decide) ?_
    first
      | exact wpAny_pure (hR h' _ _ fun b o hb _ e => he b o (by simpa using hb) e)
      | exact wpAny_bind (wpAny_pure (wpAny_pure (hR h' _ _ fun b o hb _ e => he b o (by simpa using hb) e)))
  | succ k ih =>
    intro i s hk hle st hSo hR
    have hlt : i < ns.length := by omega
    have hx : ns[i]? = some ns[i] := by simp [hlt]
    obtain ⟨h0, h1⟩ := hr ns[i] (List.getElem_mem hlt)
    refine codeAny_builtin F.bm_entry_loop ?_
    rw [Around.under_plainId F.bm_plain_loop _]
    show wpAny _ A.in1 (pyNext (.ref I) >>= _) _ _ s
    refine wpAny_bind (Wk.item i _ _ _ hlt st fun v h₃ tk₃ hPv st₃ k₃ => ?_)
    obtain ⟨t, rfl⟩ := hP i v _ hPv hx
    have hS' : h₃.get? S = some (baO (byteArr (ns.take i))) := k₃ S _ (by simpa using Ne.symm hIS) hSo
    refine wpAny_bind (wpAny_holding (wpAny_of_eq (rfl : asIndex (.int ns[i] t) = pure ns[i]) ?_))
    refine wpAny_bind (wpAny_letGo ?_)
    refine bm_if_false (by simp only [Bool.or_eq_false_iff, decide_eq_false_iff_not]; omega) ?_
    refine wpAny_bind (ba_write hS' (by rw [Array.size_push, byteArr_size, List.length_take, sizeLine_eq]; omega) fun h₄ sb hS₄ => ?_)
    rw [← byteArr_take hx] at hS₄
    refine wpAny_pure ⟨plainId_quiet F.bm_plain_loop _, ih (i + 1) { s with heap := h₄, toks := tk₃ } (by omega) hlt (Wk.frame _ _ _ st₃ fun b hb o e => sb.extBut b o (fun z => hS (z ▸ hb)) e) hS₄ fun h3 t' k' hk3 => ?_⟩
    exact hR h3 t' k' fun b o hbI hbS e => hk3 b o hbI hbS (sb.extBut b o hbS (k₃ b o (by simpa using hbI) e))

/-- bytes(tuple of ints) -/
theorem bt_new {a : Addr} {vs : List Value} {m : Nat} {ns : List Int} {Q : Value → Shared → Prop} (hh : A.handled = none) (ho : s.heap.get? a = some (tupO vs m)) (hi : Paired (IntR s.heap) vs ns) (hr : ∀ n ∈ ns, 0 ≤ n ∧ n < 256) (hz : ns.length ≤ 1000)
    (hQ : ∀ h' t k, Ext s.heap h' → Q (.bytes (byteArr ns) t) { s with heap := h', toks := k }) :
    codeAny (model prog w) A (.call (.builtin "bytes.__new__") ⟨[.type "bytes", .ref a], []⟩) (wants Q E) s := by
  refine codeAny_of_tree ?_
  show wpAny _ A.in1 (do checkBuiltinCall "bytes.__new__" ⟨[.type "bytes", .ref a], []⟩; again (.builtin "bytes.__new__" ⟨[.type "bytes", .ref a], []⟩)) _ _ s
  refine wpAny_bind (wpAny_of_eq (F.bm_newCall _) (wpAny_pure ⟨plainId_quiet F.bm_plain _, codeAny_builtin F.bm_entry ?_⟩))
  rw [Around.under_plainId F.bm_plain _]
  have hT : s.TypeIs (.ref a) "tuple" := ⟨_, ho, rfl⟩
  unfold Builtin.«bytes.__new__»
  refine wpAny_bind (wpAny_of_eq (a := true) rfl ?_)
  refine bm_if_false rfl ?_
  refine wpAny_bind (wpAny_of_eq F.bm_sub ?_)
  refine bm_if_false rfl ?_
  refine wpAny_bind (wpAny_of_eq (F.bm_bind _) ?_)
  refine wpAny_bind (wpAny_of_eq (a := ()) rfl ?_)
  refine wpAny_bind (wpAny_of_eq (a := ()) rfl ?_)
  refine bm_if_false rfl ?_
  refine wpAny_bind (wpAny_specialOf hT et_no_bytes ?_)
  refine wpAny_bind (wpAny_bind ?_)
  show wpAny _ _ (load a >>= _) _ _ _
  refine wpAny_bind (wpAny_load ho ?_)
  refine wpAny_pure (wpAny_pure ?_)
  refine bm_if_false rfl ?_
  refine wpAny_bind (wpAny_specialOf hT et_no_index ?_)
  refine bm_if_true rfl ?_
  first
    | show wpAny _ _ (Builtin.Bytes.buffer? "bytes.__new__" (.ref a) true >>= _) _ _ _
    | (refine wpAny_bind ?_; show wpAny _ _ (Builtin.Bytes.buffer? "bytes.__new__" (.ref a) true >>= _) _ _ _)
  refine wpAny_bind ?_
  unfold Builtin.Bytes.buffer?
  refine wpAny_bind (wpAny_specialOf hT et_no_buffer ?_)
  refine wpAny_bind (wpAny_specialOf hT et_no_buffer ?_)
  refine wpAny_pure ?_
  refine wpAny_bind (wpAny_tryCatch (Iters.tup (prog := prog) (w := w) (g := s.heap) (R := IntR) (xs := ns) ⟨a, vs, m, rfl, ho, hi⟩ A.in1 s _ _ hh (Ext.refl _) fun I fp P St h₁ Wk st e₁ hI hIo hfp hIo' hP hfx => ?_))
  have ho₁ : h₁.get? a = some (tupO vs m) := e₁ _ _ ho
  have hT₁ : ({ s with heap := h₁ } : Shared).TypeIs (.ref a) "tuple" := ⟨_, ho₁, rfl⟩
  refine wpAny_bind (wpAny_holding ?_)
  unfold Builtin.Bytes.lengthHint
  refine wpAny_bind (wpAny_specialOf hT₁ F.slot_tuple_len.lookup ?_)
  dsimp only
  rw [et_split]
  dsimp only
  refine wpAny_bind (wpAny_isInstance hT₁ et_sub_tuple ?_)
  refine bm_if_false rfl ?_
  refine bm_if_true (by decide +kernel) ?_
  refine wpAny_pure ?_
  refine wpAny_bind ?_
  unfold Builtin.Bytes.newBytearray
  refine wpAny_newObj_type ?_ (Nat.zero_le _)
  have st' : St 0 (h₁.push (baO #[])) := Wk.frame _ _ _ st fun b _ o e => Heap.get?_push_of_some _ e
  have hIl : I < h₁.objs.size := by obtain ⟨o, e, _⟩ := hIo; exact Heap.lt_size e
  have hSfp : h₁.objs.size ∉ fp := fun hm => Nat.lt_irrefl _ (hfp _ hm)
  have main := bt_loop (prog := prog) (w := w) (A := A) (R := wants Q E) Wk (fun i v x hp hx => hP i v x hp hx) hr hz (Nat.ne_of_lt hIl) hSfp
    ns.length 0 { s with heap := h₁.push (baO #[]) } rfl (Nat.zero_le _) st' (Heap.get?_push_size _ rfl)
    fun h' t k hk => hQ h' t k fun b o e => hk b o (fun z => by rw [z, hI] at e; cases e) (Nat.ne_of_lt (Heap.lt_size (e₁ _ _ e))) (Heap.get?_push_of_some _ (e₁ _ _ e))
  first
    | exact wpAny_pure ⟨plainId_quiet F.bm_plain_loop _, main⟩
    | exact wpAny_pure (wpAny_pure ⟨plainId_quiet F.bm_plain_loop _, main⟩)
theorem bt_call {a : Addr} {vs : List Value} {m : Nat} {ns : List Int} {Q : Value → Shared → Prop} (hh : A.handled = none) (ho : s.heap.get? a = some (tupO vs m)) (hi : Paired (IntR s.heap) vs ns) (hr : ∀ n ∈ ns, 0 ≤ n ∧ n < 256) (hz : ns.length ≤ 1000)
    (hQ : ∀ h' t k, Ext s.heap h' → Q (.bytes (byteArr ns) t) { s with heap := h', toks := k }) : wpAny (model prog w) A (PySem.call (.type "bytes") [.ref a]) Q E s := by
  refine callType_codes (Q₁ := fun obj s₁ => s₁.TypeIs obj "bytes" ∧ Q obj s₁) F.bm_called (F.bm_typeCall _) F.entry_object_init
    (bt_new hh ho hi hr hz fun h' t k hk => ⟨PySem.W.typeIs_bytes _ _ _, hQ h' t k hk⟩) fun obj s₁ h₁ => ?_
  exact ⟨h₁.1, F.args_object_init_2 obj _, object_init_meets F.bm_called.init.lookup F.bm_called.made (by decide) prog w A.in1 _ s₁ ⟨h₁.1, rfl, h₁.2⟩⟩

/-- bytes(bytearray) -/
theorem ba_buffer {S : Addr} {b : Array UInt8} {id : String} {full : Bool} {Q : Option (Array UInt8) → Shared → Prop} (hS : s.heap.get? S = some (baO b)) (h : Q (some b) s) : wpAny (model prog w) A (Builtin.Bytes.buffer? id (.ref S) full) Q E s := by
  have hT : s.TypeIs (.ref S) "bytearray" := ⟨_, hS, rfl⟩
  have key : ∀ x : String, x = "bytearray" → ∀ {Q : Bool → Shared → Prop}, Q true s → wpAny (model prog w) A (isInstance (.ref S) (.type x)) Q E s := fun x hx Q q => by rw [hx]; exact wpAny_isInstance hT ba_sub q
  unfold Builtin.Bytes.buffer?
  refine wpAny_bind (wpAny_specialOf hT ba_look_buffer ?_)
  dsimp only
  refine wpAny_bind ?_
  unfold Builtin.Bytes.slotIsOwn
  refine wpAny_bind (wpAny_specialOf hT ba_look_buffer ?_)
  dsimp only
  refine bm_if_false (by decide +kernel) ?_
  refine key _ (by decide +kernel) ?_
  refine bm_if_false rfl ?_
  refine wpAny_bind (wpAny_specialOf hT ba_look_buffer ?_)
  try dsimp only
  refine wpAny_bind (ba_release hS ?_)
  refine bm_if_false rfl ?_
  refine wpAny_bind ?_
  unfold Builtin.Bytes.payload Builtin.Bytes.payload?
  refine wpAny_bind (wpAny_bind (wpAny_load hS ?_))
  exact wpAny_pure (wpAny_pure (wpAny_pure h))
theorem bb_new {S : Addr} {b : Array UInt8} {Q : Value → Shared → Prop} (hS : s.heap.get? S = some (baO b)) (hz : b.size ≤ 1000)
    (hQ : ∀ t k, Q (.bytes b t) { s with toks := k }) :
    codeAny (model prog w) A (.call (.builtin "bytes.__new__") ⟨[.type "bytes", .ref S], []⟩) (wants Q E) s := by
  refine codeAny_of_tree ?_
  show wpAny _ A.in1 (do checkBuiltinCall "bytes.__new__" ⟨[.type "bytes", .ref S], []⟩; again (.builtin "bytes.__new__" ⟨[.type "bytes", .ref S], []⟩)) _ _ s
  refine wpAny_bind (wpAny_of_eq (F.bm_newCall _) (wpAny_pure ⟨plainId_quiet F.bm_plain _, codeAny_builtin F.bm_entry ?_⟩))
  rw [Around.under_plainId F.bm_plain _]
  have hT : s.TypeIs (.ref S) "bytearray" := ⟨_, hS, rfl⟩
  unfold Builtin.«bytes.__new__»
  refine wpAny_bind (wpAny_of_eq (a := true) rfl ?_)
  refine bm_if_false rfl ?_
  refine wpAny_bind (wpAny_of_eq F.bm_sub ?_)
  refine bm_if_false rfl ?_
  refine wpAny_bind (wpAny_of_eq (F.bm_bind _) ?_)
  refine wpAny_bind (wpAny_of_eq (a := ()) rfl ?_)
  refine wpAny_bind (wpAny_of_eq (a := ()) rfl ?_)
  refine bm_if_false rfl ?_
  refine wpAny_bind (wpAny_specialOf hT ba_no_bytes ?_)
  refine wpAny_bind (wpAny_bind ?_)
  show wpAny _ _ (load S >>= _) _ _ _
  refine wpAny_bind (wpAny_load hS ?_)
  refine wpAny_pure (wpAny_pure ?_)
  refine bm_if_false rfl ?_
  refine wpAny_bind (wpAny_specialOf hT ba_no_index ?_)
  refine bm_if_true rfl ?_
  first
    | show wpAny _ _ (Builtin.Bytes.buffer? "bytes.__new__" (.ref S) true >>= _) _ _ _
    | (refine wpAny_bind ?_; show wpAny _ _ (Builtin.Bytes.buffer? "bytes.__new__" (.ref S) true >>= _) _ _ _)
  refine wpAny_bind (ba_buffer hS ?_)
  dsimp only
  refine wpAny_bind (wpAny_rule ?_)
  refine wpAny_bind (wpAny_mkBytes ?_ (by rw [sizeLine_eq]; omega))
  show wpAny _ _ (if (Value.type "bytes" == Value.type "bytes") = true then _ else _) _ _ _
  refine bm_if_true (by decide) ?_
  first
    | exact wpAny_pure (hQ _ _)
    | exact wpAny_bind (wpAny_pure (wpAny_pure (hQ _ _)))
theorem bb_call {S : Addr} {b : Array UInt8} {Q : Value → Shared → Prop} (hS : s.heap.get? S = some (baO b)) (hz : b.size ≤ 1000)
    (hQ : ∀ t k, Q (.bytes b t) { s with toks := k }) : wpAny (model prog w) A (PySem.call (.type "bytes") [.ref S]) Q E s := by
  refine callType_codes (Q₁ := fun obj s₁ => s₁.TypeIs obj "bytes" ∧ Q obj s₁) F.bm_called (F.bm_typeCall _) F.entry_object_init
    (bb_new hS hz fun t k => ⟨PySem.W.typeIs_bytes _ _ _, hQ t k⟩) fun obj s₁ h₁ => ?_
  exact ⟨h₁.1, F.args_object_init_2 obj _, object_init_meets F.bm_called.init.lookup F.bm_called.made (by decide) prog w A.in1 _ s₁ ⟨h₁.1, rfl, h₁.2⟩⟩
end
end Mine

namespace Mine


theorem ba_slot_set : Slot "bytearray" "__setitem__" "bytearray.__setitem__" :=
  .of (owner := "bytearray") (n := "__setitem__") (by rw [typeLookup_type, builtinLookup_eq_fast]; kernel_rfl) (by decide +kernel) (by decide +kernel) (by decide +kernel)
    (by first | exact .inl (by decide +kernel) | exact .inr (by decide +kernel)) (by rw [isSubtype_type]; kernel_rfl)
theorem ba_entry_set : entryFor table "bytearray.__setitem__" = some Builtin.«bytearray.__setitem__» := entryFor_of_fast (by kernel_rfl)
theorem ba_args_set (a b c : Value) : argsOk "bytearray.__setitem__" ⟨[a, b, c], []⟩ := by
  unfold argsOk; kernel_rfl

section
variable {prog : Program} {w : World} {A : Around} {E : Value → Shared → Prop} {s : Shared}
theorem sub_int {k : Nat} {t : Tok} {Q : Option Int → Shared → Prop} (hz : k ≤ 1000) (h : Q (some (k : Int)) s) : wpAny (model prog w) A (Builtin.Bytes.subscript? (.int k t)) Q E s := by
  have hf : Builtin.Bytes.fitsIndex (k : Int) = true := by unfold Builtin.Bytes.fitsIndex; simp; omega
  unfold Builtin.Bytes.subscript?
  generalize hF : Builtin.Bytes.fitsIndex = FX at hf ⊢
  refine wpAny_bind (wpAny_specialOf (T := "int") (typeIs_int _ _ _) F.slot_int_index.lookup ?_)
  refine bm_if_false rfl ?_
  refine wpAny_bind (wpAny_of_eq (rfl : asIndex (.int (k : Int) t) = pure (k : Int)) ?_)
  exact bm_if_false (by rw [hf]; rfl) (wpAny_pure h)
theorem byte_int {x : Int} {u : Tok} {Q : UInt8 → Shared → Prop} (h0 : 0 ≤ x) (h1 : x < 256) (h : Q x.toNat.toUInt8 s) : wpAny (model prog w) A (Builtin.Bytes.byteValue (.int x u)) Q E s := by
  unfold Builtin.Bytes.byteValue
  refine wpAny_bind (wpAny_of_eq (rfl : asIndex (.int x u) = pure x) ?_)
  exact bm_if_false (by simp only [Bool.or_eq_false_iff, decide_eq_false_iff_not]; omega) (wpAny_pure h)
theorem ba_payload {S : Addr} {b : Array UInt8} {Q : Array UInt8 → Shared → Prop} (hS : s.heap.get? S = some (baO b)) (h : Q b s) : wpAny (model prog w) A (Builtin.Bytes.payload (.ref S)) Q E s := by
  unfold Builtin.Bytes.payload Builtin.Bytes.payload?
  refine wpAny_bind (wpAny_bind (wpAny_load hS ?_))
  exact wpAny_pure (wpAny_pure h)
theorem ba_set {S : Addr} {b : Array UInt8} {k : Nat} {x : Int} {t u : Tok} {Q : Unit → Shared → Prop} (hS : s.heap.get? S = some (baO b)) (hk : k < b.size) (hz : b.size ≤ 1000) (h0 : 0 ≤ x) (h1 : x < 256)
    (hQ : ∀ h', h'.get? S = some (baO (b.setIfInBounds k x.toNat.toUInt8)) → (∀ c o, c ≠ S → s.heap.get? c = some o → h'.get? c = some o) → Q () { s with heap := h' }) :
    wpAny (model prog w) A (setItem (.ref S) (.int k t) (.int x u)) Q E s := by
  have hT : s.TypeIs (.ref S) "bytearray" := ⟨_, hS, rfl⟩
  unfold setItem
  try with_reducible refine wpAny_holding ?_
  refine wpAny_bind (wpAny_sequenceKey hT (by decide) ?_)
  refine wpAny_bind (wpAny_callSpecial?_slot (name := Str.ofString "__setitem__") hT ba_slot_set
    (wpAny_call_entry ba_slot_set hT ba_entry_set ?_ (ba_args_set _ _ _)))
  unfold Builtin.«bytearray.__setitem__»
  simp only [List.isEmpty_nil, Bool.not_true, Bool.false_eq_true, if_false]
  generalize hk2 : (fun (x : Option Int) => (_ : Sem PySem.Fin)) = kk
  have hk3 : k ≤ 1000 := by omega
  with_reducible refine wpAny_bind ?_
  with_reducible refine sub_int (k := k) (t := t) hk3 ?_
  rw [← hk2]
  clear hk2 kk
  dsimp only
  refine wpAny_bind (byte_int h0 h1 ?_)
  refine wpAny_bind (ba_payload hS ?_)
  rw [seqIndex_in (Int.natCast_nonneg k) (by omega)]
  dsimp only
  refine wpAny_bind (ba_write hS (by rw [Array.size_setIfInBounds, sizeLine_eq]; omega) fun h₂ sb₂ hS₂ => ?_)
  refine wpAny_pure ⟨.none, rfl, ?_⟩
  exact wpAny_pure (hQ h₂ hS₂ fun c o hc e => sb₂.extBut c o hc e)
end
end Mine

namespace Mine


def byteOf (x : Int) : UInt8 := x.toNat.toUInt8
/-- the bytearray after j turns -/
def mixB (row : List Int) (j : Nat) : Array UInt8 := (List.replicate (row.length - j) 0 ++ ((row.take j).map byteOf).reverse).toArray
theorem mix_zero (row : List Int) : mixB row 0 = Array.replicate row.length 0 := by simp [mixB]
theorem mix_end (row : List Int) : mixB row row.length = byteArr row.reverse := by
  unfold mixB byteArr
  simp [List.map_reverse]
  intro _ _
  rfl
theorem mix_size {row : List Int} {j : Nat} (h : j ≤ row.length) : (mixB row j).size = row.length := by
  simp [mixB]
  omega
theorem mix_set {row : List Int} {j : Nat} (h : j < row.length) : (mixB row j).setIfInBounds (row.length - 1 - j) (byteOf (row.getD j 0)) = mixB row (j + 1) := by
  have hx : row[j]? = some (row.getD j 0) := getD_get h
  unfold mixB
  rw [List.setIfInBounds_toArray]
  congr 1
  have e : row.length - j = (row.length - 1 - j) + 1 := by omega
  have e2 : row.length - (j + 1) = row.length - 1 - j := by omega
  rw [List.take_add_one, hx, e2]
  generalize row.length - 1 - j = k at e ⊢
  rw [e, List.replicate_succ']
  rw [List.append_assoc, List.set_append_right _ _ (by simp)]
  simp

theorem boot_bytearray : bootBuiltins "bytearray" = some (.type "bytearray") := by decide +kernel

section
variable {prog : Program} {w : World} {n : Nat} {g : Heap} {env : Env} {pos fpos : Pos} {mg mb : Str → Option Value}
theorem Run.lenB {v : Value} {b : Array UInt8} (h : BytR g v b) (hl : b.size ≤ 1000) : Run prog w n g (PySem.call (.builtin "len") [v]) (fun h r => IntR h r b.size) := fun A s E a x => by
  obtain ⟨t, rfl⟩ := h
  exact len_bytes (by omega) ⟨⟨_, rfl⟩, keeps_tok⟩
theorem Run.lenOfB {e : Expr} {b : Array UInt8} (K : EnvOk env) (G : Gd mg mb g) (hk : env.kindOf (Str.ofString "len") = some .globalImplicit) (h : Run prog w n g (eval e env) (fun h v => BytR h v b)) (hl : b.size ≤ 1000)
    (he : starEach [e] env = [(false, eval e env)] := by rfl) : Run prog w n g (eval (.Call (.Name (Str.ofString "len") fpos) [e] [] pos) env) (fun h v => IntR h v b.size) :=
  Run.call1 (Run.built' K G (by decide) boot_len hk (by decide) (by decide)) (.inl ⟨_, rfl⟩) h (fun _ _ _ x p => p) (fun g' v x p => Run.lenB p hl) he
theorem Run.itemB {value slice : Expr} {b : Array UInt8} {ks : List Int} {k : Int} (hk : KBw.bInts b = ks) (h₁ : Run prog w n g (eval value env) (fun h v => BytR h v b)) (h₂ : Run prog w n g (eval slice env) (fun h v => IntR h v k))
    (h0 : 0 ≤ k) (h1 : k < ks.length) (hl : ks.length ≤ 1000) (hs : NotSlice slice = true := by rfl) (ht : ∀ b t r, letTemporaryGo value (.bytes b t) r = pure () := by intro _ _ _; with_unfolding_all rfl) :
    Run prog w n g (eval (.Subscript value slice pos) env) (fun h v => IntR h v (ks.getD k.toNat 0)) :=
  Run.subscript h₁ (fun _ _ _ e p => p) h₂ fun g' o i x p₁ p₂ A s E a e => by
    obtain ⟨t, rfl⟩ := p₁
    obtain ⟨u, rfl⟩ := p₂
    exact KBw.item_K hk (by omega) h0 h1 (fun t' k _ _ => ⟨⟨_, rfl⟩, keeps_tok⟩) (subscripted_plain hs) (ht _ _)
theorem range_step {e₁ e₂ e₃ : Expr} {a : Int} (K : EnvOk env) (G : Gd mg mb g) (hk : env.kindOf (Str.ofString "range") = some .globalImplicit) (h₁ : Run prog w n g (eval e₁ env) (fun h v => IntR h v 0)) (h₂ : Run prog w n g (eval e₂ env) (fun h v => IntR h v a)) (h₃ : Run prog w n g (eval e₃ env) (fun h v => IntR h v a))
    (h0 : 0 < a) (h1 : a ≤ 1000) (he : starEach [e₁, e₂, e₃] env = [(false, eval e₁ env), (false, eval e₂ env), (false, eval e₃ env)] := by rfl) (he₂ : starEach [e₂, e₃] env = [(false, eval e₂ env), (false, eval e₃ env)] := by rfl) :
    Run prog w n g (eval (.Call (.Name (Str.ofString "range") fpos) [e₁, e₂, e₃] [] pos) env) (fun h v => Iters prog w h v IntR (rangeL 0 a 1) ∧ ∃ r, v = .ref r ∧ g.get? r = none) :=
  Run.call3 (Run.built' K G (by decide) PyProof.Rows.boot_range hk (by decide) (by decide)) (.inr (.inl ⟨_, rfl⟩)) h₁ (fun _ _ _ x p => p) h₂ (fun _ _ _ x p => p) h₃ (fun _ _ _ x p => p) (fun g' v₁ v₂ v₃ x p₁ p₂ p₃ A s E ok e => by
    obtain ⟨t, rfl⟩ := p₁
    obtain ⟨t', rfl⟩ := p₂
    obtain ⟨t'', rfl⟩ := p₃
    have hsz : Builtin.Range.rangeSize 0 a a = 1 := by
      unfold Builtin.Range.rangeSize
      simp only [show a > 0 by omega, if_true]
      rw [show a - 0 - 1 = a - 1 by omega, Int.ediv_eq_zero_of_lt (by omega) (by omega)]
      rfl
    have hsm : Builtin.Range.small 0 a a = true := by
      unfold Builtin.Range.small
      rw [hsz]
      simp only [Builtin.Range.rangeFitsLong, Bool.and_eq_true, Bool.or_eq_true, decide_eq_true_eq, beq_iff_eq]
      rw [if_pos (by omega)]
      simp only [Bool.and_eq_true, decide_eq_true_eq]
      omega
    refine call_range_3 (by omega) ⟨⟨Iters.range ⟨_, a, _, _, _, rfl, IsRange.new s.heap 0 a a _ _ _, hsm, hsz⟩, _, rfl, ?_⟩, keeps_mk (Ext.push _ _)⟩ (.inl (PyProof.noPylong_small (by omega)))
    cases q : g.get? s.heap.objs.size with
    | none => rfl
    | some o => exact absurd (Heap.lt_size ((x.trans e) _ _ q)) (Nat.lt_irrefl _)) he he₂
end
end Mine

namespace Mine


structure SwapS (env : Env) (S : Addr) (vb vn : Value) (b : Array UInt8) (h : Heap) (m : Str → Option Value) : Prop where
  ns : h.Ns env.locals m
  data : m (Str.ofString "data") = some vb
  width : m (Str.ofString "width") = some vn
  swapped : m (Str.ofString "swapped_data") = some (.ref S)
  arr : h.get? S = some (baO b)

theorem SwapS.keep {env : Env} {S : Addr} {vb vn : Value} {b : Array UInt8} {h h' : Heap} {m : Str → Option Value} (x : SwapS env S vb vn b h m) (hL : ∀ o, h.get? env.locals = some o → h'.get? env.locals = some o) (hS : ∀ o, h.get? S = some o → h'.get? S = some o) : SwapS env S vb vn b h' m :=
  ⟨x.ns.at' hL, x.data, x.width, x.swapped, hS _ x.arr⟩
theorem SwapS.ext {env : Env} {S : Addr} {vb vn : Value} {b : Array UInt8} {h h' : Heap} {m : Str → Option Value} (x : SwapS env S vb vn b h m) (e : Ext h h') : SwapS env S vb vn b h' m := x.keep (fun o q => e _ o q) fun o q => e _ o q
theorem ne_of_get {h : Heap} {a b : Addr} {o : Obj} (x : h.get? a = none) (y : h.get? b = some o) : a ≠ b := fun z => by
  rw [z, y] at x
  cases x
theorem ns_get {h : Heap} {a : Addr} {m : Str → Option Value} (x : h.Ns a m) : ∃ o, h.get? a = some o := by
  obtain ⟨o, _, _, ho, _⟩ := x
  exact ⟨o, ho⟩
theorem baO_no_tup {b : Array UInt8} : ∀ us k, baO b ≠ tupO us k := fun us k e => by
  have := congrArg Obj.cls e
  simp [baO] at this

section
variable {prog : Program} {w : World} {n : Nat} {mg mb : Str → Option Value}


theorem range_new {env : Env} {g : Heap} {pos fpos : Pos} {e : Expr} {a : Int} (K : EnvOk env) (G : Gd mg mb g) (hk : env.kindOf (Str.ofString "range") = some .globalImplicit) (h : Run prog w n g (eval e env) (fun h v => IntR h v a)) (h0 : 0 ≤ a) (h1 : a ≤ 100000)
    (he : starEach [e] env = [(false, eval e env)] := by rfl) : Run prog w n g (eval (.Call (.Name (Str.ofString "range") fpos) [e] [] pos) env) (fun h v => Iters prog w h v IntR (rangeL 0 1 a.toNat) ∧ ∃ r, v = .ref r ∧ g.get? r = none) :=
  Run.call1 (Run.built' K G (by decide) PyProof.Rows.boot_range hk (by decide) (by decide)) (.inr (.inl ⟨_, rfl⟩)) h (fun _ _ _ x p => p) (fun g' v x p A s E ok e => by
    obtain ⟨t, rfl⟩ := p
    refine call_range_1 ⟨⟨Iters.range ⟨_, a, _, _, _, rfl, IsRange.new s.heap 0 a 1 _ _ _, small_one' h0 h1, ?_⟩, _, rfl, ?_⟩, keeps_mk (Ext.push _ _)⟩
    · rw [rangeSize_one]
      split <;> omega
    · cases q : g.get? s.heap.objs.size with
      | none => rfl
      | some o => exact absurd (Heap.lt_size ((x.trans e) _ _ q)) (Nat.lt_irrefl _)) he
theorem range_one {a : Int} : (rangeL 0 a 1)[0]? = some 0 := by simp [rangeL]
set_option maxHeartbeats 1000000 in
theorem swap_tail {env : Env} {g : Heap} {S : Addr} {row : List Int} {t u : Tok} {A : Around} {s : Shared} {E : Value → Shared → Prop} {m₅ : Str → Option Value}
    (G0 : Gd mg mb g) (eg : Ext g s.heap) (hgL : g.get? env.locals = none) (hgS : g.get? S = none) (K : EnvOk env) (ok1 : AOk (n + 5) A) (hb : KBw.bInts (byteArr row) = row) (hr : ∀ x ∈ row, 0 ≤ x ∧ x < 256) (h0 : 0 < row.length) (hl : row.length ≤ 100) (hSL : S ≠ env.locals)
    (kd : env.kindOf (Str.ofString "data") = some .local) (kw : env.kindOf (Str.ofString "width") = some .local) (ks : env.kindOf (Str.ofString "swapped_data") = some .local) (ki : env.kindOf (Str.ofString "i") = some .local) (kj : env.kindOf (Str.ofString "j") = some .local)
    (klen : env.kindOf (Str.ofString "len") = some .globalImplicit) (krange : env.kindOf (Str.ofString "range") = some .globalImplicit) (kbytes : env.kindOf (Str.ofString "bytes") = some .globalImplicit)
    (i₅ : SwapS env S (.bytes (byteArr row) t) (.int row.length u) (mixB row 0) s.heap m₅) :
    wpAny (model prog w) A (execs (fnD 1).body.tail env) (fun fl s' => ∃ t', fl = .ret (.bytes (byteArr row.reverse) t') ∧ KX [env.locals, S] s s') E s := by
  have hsz : (byteArr row).size = row.length := byteArr_size row
  have hS₅ := i₅.arr
  have G := G0.ext eg
  have hgX : ∀ c ∈ [env.locals, S], g.get? c = none := fun c hc => by
    simp only [List.mem_cons, List.not_mem_nil, or_false] at hc
    rcases hc with rfl | rfl
    · exact hgL
    · exact hgS
  -- for i in range(0, len(data), width)
  obtain ⟨oL₅, hL₅⟩ := ns_get i₅.ns
  have ndbg : ∀ {I : Addr}, s.heap.get? I = none → I ≠ env.locals ∧ I ≠ S := fun hI => ⟨ne_of_get hI hL₅, ne_of_get hI hS₅⟩
  refine wpAny_execs_cons (wp_for (n := n + 5) (α := Int) (R := IntR) (xs := rangeL 0 row.length 1) [env.locals, S] (fun k s' => ∃ m, SwapS env S (.bytes (byteArr row) t) (.int row.length u) (mixB row (if k = 0 then 0 else row.length)) s'.heap m) ok1 IntR.t ?_ ?_ (fun s₆ k₆ => ⟨m₅, i₅.ext (keeps_ext k₆)⟩) ?_ ?_ ?_)
  · refine (range_step (n := n + 5) (a := row.length) K (G) krange Run.int ((Run.lenOfB (b := byteArr row) K (G) klen (Run.nameR K (sees_loc kd i₅.ns i₅.data) ⟨t, rfl⟩ BytR.mono) (by omega)).mono fun _ _ _ q => by rw [hsz] at q; exact q) (Run.nameR K (sees_loc kw i₅.ns i₅.width) ⟨u, rfl⟩ IntR.mono) (by omega) (by omega)).mono fun h' v x q => ?_
    obtain ⟨it, r, rfl, hr'⟩ := q
    refine ⟨it, fun c hc z => ?_⟩
    have hx := ndbg hr'
    have z' : r = c := by injection z
    simp only [List.mem_cons, List.not_mem_nil, or_false] at hc
    rcases hc with rfl | rfl
    · exact hx.1 z'
    · exact hx.2 z'
  · intro c hc
    simp only [List.mem_cons, List.not_mem_nil, or_false] at hc
    rcases hc with rfl | rfl
    · exact ns_no_tup i₅.ns
    · exact ⟨_, hS₅, baO_no_tup⟩
  · rintro k I s₆ s₇ hI _ kx ⟨m, im⟩ kI
    have hx := ndbg hI
    exact ⟨m, im.keep (fun o q => kI.get (by simpa using Ne.symm hx.1) q) fun o q => kI.get (by simpa using Ne.symm hx.2) q⟩
  · rintro k v y s₆ E₂ hy ⟨ti, rfl⟩ ⟨m₆, i₆⟩ kx₆
    have hk0 : k = 0 ∧ y = 0 := by
      have hlt : k < (rangeL 0 row.length 1).length := by
        rcases Nat.lt_or_ge k (rangeL 0 row.length 1).length with q | q
        · exact q
        · rw [List.getElem?_eq_none q] at hy; cases hy
      rw [rangeL_len] at hlt
      have : k = 0 := by omega
      subst this
      rw [range_one] at hy
      exact ⟨rfl, (Option.some.inj hy).symm⟩
    obtain ⟨rfl, rfl⟩ := hk0
    simp only [if_true] at i₆
    refine wpAny_assign_Name (wpAny_storeName_local ki i₆.ns (fun h₇ hns₇ hs₇ => ?_) (by rw [K.kind]; rfl))
    have hSL₆ : S ≠ env.locals := hSL
    have i₇ : SwapS env S (.bytes (byteArr row) t) (.int row.length u) (mixB row 0) h₇ (fun y => if y = Str.ofString "i" then some (.int 0 ti) else m₆ y) :=
      ⟨hns₇, by rw [if_neg (by decide)]; exact i₆.data, by rw [if_neg (by decide)]; exact i₆.width, by rw [if_neg (by decide)]; exact i₆.swapped, hs₇.extBut S _ hSL i₆.arr⟩
    have mi₇ : (fun y => if y = Str.ofString "i" then some (Value.int 0 ti) else m₆ y) (Str.ofString "i") = some (.int 0 ti) := if_pos rfl
    generalize (fun y => if y = Str.ofString "i" then some (Value.int 0 ti) else m₆ y) = m₇ at i₇ mi₇
    have kx₇ : KX [env.locals, S] s₆ { s₆ with heap := h₇, toks := s₆.toks + 1 } := ⟨h₇, _, rfl, fun b o hb q => hs₇.extBut b o (fun z => hb (by rw [z]; exact List.mem_cons_self)) q⟩
    have G₇ : Gd mg mb h₇ := G0.ext ((kx₆.trans kx₇).ext eg hgX)
    have nd7 : ∀ {I : Addr}, h₇.get? I = none → I ≠ env.locals ∧ I ≠ S := fun hI => by
      obtain ⟨oL₇, hL₇⟩ := ns_get i₇.ns
      exact ⟨ne_of_get hI hL₇, ne_of_get hI i₇.arr⟩
    -- for j in range(width)
    refine wpAny_execs_cons (wp_for (n := n + 5) (α := Int) (R := IntR) (xs := rangeL 0 1 row.length) [env.locals, S] (fun j s' => ∃ m, SwapS env S (.bytes (byteArr row) t) (.int row.length u) (mixB row j) s'.heap m ∧ m (Str.ofString "i") = some (.int 0 ti)) ok1 IntR.t ?_ ?_ (fun s₈ k₈ => ⟨m₇, i₇.ext (keeps_ext k₈), mi₇⟩) ?_ ?_ ?_)
    · refine (range_new (n := n + 5) (a := row.length) K G₇ krange (Run.nameR K (sees_loc kw i₇.ns i₇.width) ⟨u, rfl⟩ IntR.mono) (by omega) (by omega)).mono fun h' v x q => ?_
      obtain ⟨it, r, rfl, hr'⟩ := q
      refine ⟨by simpa using it, fun c hc z => ?_⟩
      have hx := nd7 hr'
      have z' : r = c := by injection z
      simp only [List.mem_cons, List.not_mem_nil, or_false] at hc
      rcases hc with rfl | rfl
      · exact hx.1 z'
      · exact hx.2 z'
    · intro c hc
      simp only [List.mem_cons, List.not_mem_nil, or_false] at hc
      rcases hc with rfl | rfl
      · exact ns_no_tup i₇.ns
      · exact ⟨_, i₇.arr, baO_no_tup⟩
    · rintro k I s₈ s₉ hI _ kx ⟨m, im, mi⟩ kI
      obtain ⟨oL₇, hL₇⟩ := ns_get i₇.ns
      have x1 := ne_of_get hI hL₇
      have x2 := ne_of_get hI i₇.arr
      exact ⟨m, im.keep (fun o q => kI.get (by simpa using Ne.symm x1) q) fun o q => kI.get (by simpa using Ne.symm x2) q, mi⟩
    · rintro j v y s₈ E₃ hy ⟨tj, rfl⟩ ⟨m₈, i₈, mi₈⟩ kx₈
      have hj : j < row.length ∧ y = (j : Int) := by
        have hlt : j < (rangeL 0 1 row.length).length := by
          rcases Nat.lt_or_ge j (rangeL 0 1 row.length).length with q | q
          · exact q
          · rw [List.getElem?_eq_none q] at hy; cases hy
        rw [rangeL_len] at hlt
        refine ⟨hlt, ?_⟩
        simp [rangeL, hlt] at hy
        omega
      obtain ⟨hj, rfl⟩ := hj
      refine wpAny_assign_Name (wpAny_storeName_local kj i₈.ns (fun h₉ hns₉ hs₉ => ?_) (by rw [K.kind]; rfl))
      have i₉ : SwapS env S (.bytes (byteArr row) t) (.int row.length u) (mixB row j) h₉ (fun y => if y = Str.ofString "j" then some (.int j tj) else m₈ y) :=
        ⟨hns₉, by rw [if_neg (by decide)]; exact i₈.data, by rw [if_neg (by decide)]; exact i₈.width, by rw [if_neg (by decide)]; exact i₈.swapped, hs₉.extBut S _ hSL i₈.arr⟩
      have mj₉ : (fun y => if y = Str.ofString "j" then some (Value.int j tj) else m₈ y) (Str.ofString "j") = some (.int j tj) := if_pos rfl
      have mi₉ : (fun y => if y = Str.ofString "j" then some (Value.int j tj) else m₈ y) (Str.ofString "i") = some (.int 0 ti) := by rw [show (fun y => if y = Str.ofString "j" then some (Value.int j tj) else m₈ y) (Str.ofString "i") = m₈ (Str.ofString "i") from if_neg (by decide)]; exact mi₈
      generalize (fun y => if y = Str.ofString "j" then some (Value.int j tj) else m₈ y) = m₉ at i₉ mj₉ mi₉
      have kx₉ : KX [env.locals, S] s₈ { s₈ with heap := h₉, toks := s₈.toks + 1 } := ⟨h₉, _, rfl, fun b o hb q => hs₉.extBut b o (fun z => hb (by rw [z]; exact List.mem_cons_self)) q⟩
      -- swapped_data[i + width - 1 - j] = data[i + j]
      refine wpAny_execs_cons (wpAny_Assign_Subscript ?_)
      refine (Run.itemB (n := n + 5) (g := h₉) (k := 0 + (j : Int)) hb (Run.nameR K (sees_loc kd i₉.ns i₉.data) ⟨t, rfl⟩ BytR.mono) (Run.add (Run.nameR K (sees_loc ki i₉.ns mi₉) ⟨ti, rfl⟩ IntR.mono) (Run.nameR K (sees_loc kj i₉.ns mj₉) ⟨tj, rfl⟩ IntR.mono)) (by omega) (by omega) (by omega)).use ok1 (Ext.refl _) fun vx sa hx ka => ?_
      obtain ⟨tx, rfl⟩ := hx
      obtain ⟨ha, ta, rfl, kka⟩ := ka
      have ia := i₉.ext kka
      refine (Run.name (n := n + 5) (g := ha) (P := fun _ v => v = .ref S) K (sees_loc ks ia.ns ia.swapped) fun _ _ => rfl).use ok1 (Ext.refl _) fun vo sb ho kb => ?_
      subst ho
      obtain ⟨hb', tb, rfl, kkb⟩ := kb
      have ib := ia.ext kkb
      refine (Run.sub (n := n + 5) (g := hb') (a := 0 + (row.length : Int) - 1) (b := (j : Int)) (Run.sub (Run.add (Run.nameR K (sees_loc ki ib.ns mi₉) ⟨ti, rfl⟩ IntR.mono) (Run.nameR K (sees_loc kw ib.ns ib.width) ⟨u, rfl⟩ IntR.mono)) Run.int) (Run.nameR K (sees_loc kj ib.ns mj₉) ⟨tj, rfl⟩ IntR.mono)).use ok1 (Ext.refl _) fun vi sc hi kc => ?_
      obtain ⟨tI, rfl⟩ := hi
      obtain ⟨hc', tc, rfl, kkc⟩ := kc
      have ic := ib.ext kkc
      have ek : (0 + (row.length : Int) - 1 - (j : Int)) = ((row.length - 1 - j : Nat) : Int) := by omega
      rw [ek]
      have ej : (0 + (j : Int)).toNat = j := by omega
      rw [ej]
      have hxr := hr (row.getD j 0) (List.mem_of_getElem? (getD_get hj))
      refine ba_set ic.arr (by rw [mix_size (by omega)]; omega) (by rw [mix_size (by omega)]; omega) hxr.1 hxr.2 fun hd' hSd kd' => ?_
      refine wpAny_execs_nil ⟨⟨m₉, ⟨ic.ns.at' fun o q => kd' _ _ (Ne.symm hSL) q, ic.data, ic.width, ic.swapped, ?_⟩, mi₉⟩, ?_⟩
      · rw [hSd]
        exact congrArg (fun z => some (baO z)) (mix_set hj)
      · refine kx₉.trans ⟨hd', tc, rfl, fun b o hb q => kd' b o (fun z => hb (by rw [z]; simp)) (kkc _ _ (kkb _ _ (kka _ _ q)))⟩
    · rintro s₈ ⟨m₈, i₈, mi₈⟩ kx₈
      rw [rangeL_len] at i₈
      exact wpAny_execs_nil ⟨⟨m₈, by rw [if_neg (by decide)]; exact i₈⟩, kx₇.trans kx₈⟩
  · rintro s₆ ⟨m₆, i₆⟩ kx₆
    rw [rangeL_len, if_neg (by decide), mix_end] at i₆
    have G₆ : Gd mg mb s₆.heap := G0.ext (kx₆.ext eg hgX)
    -- return bytes(swapped_data)
    refine wpAny_execs_cons (wpAny_Return_some ?_)
    refine (Run.call1 (n := n + 5) (g := s₆.heap) (P := fun h v => v = .ref S ∧ h.get? S = some (baO (byteArr row.reverse))) (Q := fun h v => ∃ t', v = .bytes (byteArr row.reverse) t') (Run.built' K G₆ (by decide) PyProof.Rows.boot_bytes kbytes (by decide) (by decide)) (.inr (.inl ⟨_, rfl⟩)) (Run.name K (sees_loc ks i₆.ns i₆.swapped) fun g' x => ⟨rfl, x _ _ i₆.arr⟩) (fun h h' v x p => ⟨p.1, x _ _ p.2⟩) (fun g' v x p A' s' E' a' x' => by
      obtain ⟨rfl, hS'⟩ := p
      exact bb_call (x' _ _ hS') (by rw [byteArr_size]; simp; omega) fun t' k => ⟨⟨t', rfl⟩, keeps_tok⟩)).use ok1 (Ext.refl _) fun v s₇ hv k₇ => ?_
    obtain ⟨t', rfl⟩ := hv
    exact ⟨t', rfl, kx₆.trans (KX.of k₇)⟩

set_option maxHeartbeats 1000000 in
theorem swap_call {a : Addr} {g : Heap} (G : Gd mg mb g) (F : FnIs mg g (fnD 1) a) {row : List Int} {t u : Tok} {A : Around} {s : Shared} {E : Value → Shared → Prop} {Q : Value → Shared → Prop}
    (ok : AOk (n + 6) A) (e : Ext g s.heap) (hr : ∀ x ∈ row, 0 ≤ x ∧ x < 256) (h0 : 0 < row.length) (hl : row.length ≤ 100)
    (h : ∀ t' s', Keeps s s' → Q (.bytes (byteArr row.reverse) t') s') :
    wpC (model prog w) A (PySem.call (.ref a) [.bytes (byteArr row) t, .int row.length u]) Q E s := by
  obtain ⟨hm, o, pm, cd, doc, ho, hd, hc⟩ := F
  have hb : KBw.bInts (byteArr row) = row := KBa.ints_make hr
  refine wpC_callDef (binds := [("data", .bytes (byteArr row) t), ("width", .int row.length u)]) ok.room (G.nolimit.keeps e) (e _ _ ho) hd (hc.keeps e) rfl rfl (by rfl) (fun L x hx => ?_) fun L s₁ E' k₁ hLn hns _ => ?_
  · simp only [List.mem_cons, List.not_mem_nil, or_false] at hx
    rcases hx with rfl | rfl
    · exact .inl (by rfl)
    · exact .inl (by rfl)
  have ok1 := (ok.le (show n + 5 + 1 ≤ n + 6 by omega)).deeper (envF 1 pm cd doc L a)
  have K : EnvOk (envF 1 pm cd doc L a) := ⟨by rfl, by rfl, by rfl⟩
  have hloc : (envF 1 pm cd doc L a).locals = L := by rfl
  have kd : (envF 1 pm cd doc L a).kindOf (Str.ofString "data") = some .local := by rfl
  have kw : (envF 1 pm cd doc L a).kindOf (Str.ofString "width") = some .local := by rfl
  have ks : (envF 1 pm cd doc L a).kindOf (Str.ofString "swapped_data") = some .local := by rfl
  have ki : (envF 1 pm cd doc L a).kindOf (Str.ofString "i") = some .local := by rfl
  have kj : (envF 1 pm cd doc L a).kindOf (Str.ofString "j") = some .local := by rfl
  have klen : (envF 1 pm cd doc L a).kindOf (Str.ofString "len") = some .globalImplicit := by rfl
  have krange : (envF 1 pm cd doc L a).kindOf (Str.ofString "range") = some .globalImplicit := by rfl
  have kbytes : (envF 1 pm cd doc L a).kindOf (Str.ofString "bytes") = some .globalImplicit := by rfl
  have kba : (envF 1 pm cd doc L a).kindOf (Str.ofString "bytearray") = some .globalImplicit := by rfl
  have md : bindL (envF 1 pm cd doc L a).kindOf [("data", Value.bytes (byteArr row) t), ("width", Value.int row.length u)] (fun _ => none) (Str.ofString "data") = some (.bytes (byteArr row) t) := by rfl
  have mw : bindL (envF 1 pm cd doc L a).kindOf [("data", Value.bytes (byteArr row) t), ("width", Value.int row.length u)] (fun _ => none) (Str.ofString "width") = some (.int row.length u) := by rfl
  change s₁.heap.Ns L (bindL (envF 1 pm cd doc L a).kindOf [("data", Value.bytes (byteArr row) t), ("width", Value.int row.length u)] (fun _ => none)) at hns
  generalize bindL (envF 1 pm cd doc L a).kindOf [("data", Value.bytes (byteArr row) t), ("width", Value.int row.length u)] (fun _ => none) = m₁ at md mw hns
  change wpC _ (A.deeper (envF 1 pm cd doc L a)) (execs (fnD 1).body (envF 1 pm cd doc L a)) _ _ _
  generalize envF 1 pm cd doc L a = env at K hloc kd kw ks ki kj klen krange kbytes kba ok1 ⊢
  obtain ⟨h₁, t₁, rfl, kk₁⟩ := k₁
  dsimp only at hns
  have e₁ : Ext g h₁ := e.trans kk₁
  rw [← hloc] at hns
  have hLs : s.heap.get? env.locals = none := by rw [hloc]; exact hLn
  have hsz : (byteArr row).size = row.length := byteArr_size row
  -- swapped_data = bytearray(len(data))
  refine wpC_execs_cons (wpC_Assign_Name (wpC_Call ?_))
  refine (Run.built' (n := n + 5) (v := .type "bytearray") K (G.ext e₁) (by decide) boot_bytearray kba (by decide) (by decide)).use ok1 (Ext.refl _) fun f s₂ hf k₂ => ?_
  subst hf
  refine wpC_callWith_type ?_
  obtain ⟨h₂, t₂, rfl, kk₂⟩ := k₂
  have hns₂ := hns.keeps kk₂
  refine (Run.cons (n := n + 5) (g := h₂) (Run.lenOfB (b := byteArr row) K (G.ext (e₁.trans kk₂)) klen (Run.nameR K (sees_loc kd hns₂ md) ⟨t, rfl⟩ BytR.mono) (by omega)) (fun _ _ _ _ p => p) Run.nil).use ok1 (Ext.refl _) fun vs s₃ p k₃ => ?_
  obtain ⟨v1, r1, rfl, ⟨t1, rfl⟩, p1⟩ := p
  have q1 : r1 = [] := p1
  subst q1
  obtain ⟨h₃, t₃, rfl, kk₃⟩ := k₃
  rw [hsz]
  refine ba_call (by omega) fun S h₄ hSn e₄ hS => ?_
  have hns₄ := (hns₂.keeps kk₃).keeps e₄
  refine wpAny_storeName_local ks hns₄ (fun h₅ hns₅ hs₅ => ?_) (by rw [K.kind]; rfl)
  have hSL : S ≠ env.locals := fun z => by
    obtain ⟨oL, _, _, hL, _⟩ := hns₂.keeps kk₃
    rw [z] at hSn
    dsimp only at hSn
    rw [hSn] at hL
    cases hL
  have hS₅ : h₅.get? S = some (baO (mixB row 0)) := by rw [mix_zero]; exact hs₅.extBut S _ hSL hS
  have ks₅ : ∀ b o, b ≠ env.locals → s.heap.get? b = some o → h₅.get? b = some o := fun b o hb q => hs₅.extBut b o hb (e₄ _ _ (kk₃ _ _ (kk₂ _ _ (kk₁ _ _ q))))
  have e₅ : Ext g h₅ := fun b o q => ks₅ b o (fun z => by have := e b o q; rw [z, hLs] at this; cases this) (e b o q)
  have hSs : s.heap.get? S = none := by
    cases q : s.heap.get? S with
    | none => rfl
    | some o => have := kk₃ _ _ (kk₂ _ _ (kk₁ _ _ q)); rw [hSn] at this; cases this
  have i₅ : SwapS env S (.bytes (byteArr row) t) (.int row.length u) (mixB row 0) h₅ (fun y => if y = Str.ofString "swapped_data" then some (.ref S) else m₁ y) :=
    ⟨hns₅, by rw [if_neg (by decide)]; exact md, by rw [if_neg (by decide)]; exact mw, if_pos rfl, hS₅⟩
  generalize (fun y => if y = Str.ofString "swapped_data" then some (Value.ref S) else m₁ y) = m₅ at i₅
  refine wpC_of ?_
  have hgL : g.get? env.locals = none := by
    cases q : g.get? env.locals with
    | none => rfl
    | some o => have := e _ _ q; rw [hLs] at this; cases this
  have hgS : g.get? S = none := by
    cases q : g.get? S with
    | none => rfl
    | some o => have := e _ _ q; rw [hSs] at this; cases this
  refine wpAny_mono (swap_tail (n := n) (s := { s with heap := h₅, toks := t₃ + 1 }) G e₅ hgL hgS K ok1 hb hr h0 hl hSL kd kw ks ki kj klen krange kbytes i₅) (fun fl s₆ h₆ => ?_) fun _ _ e => e
  obtain ⟨t', rfl, kx⟩ := h₆
  refine ⟨_, rfl, h t' _ ?_⟩
  obtain ⟨h₇, t₇, rfl, k₇⟩ := kx
  refine ⟨h₇, t₇, rfl, fun b o q => k₇ b o (fun hb' => ?_) (ks₅ b o (fun z => ?_) q)⟩
  · simp only [List.mem_cons, List.not_mem_nil, or_false] at hb'
    rcases hb' with rfl | rfl
    · rw [hLs] at q; cases q
    · rw [hSs] at q; cases q
  · rw [z, hLs] at q; cases q
end
end Mine

namespace Mine


/-- the sort's questions answered by a plain order -/
def evalT {α : Type} (lt : Nat → Nat → Bool) : KasT α → α
  | .ret a => a
  | .ask i j k => evalT lt (k (lt i j))

/-- all that is asked on the way lies below n -/
def okT {α : Type} (n : Nat) (lt : Nat → Nat → Bool) : KasT α → Bool
  | .ret _ => true
  | .ask i j k => decide (i < n) && decide (j < n) && okT n lt (k (lt i j))

section
variable {prog : Program} {w : World} {A : Around} {E : Value → Shared → Prop} {s : Shared}

theorem evalT_wp {α : Type} {cmp : Nat → Nat → (Bool → Shared → Prop) → Shared → Prop} {lt : Nat → Nat → Bool} {Q : α → Shared → Prop} {n : Nat} (I : Shared → Prop)
    (hc : ∀ i j C s, i < n → j < n → I s → (∀ s', I s' → C (lt i j) s') → cmp i j C s) : ∀ (t : KasT α) (s : Shared), okT n lt t = true → I s → (∀ s', I s' → Q (evalT lt t) s') → t.kasWp cmp Q s
  | .ret a, s, _, hI, h => h s hI
  | .ask i j k, s, ok, hI, h => by
    simp only [okT, Bool.and_eq_true, decide_eq_true_eq] at ok
    exact hc i j _ s ok.1.1 ok.1.2 hI fun s' hI' => evalT_wp I hc (k (lt i j)) s' ok.2 hI' h

/-- list.sort of a list of two or more -/
theorem sort_wp {D : Addr} {vs : List Value} {n : Nat} {κ : SortKind} {lt : Nat → Nat → Bool} {P : PySem.Fin → Shared → Prop} (ho : s.heap.get? D = some (lstO vs n)) (h2 : 2 ≤ vs.length) (h64 : vs.length < 64) (ok : okT vs.length lt (kas_sort vs.length) = true)
    (hk : ∀ s', TExt s.heap s'.heap → ∀ {Q : SortKind → Shared → Prop}, Q κ s' → wpAny (model prog w) A (keyKind' vs.toArray) Q (fun _ _ => False) s')
    (hlt : ∀ i j s', i < vs.length → j < vs.length → TExt s.heap s'.heap → ∀ {C : Bool → Shared → Prop}, (∀ tk, C (lt i j) { s' with toks := tk }) → wpAny (model prog w) A (keyLt' κ (vs.getD i .none) (vs.getD j .none)) C (fun _ _ => False) s')
    (h : ∀ s' c, s'.heap.get? D = some (lstO ((evalT lt (kas_sort vs.length)).toList.map fun i => vs.getD i .none) c) → KB D s s' → P (.done (.ret .none)) s') :
    wpAny (model prog w) A (Builtin.«list.sort» ⟨[.ref D], []⟩) P E s := by
  have ha : D < s.heap.objs.size := Heap.lt_size ho
  have s1 := Heap.SameBut.update s.heap D (Obj.mapSeq fun _ => (#[] : Array Value))
  obtain ⟨e1, ho1⟩ : ∃ e1, (s.heap.update D (Obj.mapSeq fun _ => (#[] : Array Value))).get? D = some (lstO [] e1) := ⟨_, get?_update_seq ho fun _ => #[]⟩
  rw [list_sort_plain]
  refine wpAny_bind (listItems_at ho rfl ?_)
  refine wpAny_bind (listUpdate_at ho rfl ?_ (by rw [List.size_toArray, sizeLine_eq]; omega) (Nat.zero_le _))
  refine wpAny_bind (seqEpoch_at ho1 rfl ?_)
  refine wpAny_bind (wpAny_newTuple ?_ (by show vs.length ≤ _; rw [sizeLine_eq]; omega))
  refine wpAny_bind (wpAny_newList ?_ (Nat.zero_le _))
  refine wpAny_holding ?_
  dsimp only
  have hn2 : ¬ vs.toArray.size < 2 := by rw [List.size_toArray]; omega
  rw [if_neg hn2, if_neg hn2]
  generalize hH : (((s.heap.update D (Obj.mapSeq fun _ => (#[] : Array Value))).push _).push _ : Heap) = h₁
  have k₁ : ∀ b o, b ≠ D → s.heap.get? b = some o → h₁.get? b = some o := fun b o hb e => by
    rw [← hH]
    exact Heap.get?_push_of_some _ (Heap.get?_push_of_some _ (s1.extBut b o hb e))
  have ho₁ : h₁.get? D = some (lstO [] e1) := by
    rw [← hH]
    exact Heap.get?_push_of_some _ (Heap.get?_push_of_some _ ho1)
  have t₁ : TExt s.heap h₁ := TExt.but ho lst_no_tup k₁
  refine wpAny_bind (wpAny_mono (hk { s with heap := h₁ } t₁ (Q := fun κ' s' => κ' = κ ∧ s' = { s with heap := h₁ }) ⟨rfl, rfl⟩) (fun κ' s0 hq => ?_) fun _ _ x => x.elim)
  obtain ⟨rfl, rfl⟩ := hq
  have run := kat_run (prog := prog) (w := w) (A := A) (E := E) (κ := κ') (vs := vs) (ks := vs) (s := { s with heap := h₁ })
    (Q := fun st' s' => ∃ tk, s' = { s with heap := h₁, toks := tk } ∧ (evalT lt (kas_sort vs.length)).size = vs.length ∧ failedOf st' = none ∧ (arrOf st').map (·.2) = List.toArray ((evalT lt (kas_sort vs.length)).toList.map fun i => vs.getD i Value.none))
    (G := fun p s' => p = evalT lt (kas_sort vs.length) ∧ ∃ tk, s' = { s with heap := h₁, toks := tk }) rfl h2 h64
    (fun p st' s' a1 a2 a3 a4 => by
      obtain ⟨rfl, tk, e⟩ := a4
      exact ⟨tk, e, a1, a3, kat_snds rfl a2⟩)
    (evalT_wp (lt := lt) (n := vs.length) (fun s' => ∃ tk, s' = { s with heap := h₁, toks := tk }) (fun i j C s' hi hj hI hC => by
      obtain ⟨tk, rfl⟩ := hI
      exact hlt i j { s with heap := h₁, toks := tk } hi hj t₁ fun tk' => hC _ ⟨tk', rfl⟩) (kas_sort vs.length) _ ok ⟨s.toks, rfl⟩ fun s' hI => ⟨rfl, hI⟩)
  refine wpAny_bind (wpAny_mono run ?_ fun _ _ e => e)
  rintro ⟨⟨⟩, st'⟩ s' ⟨tk, rfl, hsz, hf, hout⟩
  dsimp only at hf hout ⊢
  rw [hout]
  obtain ⟨c2, hc2⟩ : ∃ c2, (h₁.update D (Obj.mapSeq fun _ => List.toArray ((evalT lt (kas_sort vs.length)).toList.map fun i => vs.getD i Value.none))).get? D = some (lstO ((evalT lt (kas_sort vs.length)).toList.map fun i => vs.getD i Value.none) c2) := ⟨_, get?_update_seq ho₁ fun _ => _⟩
  have s2 := Heap.SameBut.update h₁ D (Obj.mapSeq fun _ => List.toArray ((evalT lt (kas_sort vs.length)).toList.map fun i => vs.getD i Value.none))
  refine wpAny_bind (seqEpoch_at ho₁ rfl ?_)
  refine wpAny_bind (listUpdate_at ho₁ rfl ?_ (Nat.zero_le _) ?_)
  · rw [hf]
    simp only [bne_self_eq_false, Bool.false_eq_true, if_false]
    exact wpAny_pure (h _ c2 hc2 ⟨_, _, rfl, fun b o hb e => s2.extBut b o hb (k₁ b o hb e)⟩)
  · rw [List.size_toArray, List.length_map, Array.length_toList, hsz, sizeLine_eq]
    omega

/-- list.sort of a list of none or one -/
theorem sort_small {D : Addr} {vs : List Value} {n : Nat} {P : PySem.Fin → Shared → Prop} (ho : s.heap.get? D = some (lstO vs n)) (h2 : vs.length < 2)
    (h : ∀ s' c, s'.heap.get? D = some (lstO vs c) → KB D s s' → P (.done (.ret .none)) s') :
    wpAny (model prog w) A (Builtin.«list.sort» ⟨[.ref D], []⟩) P E s := by
  have s1 := Heap.SameBut.update s.heap D (Obj.mapSeq fun _ => (#[] : Array Value))
  obtain ⟨e1, ho1⟩ : ∃ e1, (s.heap.update D (Obj.mapSeq fun _ => (#[] : Array Value))).get? D = some (lstO [] e1) := ⟨_, get?_update_seq ho fun _ => #[]⟩
  rw [list_sort_plain]
  refine wpAny_bind (listItems_at ho rfl ?_)
  refine wpAny_bind (listUpdate_at ho rfl ?_ (by rw [List.size_toArray, sizeLine_eq]; omega) (Nat.zero_le _))
  refine wpAny_bind (seqEpoch_at ho1 rfl ?_)
  refine wpAny_bind (wpAny_newTuple ?_ (by show vs.length ≤ _; rw [sizeLine_eq]; omega))
  refine wpAny_bind (wpAny_newList ?_ (Nat.zero_le _))
  refine wpAny_holding ?_
  dsimp only
  have hn2 : vs.toArray.size < 2 := by rw [List.size_toArray]; omega
  rw [if_pos hn2, if_pos hn2]
  generalize hH : (((s.heap.update D (Obj.mapSeq fun _ => (#[] : Array Value))).push _).push _ : Heap) = h₁
  have k₁ : ∀ b o, b ≠ D → s.heap.get? b = some o → h₁.get? b = some o := fun b o hb e => by
    rw [← hH]
    exact Heap.get?_push_of_some _ (Heap.get?_push_of_some _ (s1.extBut b o hb e))
  have ho₁ : h₁.get? D = some (lstO [] e1) := by
    rw [← hH]
    exact Heap.get?_push_of_some _ (Heap.get?_push_of_some _ ho1)
  refine wpAny_bind (wpAny_pure ?_)
  have hz : (vs.toArray.zip vs.toArray).map (·.2) = vs.toArray := by
    apply Array.toList_inj.mp
    rw [Array.toList_map]
    match vs, h2 with
    | [], _ => simp
    | [_], _ => simp
  refine wpAny_bind (wpAny_pure ?_)
  show wpAny _ _ (seqEpoch D >>= fun x => Builtin.List.listUpdate (.ref D) (fun _ => (vs.toArray.zip vs.toArray).map (·.2)) >>= _) _ _ _
  rw [hz]
  obtain ⟨c2, hc2⟩ : ∃ c2, (h₁.update D (Obj.mapSeq fun _ => vs.toArray)).get? D = some (lstO vs c2) := ⟨_, get?_update_seq ho₁ fun _ => _⟩
  have s2 := Heap.SameBut.update h₁ D (Obj.mapSeq fun _ => vs.toArray)
  refine wpAny_bind (seqEpoch_at ho₁ rfl ?_)
  refine wpAny_bind (listUpdate_at ho₁ rfl ?_ (Nat.zero_le _) (by rw [List.size_toArray, sizeLine_eq]; omega))
  show wpAny _ _ (if (e1 != e1) = true then _ else _) _ _ _
  refine bm_if_false (by simp) ?_
  exact wpAny_pure (h _ c2 hc2 ⟨_, _, rfl, fun b o hb e => s2.extBut b o hb (k₁ b o hb e)⟩)

/-- sorted(list or tuple) -/
theorem sorted_wp {a : Addr} {T : String} {o : Obj} {vs : List Value} {n : Nat} {Q : Value → Shared → Prop} (hT : T = "list" ∨ T = "tuple") (ho : s.heap.get? a = some o) (hc : o.cls = .type T) (hd : o.data = .seq vs.toArray n) (hz : vs.length ≤ 1000)
    (h : ∀ h₁ D, Ext s.heap h₁ → s.heap.get? D = none → h₁.get? D = some (lstO vs 0) →
      wpAny (model prog w) A.in1.in1 (Builtin.«list.sort» ⟨[.ref D], []⟩) (fun fin s' => fin = .done (.ret .none) ∧ Q (.ref D) s') E { s with heap := h₁ }) :
    wpAny (model prog w) A (PySem.call (.builtin "sorted") [.ref a]) Q E s := by
  refine Calls.call_function_entry kind_sorted plain_sorted entry_sorted (args_sorted1 _) ?_
  unfold Builtin.«sorted»
  refine wpAny_bind (m := checkCount "sorted" 1 1 _) (wpAny_pure ?_)
  refine wpAny_bind (wpAny_collect_seq a hT ho hc hd (fun h₁ k₁ => ?_) (by rw [List.size_toArray, sizeLine_eq]; omega))
  refine wpAny_bind (wpAny_newList ?_ (by rw [sizeLine_eq]; simpa using (by omega : vs.length ≤ 16777216)))
  have hDn : s.heap.get? h₁.objs.size = none := by
    cases q : s.heap.get? h₁.objs.size with
    | none => rfl
    | some o => exact absurd (Heap.lt_size (k₁ _ _ q)) (Nat.lt_irrefl _)
  have hD : (h₁.push (lstO vs 0)).get? h₁.objs.size = some (lstO vs 0) := Heap.get?_push_size _ rfl
  have e := h (h₁.push (lstO vs 0)) h₁.objs.size (Ext.trans k₁ (Ext.push _ _)) hDn hD
  refine wpAny_bind (wpAny_holding (wpAny_call_entry slot_list_sort ⟨_, hD, rfl⟩ entry_list_sort ?_ (args_list_sort _)))
  refine wpAny_mono e (fun fin s' hq => ?_) fun _ _ e => e
  obtain ⟨rfl, hq⟩ := hq
  exact ⟨_, rfl, wpAny_pure ⟨_, rfl, hq⟩⟩
end
end Mine

namespace Mine


/-- the list's order as the sort sees it -/
def ltAt (xs : List (List Int)) (i j : Nat) : Bool := ltL (xs.getD i []) (xs.getD j [])
def sortT (xs : List (List Int)) : List (List Int) := if xs.length < 2 then xs else (evalT (ltAt xs) (kas_sort xs.length)).toList.map fun i => xs.getD i []
def sortOk (xs : List (List Int)) : Bool := decide (xs.length < 64) && (decide (xs.length < 2) || (xs.all (fun x => decide (x ≠ [])) && okT xs.length (ltAt xs) (kas_sort xs.length) && (evalT (ltAt xs) (kas_sort xs.length)).toList.all fun i => decide (i < xs.length)))

section
variable {prog : Program} {w : World} {n : Nat} {g : Heap}

theorem lex_int {A : Around} {b fin : Bool} {h₀ : Heap} {Q : Bool → Shared → Prop} : ∀ {xs ys : List Value} {l r : List Int} (i : Nat) (s : Shared), Paired (IntR h₀) xs l → Paired (IntR h₀) ys r → fin = decide (l.length < r.length) → (∀ tk, Q (ltL l r) { s with toks := tk }) →
    KatLex prog w A b fin Q (xs.zip ys) i s
  | _, _, _, _, i, s, .nil, .nil, hf, h => by
    refine kat_nil ?_
    have := h s.toks
    rw [hf]
    exact this
  | _, _, _, _, i, s, .nil, .cons _ _, hf, h => by
    refine kat_nil ?_
    have := h s.toks
    rw [hf]
    simpa [ltL] using this
  | _, _, _, _, i, s, .cons _ _, .nil, hf, h => by
    refine kat_nil ?_
    have := h s.toks
    rw [hf]
    simpa [ltL] using this
  | _, _, _, _, i, s, .cons (b := a) ⟨t, e⟩ px, .cons (b := c) ⟨u, f⟩ py, hf, h => by
    subst e; subst f
    rw [List.zip_cons_cons]
    refine kat_cons (wpAny_eqBool_int ?_)
    by_cases hac : a = c
    · subst hac
      rw [show (a == a) = true by simp]
      refine kat_yes (lex_int (i + 1) s px py (by simpa using hf) fun tk => ?_)
      have := h tk
      simpa [ltL] using this
    · rw [show (a == c) = false by simpa using hac]
      have hq : Q (decide (a < c)) s := by
        have := h s.toks
        simpa [ltL, hac] using this
      refine kat_no ?_
      cases (b && i == 0) with
      | true => exact oneLt_int hq
      | false => exact kat_one _ _ (PyProof.Rows.lt_int hq)

theorem paired_getD {F : Value → List Int → Prop} {vs : List Value} {xs : List (List Int)} (p : Paired F vs xs) {i : Nat} (hi : i < vs.length) : F (vs.getD i .none) (xs.getD i []) := by
  have e := paired_len p
  have h1 : vs[i]? = some (vs.getD i .none) := by simp [hi]
  have h2 : xs[i]? = some (xs.getD i []) := by simp [show i < xs.length by omega]
  exact paired_get p i _ _ h1 h2
theorem firsts_of {h : Heap} : ∀ {vs : List Value} {xs : List (List Int)}, Paired (TupI h) vs xs → (∀ x ∈ xs, x ≠ []) → ∃ fs, KatTups h vs fs ∧ fs.length = vs.length ∧ ∀ v ∈ fs, ∃ i t, v = .int i t
  | _, _, .nil, _ => ⟨[], trivial, rfl, fun _ hv => nomatch hv⟩
  | _, _, .cons (b := x) (a := v) hx p, hne => by
    obtain ⟨fs, k, e, hi⟩ := firsts_of p fun y hy => hne y (List.mem_cons_of_mem _ hy)
    obtain ⟨a, us, m, rfl, ho, pu⟩ := hx
    cases pu with
    | nil => exact absurd rfl (hne [] List.mem_cons_self)
    | @cons v0 b0 _ _ hf r =>
      obtain ⟨t, rfl⟩ := hf
      exact ⟨_, KatTups.cons (f := .int b0 t) ho rfl rfl (by simp) k, by simp [e], fun v hv => by
        rcases List.mem_cons.mp hv with rfl | hv
        · exact ⟨_, _, rfl⟩
        · exact hi v hv⟩

theorem sorted_listT {A : Around} {s : Shared} {E : Value → Shared → Prop} {D : Addr} {vs : List Value} {m : Nat} {xs : List (List Int)} {P : PySem.Fin → Shared → Prop} (ho : s.heap.get? D = some (lstO vs m)) (p : Paired (TupI s.heap) vs xs) (ok : sortOk xs = true)
    (h : ∀ s' c out, s'.heap.get? D = some (lstO out c) → Paired (TupI s'.heap) out (sortT xs) → KB D s s' → P (.done (.ret .none)) s') :
    wpAny (model prog w) A (Builtin.«list.sort» ⟨[.ref D], []⟩) P E s := by
  have e := paired_len p
  simp only [sortOk, Bool.and_eq_true, Bool.or_eq_true, decide_eq_true_eq] at ok
  obtain ⟨h64, ok⟩ := ok
  have tx : ∀ s', KB D s s' → TExt s.heap s'.heap := fun s' kb => by
    obtain ⟨h', tk, rfl, k⟩ := kb
    exact TExt.but ho lst_no_tup k
  by_cases h2 : xs.length < 2
  · refine sort_small ho (by omega) fun s' c ho' kb => h s' c vs ho' ?_ kb
    unfold sortT
    rw [if_pos h2]
    exact paired_mono (fun a b r => TupI.t _ _ _ _ (tx s' kb) r) p
  · have ok' := ok.resolve_left h2
    have hne : ∀ x ∈ xs, x ≠ [] := fun x hx => by
      have := List.all_eq_true.mp ok'.1.1 x hx
      simpa using this
    refine sort_wp (κ := tuples' (Value.type "int" != Value.type "tuple")) (lt := ltAt xs) ho (by omega) (by omega) (by rw [e]; exact ok'.1.2) (fun s' t Q hq => ?_) (fun i j s' hi hj t C hC => ?_) fun s' c ho' kb => h s' c _ ho' ?_ kb
    · obtain ⟨fs, k, el, hi⟩ := firsts_of (paired_mono (fun a b r => TupI.t _ _ _ _ t r) p) hne
      refine kat_kind k (by omega) (T := .type "int") (fun v hv => ?_) (by decide) hq
      obtain ⟨i, tk, rfl⟩ := hi v hv
      exact Looks.of_pure rfl
    · obtain ⟨a1, us, na, e1, o1, p1⟩ := TupI.t _ _ _ _ t (paired_getD p hi)
      obtain ⟨a2, ys, nb, e2, o2, p2⟩ := TupI.t _ _ _ _ t (paired_getD p hj)
      rw [e1, e2]
      refine kat_lt o1 rfl o2 rfl ?_
      have l1 := paired_len p1
      have l2 := paired_len p2
      refine lex_int 0 s' p1 p2 ?_ hC
      simp [l1, l2]
    · unfold sortT
      rw [if_neg h2, ← e]
      have q := paired_mono (fun a b r => TupI.t _ _ _ _ (tx s' kb) r) p
      have : ∀ l : List Nat, (∀ i ∈ l, i < vs.length) → Paired (TupI s'.heap) (l.map fun i => vs.getD i .none) (l.map fun i => xs.getD i []) := fun l => by
        induction l with
        | nil => exact fun _ => .nil
        | cons i l ih => exact fun hl => .cons (paired_getD q (hl i List.mem_cons_self)) (ih fun j hj => hl j (List.mem_cons_of_mem _ hj))
      refine this _ fun i hi => ?_
      rw [e] at hi ⊢
      exact of_decide_eq_true (List.all_eq_true.mp ok'.2 i hi)

/-- sorted(list of tuples of ints) -/
theorem Run.sortedT {v : Value} {xs : List (List Int)} (h : LstT g v xs) (ok : sortOk xs = true) : Run prog w n g (PySem.call (.builtin "sorted") [v]) (fun h r => LstT h r (sortT xs)) := fun A s E a e => by
  obtain ⟨l, vs, m, rfl, ho, p⟩ := LstT.mono _ _ _ _ e h
  have el := paired_len p
  have h64 : xs.length < 64 := by
    simp only [sortOk, Bool.and_eq_true, decide_eq_true_eq] at ok
    exact ok.1
  refine sorted_wp (.inl rfl) ho rfl rfl (by omega) fun h₁ D k₁ hDn hD => ?_
  refine sorted_listT (s := { s with heap := h₁ }) hD (paired_mono (fun a b r => TupI.mono _ _ _ _ k₁ r) p) ok fun s' c out ho' hp kb => ⟨rfl, ⟨D, out, c, rfl, ho', hp⟩, ?_⟩
  obtain ⟨h', tk, rfl, k⟩ := kb
  exact ⟨h', tk, rfl, fun b o q => k b o (fun z => by rw [z, hDn] at q; cases q) (k₁ _ _ q)⟩

/-- sorted(tuple of ints), of a row that falls -/
theorem Run.sortedI {v : Value} {row : List Int} (h : TupI g v row) (h64 : row.length < 64) (hs : row.reverse.Pairwise (· ≤ ·)) : Run prog w n g (PySem.call (.builtin "sorted") [v]) (fun h r => LstI h r row.reverse) := fun A s E a e => by
  obtain ⟨l, vs, m, rfl, ho, p⟩ := TupI.mono _ _ _ _ e h
  have el := paired_len p
  refine sorted_wp (.inr rfl) ho rfl rfl (by omega) fun h₁ D k₁ hDn hD => ?_
  refine list_sort_tree (s := { s with heap := h₁ }) hD (ints_of p) (by omega) fun out ns' hI hp hsorted => ⟨rfl, ?_⟩
  have hns : ns' = row.reverse := List.Perm.eq_of_pairwise (fun a b _ _ x y => Int.le_antisymm x y) hsorted hs (hp.trans (List.reverse_perm row).symm)
  subst hns
  have s1 := Heap.SameBut.update h₁ D (Obj.mapSeq fun _ => (#[] : Array Value))
  obtain ⟨e1, ho1⟩ : ∃ e1, (h₁.update D (Obj.mapSeq fun _ => (#[] : Array Value))).get? D = some (lstO [] e1) := ⟨_, get?_update_seq hD fun _ => #[]⟩
  have ho2 : (((h₁.update D (Obj.mapSeq fun _ => (#[] : Array Value))).push (seqObj "tuple" vs.toArray 0)).push (seqObj "list" #[] 0)).get? D = some (lstO [] e1) := Heap.get?_push_of_some _ (Heap.get?_push_of_some _ ho1)
  obtain ⟨c2, hc2⟩ : ∃ c2, (sortedHeap h₁ D vs out).get? D = some (lstO out.toList c2) := ⟨_, by
    unfold sortedHeap
    exact (get?_update_seq ho2 fun _ => out)⟩
  have s2 := Heap.SameBut.update (((h₁.update D (Obj.mapSeq fun _ => (#[] : Array Value))).push (seqObj "tuple" vs.toArray 0)).push (seqObj "list" #[] 0)) D (Obj.mapSeq fun _ => out)
  refine ⟨⟨D, out.toList, c2, rfl, hc2, of_ints hI⟩, sortedHeap h₁ D vs out, s.toks, rfl, fun b o q => ?_⟩
  have hb : b ≠ D := fun z => by rw [z, hDn] at q; cases q
  exact s2.extBut b o hb (Heap.get?_push_of_some _ (Heap.get?_push_of_some _ (s1.extBut b o hb (k₁ _ _ q))))
end
end Mine

namespace Mine


theorem list_no_keys : typeLookup (.type "list") "keys" = pure none := by rw [typeLookup_type, builtinLookup_eq_fast]; kernel_rfl
theorem keys_name : (["__module__", "__name__", "__qualname__", "__doc__", "__annotations__"] : List Str).contains ("keys" : Str) = false := by decide +kernel

section
variable {prog : Program} {w : World} {A : Around} {E : Value → Shared → Prop} {s : Shared}
theorem list_keys_none {a : Addr} {vs : List Value} {k : Nat} {Q : Option Value → Shared → Prop} (hA : A.handled = none) (hx : s.heap.get? a = some (lstO vs k))
    (h : ∀ h' tk, Ext s.heap h' → Q none { s with heap := h', toks := tk }) : wpAny (model prog w) A (getAttr? (.ref a) "keys") Q E s := by
  obtain ⟨hp, g, d, tk, os⟩ := s
  have hT : ∀ tk', (⟨hp, g, d, tk', os⟩ : Shared).TypeIs (.ref a) "list" := fun _ => ⟨_, hx, rfl⟩
  have f1 := sub_AttributeError
  have f3 := PySem.F.slot_list_getattribute.lookup
  have f4 := PySem.F.slot_list_getattribute.bind (.ref a)
  have f5 := am_list_getattr_none
  unfold getAttr? getAttrBy? getAttrBy
  repeat (any_goals (first | assumption | exact hT _ | ((with_reducible show wpAny _ _ (call (Value.builtin "list.__getattribute__") _ _) _ _ _); refine call_meets PySem.F.slot_list_getattribute (hT _) am_entry_list_getattribute (PySem.F.args_list_getattribute_2 _ _) (meets_getattribute_miss_list a vs.toArray k #[] "keys" _ list_no_keys keys_name (by rw [sizeLine_eq]; decide)) ⟨hx, hA, fun h' tk' e hx' => ?_⟩) | wp_step))
  obtain ⟨t', u', he⟩ := hx'.there
  show wpAny _ _ (getattributeRaised _ _ _ _ _ _ _) _ _ _
  unfold getattributeRaised
  repeat (any_goals (first | assumption | wp_step))
  exact h h' _ hx'.keeps
end
end Mine

namespace Mine

section
variable {prog : Program} {w : World} {A : Around} {E : Value → Shared → Prop} {s : Shared}

theorem du_plain : plainId "dict.update.loop" = true := by decide +kernel
theorem du_entry : entryFor table "dict.update.loop" = some Builtin.«dict.update.loop» := entryFor_of_tree (by kernel_rfl)
theorem items_are {h : Heap} : ∀ {vs : List Value} {ns : List Int}, Paired (IntR h) vs ns → ItemsAre (intKind prog w) ns vs
  | _, _, .nil => .nil
  | _, _, .cons ⟨t, e⟩ r => by
    subst e
    exact .cons (by simp [intKind, Value.isInt]) (items_are r)
theorem tup_key {h : Heap} {v : Value} {row : List Int} (x : TupI h v row) : ∃ a, v = .ref a ∧ (tupleKind (intKind prog w)).is h row a := by
  obtain ⟨a, vs, n, rfl, ho, p⟩ := x
  exact ⟨a, rfl, _, vs.toArray, n, ho, rfl, rfl, by simpa using items_are p⟩
theorem atKey_none {rows : List (List Int)} {xs : List (List Int × Addr × Value)} {k : List Int} (e : xs.map (·.1) = rows) (h : k ∉ rows) : atKey xs k = none := by
  unfold atKey
  rw [Option.map_eq_none_iff, List.find?_eq_none]
  intro x hx
  have : x.1 ∈ rows := by rw [← e]; exact List.mem_map_of_mem hx
  simp only [decide_eq_true_eq]
  exact fun z => h (z ▸ this)

theorem dictH_keep {h h' : Heap} {D : Addr} {xs : List (List Int × Addr × Value)} (x : h.DictOfH (tupleKind (intKind prog w)) D xs) (hD : ∀ o, h.get? D = some o → h'.get? D = some o) (hk : ∀ y ∈ xs, ∀ o, h.get? y.2.1 = some o → h'.get? y.2.1 = some o) : h'.DictOfH (tupleKind (intKind prog w)) D xs := by
  obtain ⟨o, es, ep, ho, hc, hd, he, his, hn⟩ := x
  refine ⟨o, es, ep, hD _ ho, hc, hd, he, fun y hy => ?_, hn⟩
  obtain ⟨o', items, n, h1, h2, h3, h4⟩ := his y hy
  exact ⟨o', items, n, hk y hy _ h1, h2, h3, h4⟩
theorem du_loop {R : Result → Shared → Prop} {I D : Addr} {fp : List Addr} {P : Nat → Value → Prop} {St : Nat → Heap → Prop} {rows : List (List Int)} {h₀ : Heap}
    (Wk : Walks prog w A.in1 I fp [I] rows.length P St) (hP : ∀ i v x, P i v → rows[i]? = some x → PairR TupI IntR h₀ v (x, 1)) (hu : A.in1.units < cLine) (hnd : rows.Nodup) (hz : rows.length ≤ 1000) (hID : I ≠ D) (hD : D ∉ fp)
    (hI₀ : ∃ o, h₀.get? I = some o ∧ ∀ vs n, o ≠ tupO vs n) (hD₀ : ∃ o, h₀.get? D = some o ∧ ∀ vs n, o ≠ tupO vs n) :
    ∀ (k i : Nat) (s : Shared) (xs : List (List Int × Addr × Value)), rows.length - i = k → i ≤ rows.length → St i s.heap → s.heap.DictOfH (tupleKind (intKind prog w)) D xs → xs.map (·.1) = rows.take i → (∀ y ∈ xs, ∃ us n, h₀.get? y.2.1 = some (tupO us n)) → (∀ b o, b ∉ [I, D] → h₀.get? b = some o → s.heap.get? b = some o) →
      (∀ h' k' xs', (∀ b o, b ≠ I → b ≠ D → h₀.get? b = some o → h'.get? b = some o) → h'.DictOfH (tupleKind (intKind prog w)) D xs' → xs'.map (·.1) = rows → R (.ok (.ret .none)) { s with heap := h', toks := k' }) →
      codeAny (model prog w) A (.builtin "dict.update.loop" ⟨[.ref D, .ref I, rawInt i, .none], []⟩) R s := by
  intro k
  induction k with
  | zero =>
    intro i s xs hk hle st hd hxs hks hkeep hR
    have nI : ∀ y ∈ xs, y.2.1 ≠ I := fun y hy z => by
      obtain ⟨us, n, e⟩ := hks y hy
      obtain ⟨o, ho, hn⟩ := hI₀
      rw [z, ho] at e
      exact hn _ _ (Option.some.inj e)
    have hin : i = rows.length := by omega
    subst hin
    refine codeAny_builtin du_entry ?_
    rw [Around.under_plainId du_plain _]
    show wpAny _ A.in1 (pyNext (.ref I) >>= _) _ _ s
    refine wpAny_bind (Wk.done _ _ _ st fun h' tk he => ?_)
    have hd' : h'.DictOfH (tupleKind (intKind prog w)) D xs := dictH_keep hd (fun o q => he _ _ (by simpa using Ne.symm hID) q) fun y hy o q => he _ _ (by simpa using nI y hy) q
    exact wpAny_bind (wpAny_pure (wpAny_pure (hR h' tk xs (fun b o hb hb' e => he b o (by simpa using hb) (hkeep b o (by simp [hb, hb']) e)) hd' (by rw [hxs, List.take_length]))))
  | succ k ih =>
    intro i s xs hk hle st hd hxs hks hkeep hR
    have nI : ∀ y ∈ xs, y.2.1 ≠ I := fun y hy z => by
      obtain ⟨us, n, e⟩ := hks y hy
      obtain ⟨o, ho, hn⟩ := hI₀
      rw [z, ho] at e
      exact hn _ _ (Option.some.inj e)
    have hlt : i < rows.length := by omega
    have hx : rows[i]? = some rows[i] := by simp [hlt]
    refine codeAny_builtin du_entry ?_
    rw [Around.under_plainId du_plain _]
    show wpAny _ A.in1 (pyNext (.ref I) >>= _) _ _ s
    refine wpAny_bind (Wk.item i _ _ _ hlt st fun v h₃ tk₃ hPv st₃ k₃ => ?_)
    have hd₃ : h₃.DictOfH (tupleKind (intKind prog w)) D xs := dictH_keep hd (fun o q => k₃ _ _ (by simpa using Ne.symm hID) q) fun y hy o q => k₃ _ _ (by simpa using nI y hy) q
    have hkeep₃ : ∀ b o, b ∉ [I, D] → h₀.get? b = some o → h₃.get? b = some o := fun b o hb e => k₃ b o (fun z => hb (by rw [List.mem_singleton.mp z]; simp)) (hkeep b o hb e)
    have tx : TExt h₀ h₃ := fun b us n e => by
      refine hkeep₃ b _ (fun z => ?_) e
      simp only [List.mem_cons, List.not_mem_nil, or_false] at z
      rcases z with rfl | rfl
      · obtain ⟨o, ho, hn⟩ := hI₀
        rw [ho] at e
        exact hn _ _ (Option.some.inj e)
      · obtain ⟨o, ho, hn⟩ := hD₀
        rw [ho] at e
        exact hn _ _ (Option.some.inj e)
    obtain ⟨p, x, y, m, rfl, hp₀, hx₀, ⟨ty, hy⟩⟩ := hP i v _ hPv hx
    have hp := tx _ _ _ hp₀
    dsimp only at hx₀ hy
    subst hy
    obtain ⟨ka, us, nk, rfl, hka₀, hpk⟩ := hx₀
    obtain ⟨ka', ek, hkey⟩ := tup_key (prog := prog) (w := w) (TupI.t _ _ _ _ tx ⟨ka, us, nk, rfl, hka₀, hpk⟩)
    obtain rfl : ka = ka' := by injection ek
    have hxs_len : xs.length = i := by
      have := congrArg List.length hxs
      simpa [Nat.min_eq_left hle] using this
    have hnotin : rows[i] ∉ rows.take i := fun hm => by
      obtain ⟨j, hj, e⟩ := List.mem_iff_getElem.mp hm
      have hj' : j < i := by simpa using (by simpa using hj : j < min i rows.length) |> fun z => Nat.lt_of_lt_of_le z (Nat.min_le_left _ _)
      have e' : rows[j]'(by omega) = rows[i] := by simpa using e
      have := (List.nodup_iff_pairwise_ne.mp hnd |> List.pairwise_iff_getElem.mp) j i (by omega) hlt hj'
      exact this e'
    dsimp only
    refine wpAny_bind (wpAny_holding ?_)
    refine wpAny_bind (wpAny_tryCatch ?_)
    unfold Builtin.Dict.pairItems
    refine wpAny_bind (wpAny_typeOf (T := "tuple") ⟨_, hp, rfl⟩ ?_)
    refine bm_if_true (by decide) ?_
    refine wpAny_bind ?_
    unfold seqItems?
    refine wpAny_bind (wpAny_load hp ?_)
    refine wpAny_pure (wpAny_pure ?_)
    show wpAny _ _ (holding [.ref ka, .int 1 ty] (dictSet D (.ref ka) (.int 1 ty))) _ _ _
    refine wpAny_holding (wpAny_dictSet_heap (knd := tupleKind (intKind prog w)) (xs := xs) (k := rows[i]) hu hkey hd₃ (fun h₄ hd₄ hs₄ => ?_) (by rw [sizeLine_eq]; omega))
    rw [storedH_new (atKey_none hxs hnotin)] at hd₄
    have ei : rawInt ((i : Int) + 1) = rawInt ((i + 1 : Nat) : Int) := by simp
    rw [ei]
    refine wpAny_pure ⟨plainId_quiet du_plain _, ih (i + 1) { s with heap := h₄, toks := tk₃ + (tupleKind (intKind prog w)).draws rows[i] } (xs ++ [(rows[i], ka, .int 1 ty)]) (by omega) hlt (Wk.frame _ _ _ st₃ fun b hb o e => hs₄.extBut b o (fun z => hD (z ▸ hb)) e) hd₄ ?_ ?_ ?_ hR⟩
    · rw [List.map_append, hxs, List.take_add_one, hx]
      rfl
    · intro y hy
      rcases List.mem_append.mp hy with hy | hy
      · exact hks y hy
      · rw [List.mem_singleton.mp hy]
        exact ⟨us, nk, hka₀⟩
    · intro b o hb e
      exact hs₄.extBut b o (fun z => hb (by rw [z]; simp)) (hkeep₃ b o hb e)

/-- dict(list of pairs (row, 1)), no row twice -/
theorem dict_call {l : Addr} {vs : List Value} {m : Nat} {rows : List (List Int)} {Q : Value → Shared → Prop} (hh : A.handled = none) (hu : A.units + 10 < cLine) (ho : s.heap.get? l = some (lstO vs m)) (hp : Paired (fun v (x : List Int) => PairR TupI IntR s.heap v (x, 1)) vs rows) (hnd : rows.Nodup) (hz : rows.length ≤ 1000)
    (h : ∀ h' D tk xs, Ext s.heap h' → D = s.heap.objs.size → h'.DictOfH (tupleKind (intKind prog w)) D xs → xs.map (·.1) = rows → Q (.ref D) { s with heap := h', toks := tk }) :
    wpAny (model prog w) A (PySem.call (.type "dict") [.ref l]) Q E s := by
  refine callType_codes (Q₁ := fun obj s₁ => obj = .ref s.heap.objs.size ∧ s₁ = { s with heap := s.heap.push { cls := .type "dict", data := .dict #[] } }) PySem.F.kt_called_dict (PySem.F.kt_typeCall_dict_1 _) PySem.F.entry_dict_init (kt_code_dict_new _ ⟨rfl, rfl⟩) ?_
  rintro obj s₁ ⟨rfl, rfl⟩
  generalize hDd : s.heap.objs.size = D
  generalize hH : s.heap.push { cls := .type "dict", data := .dict #[] } = h₁
  have e₁ : Ext s.heap h₁ := by rw [← hH]; exact Ext.push _ _
  have hDn : s.heap.get? D = none := by rw [← hDd]; exact fresh_none
  have hnew : h₁.DictOfH (tupleKind (intKind prog w)) D [] := by rw [← hH, ← hDd]; exact Heap.DictOfH.new s.heap
  have hTD : ({ s with heap := h₁ } : Shared).TypeIs (.ref D) "dict" := Heap.DictOfH.typeIs (s := { s with heap := h₁ }) hnew
  have hDo : ∃ o, h₁.get? D = some o ∧ ∀ vs n, o ≠ tupO vs n := by
    obtain ⟨o, es, ep, ho, hc, hd, _⟩ := hnew
    exact ⟨o, ho, fun us n e => by rw [e] at hd; cases hd⟩
  have hl₁ : h₁.get? l = some (lstO vs m) := e₁ _ _ ho
  refine ⟨hTD, PySem.F.args_dict_init_2 _ _, ?_⟩
  unfold Builtin.«dict.__init__»
  refine wpAny_bind ?_
  unfold Builtin.Dict.selfAndRest
  refine wpAny_bind (wpAny_notOrdered_dict hTD ?_)
  show wpAny _ _ (pure (D, [Value.ref l])) _ _ _
  refine wpAny_pure ?_
  show wpAny _ _ (Builtin.Dict.updateFrom "dict.__init__" D (.ref l) [] .none) _ _ _
  unfold Builtin.Dict.updateFrom
  refine wpAny_bind (wpAny_typeOf (T := "list") ⟨_, hl₁, rfl⟩ ?_)
  refine bm_if_true (by decide) ?_
  refine wpAny_bind (list_keys_none hh hl₁ fun h₂ tk₂ e₂ => ?_)
  refine bm_if_true rfl ?_
  refine wpAny_bind (wpAny_rule ?_)
  refine wpAny_bind (Iters.list (prog := prog) (w := w) (g := h₂) (R := fun h v (x : List Int) => PairR TupI IntR h v (x, 1)) (xs := rows) ⟨l, vs, m, rfl, e₂ _ _ hl₁, paired_mono (fun a b r => PairR.t TupI.t IntR.t _ _ _ _ (TExt.of (e₁.trans e₂)) r) hp⟩ A.in1.in1 { s with heap := h₂, toks := tk₂ } _ _ hh (Ext.refl _) fun I fp P St h₃ Wk st e₃ hI hIo hfp hIo' hP hfx => ?_)
  have hD₃ : ∃ o, h₃.get? D = some o ∧ ∀ vs n, o ≠ tupO vs n := let ⟨o, q, n⟩ := hDo; ⟨o, e₃ _ _ (e₂ _ _ q), n⟩
  have hID : I ≠ D := fun z => by
    obtain ⟨o, q, _⟩ := hDo
    rw [z] at hI
    have := e₂ _ _ q
    dsimp only at hI
    rw [hI] at this
    cases this
  have hDl : D ≠ l := fun z => by rw [z, ho] at hDn; cases hDn
  have hDfp : D ∉ fp := fun hm => by
    rcases hfx D hm with z | z
    · exact hID z.symm
    · injection z with z
      exact hDl z.symm
  have hd₃ : h₃.DictOfH (tupleKind (intKind prog w)) D [] := dictH_keep hnew (fun o q => e₃ _ _ (e₂ _ _ q)) fun y hy => nomatch hy
  refine wpAny_pure ⟨plainId_quiet du_plain _, du_loop (prog := prog) (w := w) (A := A.in1) (h₀ := h₃) Wk (fun i v x hp hx => PairR.t TupI.t IntR.t _ _ _ _ (TExt.of e₃) (hP i v x hp hx)) (by show A.units + 1 + 1 < cLine; omega) hnd hz hID hDfp hIo hD₃ rows.length 0 _ [] rfl (Nat.zero_le _) st hd₃ rfl (fun y hy => nomatch hy) (fun b o _ e => e) fun h' k' xs' hk' hd' hx' => ?_⟩
  refine ⟨rfl, h h' D k' xs' (fun b o q => hk' b o (fun z => ?_) (fun z => ?_) (e₃ _ _ (e₂ _ _ (e₁ _ _ q)))) hDd.symm hd' hx'⟩
  · have := e₂ _ _ (e₁ _ _ q)
    dsimp only at hI
    rw [z, hI] at this
    cases this
  · rw [z, hDn] at q
    cases q
end
end Mine

namespace Mine


/-- a dict whose keys are these rows, in order -/
def DictR (prog : Program) (w : World) : RelH (List (List Int)) := fun h v rows => ∃ D xs, v = .ref D ∧ (D == sysModules) = false ∧ h.DictOfH (tupleKind (intKind prog w)) D xs ∧ xs.map (·.1) = rows
theorem DictR.mono {prog : Program} {w : World} : RMono (DictR prog w) := fun h h' v rows e ⟨D, xs, h1, h2, h3, h4⟩ => ⟨D, xs, h1, h2, dictH_keep h3 (fun o q => e _ _ q) fun _ _ o q => e _ _ q, h4⟩

/-- the pair (row, 1) -/
def PairOne : RelH (List Int) := fun h v x => PairR TupI IntR h v (x, 1)
theorem PairOne.t : TMono PairOne := fun _ _ _ _ e r => PairR.t TupI.t IntR.t _ _ _ _ e r

section
variable {prog : Program} {w : World} {n : Nat} {g : Heap} {env : Env} {pos fpos : Pos} {mg mb : Str → Option Value}
theorem Run.lenD {v : Value} {rows : List (List Int)} (h : DictR prog w g v rows) (hz : rows.length ≤ 1000) : Run prog w n g (PySem.call (.builtin "len") [v]) (fun h r => IntR h r rows.length) := fun A s E ok e => by
  obtain ⟨D, xs, rfl, hd, hm, hx⟩ := DictR.mono _ _ _ _ e h
  have hlen : xs.length = rows.length := by rw [← hx, List.length_map]
  have hT := Heap.DictOfH.typeIs (s := s) hm
  obtain ⟨o, es, ep, ho, hc, hdat, he, his, hn⟩ := hm
  have hes : es.size = rows.length := by rw [← hlen, ← Array.length_toList, he, List.length_map]
  refine Calls.call_function_entry kind_len plain_len entry_len (args_len1 _) ?_
  unfold Builtin.«len»
  refine wpAny_bind (m := oneArg "len" _) (wpAny_pure ?_)
  refine wpAny_bind (m := callSpecial? (.ref D) (Str.ofString "__len__")) (wpAny_callSpecial?_slot (name := Str.ofString "__len__") hT PySem.F.slot_dict_len
    (wpAny_call_entry PySem.F.slot_dict_len hT PySem.F.entry_dict_len ?_ (PySem.F.args_dict_len_1 _)))
  show wpAny _ _ (dictSize D >>= _) _ _ s
  unfold dictSize
  refine wpAny_bind (wpAny_bind (wpAny_dictEntries ho hdat (wpAny_pure ?_)))
  show wpAny _ _ (Builtin.Dict.pendingCount D >>= _) _ _ s
  refine wpAny_bind (wpAny_pendingCount_other hd ?_)
  refine wpAny_ret_mkInt ?_
  rw [hes, show ((rows.length : Nat) : Int) + ((0 : Nat) : Int) = rows.length by omega]
  show wpAny _ _ _ _ _ { s with toks := s.toks + 1 }
  refine wpAny_bind (wpAny_holding (wpAny_pure ?_))
  refine wpAny_bind (wpAny_letGo ?_)
  show wpAny _ _ (if ((rows.length : Nat) : Int) < 0 then _ else _) _ _ _
  rw [if_neg (by omega)]
  show wpAny _ _ (if ((rows.length : Nat) : Int) ≥ 2 ^ 63 then _ else _) _ _ _
  rw [if_neg (by omega)]
  exact wpAny_bind (wpAny_mkInt (wpAny_pure ⟨_, rfl, ⟨_, rfl⟩, keeps_tok⟩))
theorem Run.dictL {v : Value} {rows : List (List Int)} (hg : ∃ o, g.get? 3 = some o) (h : LstR PairOne g v rows) (hnd : rows.Nodup) (hz : rows.length ≤ 1000) : Run prog w (n + 1) g (PySem.call (.type "dict") [v]) (fun h r => DictR prog w h r rows) := fun A s E ok e => by
  obtain ⟨l, vs, m, rfl, ho, p⟩ := h
  obtain ⟨a, b, c⟩ := ok
  refine dict_call a (by omega) (e _ _ ho) (paired_mono (fun x y r => PairOne.t _ _ x y (TExt.of e) r) p) hnd hz fun h' D tk xs k hDd hd hx => ⟨⟨D, xs, rfl, ?_, hd, hx⟩, keeps_mk k⟩
  obtain ⟨o3, h3⟩ := hg
  have : 3 < s.heap.objs.size := Heap.lt_size (e _ _ h3)
  rw [hDd]
  show (s.heap.objs.size == 1) = false
  rw [beq_eq_false_iff_ne]
  exact Nat.ne_of_gt (by omega)
theorem Run.lenDictOf {e : Expr} {dpos : Pos} {dp : Pos} {rows : List (List Int)} (K : EnvOk env) (G : Gd mg mb g) (hk : env.kindOf (Str.ofString "len") = some .globalImplicit) (hk2 : env.kindOf (Str.ofString "dict") = some .globalImplicit)
    (h : Run prog w (n + 1) g (eval e env) (fun h v => LstR PairOne h v rows)) (hnd : rows.Nodup) (hz : rows.length ≤ 1000)
    (he : starEach [e] env = [(false, eval e env)] := by rfl) :
    Run prog w (n + 1) g (eval (.Call (.Name (Str.ofString "len") fpos) [.Call (.Name (Str.ofString "dict") dp) [e] [] dpos] [] pos) env) (fun h v => IntR h v rows.length) :=
  Run.call1 (P := fun h v => DictR prog w h v rows) (Run.built' K G (by decide) boot_len hk (by decide) (by decide)) (.inl ⟨_, rfl⟩)
    (Run.call1 (P := fun h v => LstR PairOne h v rows) (Run.built' K G (by decide) PyProof.Rows.boot_dict hk2 (by decide) (by decide)) (.inr (.inl ⟨_, rfl⟩)) h (fun _ _ _ x p => LstR.mono PairOne.t.r _ _ _ _ x p) (fun g' v x p => Run.dictL (by obtain ⟨o, _, _, ho, _⟩ := (G.ext x).g; exact ⟨o, ho⟩) p hnd hz) he)
    (fun _ _ _ x p => DictR.mono _ _ _ _ x p) (fun g' v x p => Run.lenD p hz) (by rfl)

/-! row.count(number) -/
theorem paired_ints_mem {h : Heap} : ∀ {vs : List Value} {row : List Int}, Paired (IntR h) vs row → ∀ y ∈ vs, ∃ i t, y = .int i t
  | _, _, .nil, _, hy => nomatch hy
  | _, _, .cons (b := i) ⟨t, e⟩ p, y, hy => by
    cases hy with
    | head => exact ⟨i, t, e⟩
    | tail _ hy => exact paired_ints_mem p y hy
def isInt (k : Int) : Value → Bool
  | .int i _ => i == k
  | _ => false
theorem paired_count {h : Heap} {k : Int} : ∀ {vs : List Value} {row : List Int}, Paired (IntR h) vs row → vs.countP (isInt k) = row.countP fun x => x == k
  | _, _, .nil => rfl
  | _, _, .cons ⟨t, e⟩ p => by
    subst e
    rw [List.countP_cons, List.countP_cons, paired_count p]
    rfl
theorem Run.count {o e : Expr} {apos : Pos} {row : List Int} {k : Int} {pl : Sem Bool} (h₁ : Run prog w n g (eval o env) (fun h v => TupI h v row)) (h₂ : Run prog w n g (eval e env) (fun h v => IntR h v k))
    (he : eval (.Call (.Attribute o (Str.ofString "count") apos) [e] [] pos) env = (do
      let ov ← eval o env
      standAt apos.atName
      let (f, first) ← holding [ov] (getMethod ov (Str.ofString "count") pl)
      PySem.callWith pos f first (backTo pos (starEach [e] env)) [])) (hs : starEach [e] env = [(false, eval e env)] := by rfl) :
    Run prog w n g (eval (.Call (.Attribute o (Str.ofString "count") apos) [e] [] pos) env) (fun h v => IntR h v (row.countP (fun x => x == k) : Nat)) := fun A s E ok x => by
  refine MethodCall_ (pl := pl) (h₁.use ok x fun v s₁ hv k₁ => ?_) he
  obtain ⟨t, vs, m, rfl, ho, p⟩ := hv
  refine getMethod_builtin (T := "tuple") (id := "tuple.count") ⟨_, ho, rfl⟩ PySem.F.plainAttrs_tuple PySem.F.slot_tuple_count PySem.F.type_tuple_count (fun a q => by cases q; exact ⟨_, ho, rfl⟩) ?_
  rw [hs]
  refine P.count_tuple (h₂.use ok (x.trans (keeps_ext k₁)) fun u s₂ hu k₂ => ?_)
  obtain ⟨tu, rfl⟩ := hu
  have ho₂ := keeps_ext k₂ _ _ ho
  refine ⟨vs.toArray, m, isInt k, ho₂, fun y hy => ?_, ⟨s₂.toks, ?_⟩, keeps_trans k₁ (keeps_trans k₂ keeps_tok)⟩
  · obtain ⟨i, ti, rfl⟩ := paired_ints_mem p y (by simpa using hy)
    exact MeetsSeq.EqGives.int i k ti tu
  · rw [← paired_count p]
end
end Mine

namespace Mine


theorem adjust_to (b n : Nat) (hb : b ≤ n) : Builtin.Slice.sliceAdjust none (some (b : Int)) 1 (n : Int) = (0, (b : Int)) := by
  unfold Builtin.Slice.sliceAdjust
  have h1 : ¬ ((1 : Int) < 0) := by omega
  have h2 : ¬ ((b : Int) < 0) := by omega
  simp only [h1, h2, if_false]
  congr 1
  omega
theorem places_to (b : Nat) : Builtin.Slice.slicePlaces 0 (b : Int) 1 = b := by
  unfold Builtin.Slice.slicePlaces
  have h1 : (1 : Int) > 0 := by omega
  simp only [h1, if_true, Int.ediv_one]
  split <;> omega
theorem pick_to (xs : Array Value) (b : Nat) : ((List.range b).filterMap fun (k : Nat) => xs[((0 : Int) + (k : Int) * 1).toNat]?).toArray = (xs.toList.take b).toArray := by
  have e : (fun (k : Nat) => xs[((0 : Int) + (k : Int) * 1).toNat]?) = fun k => xs[k]? := by
    funext k
    have : ((0 : Int) + (k : Int) * 1).toNat = k := by omega
    rw [this]
  rw [e]
  congr 1
  induction b with
  | zero => simp
  | succ b ih =>
    rw [List.range_succ, List.filterMap_append, ih, List.take_add_one]
    congr 1
    rw [Array.getElem?_toList]
    cases h : xs[b]? with
    | none => rw [List.filterMap_cons_none h]; rfl
    | some v => rw [List.filterMap_cons_some h]; rfl

section
variable {prog : Program} {w : World} {A : Around} {E : Value → Shared → Prop} {s : Shared}
theorem sliceApplied_to {sl : Addr} {b n : Nat} {u : Tok} {Q : Int × Int × Nat → Shared → Prop} (hs : s.heap.IsSliceOf sl .none (.int b u) .none) (hb : b ≤ n) (h : Q (0, 1, b) s) :
    wpAny (model prog w) A (Builtin.Slice.sliceApplied (.ref sl) (pure (n : Int))) Q E s := by
  obtain ⟨os, hos, hcs, hds⟩ := id hs
  unfold Builtin.Slice.sliceApplied Builtin.Slice.sliceFields
  refine wpAny_bind (wpAny_bind (wpAny_field hos hds (x := .none) rfl (wpAny_bind (wpAny_field hos hds (x := .int b u) rfl (wpAny_bind (wpAny_field hos hds (x := .none) rfl (wpAny_pure ?_)))))))
  refine wpAny_bind (slicePart_none ?_)
  show wpAny _ _ (if ((1 : Int) == 0) = true then _ else _) _ _ s
  rw [if_neg (by decide)]
  refine wpAny_bind (slicePart_none (wpAny_bind (slicePart_int (wpAny_bind (wpAny_pure ?_)))))
  show wpAny _ _ (match Builtin.Slice.sliceAdjust none (some (b : Int)) 1 (n : Int) with | (lo, hi) => pure (lo, (1 : Int), Builtin.Slice.slicePlaces lo hi 1)) _ _ s
  rw [adjust_to b n hb]
  show wpAny _ _ (pure ((0 : Int), (1 : Int), Builtin.Slice.slicePlaces (0 : Int) (b : Int) 1)) _ _ s
  rw [places_to b]
  exact wpAny_pure h

/-- a slice of a tuple, from what its parts are -/
theorem getItem_slice {t sl : Addr} {vs : List Value} {m lo cnt : Nat} {out : List Value} {Q : Value → Shared → Prop} (ht : s.heap.get? t = some (tupO vs m)) (hs : s.TypeIs (.ref sl) "slice")
    (happ : ∀ {Q' : Int × Int × Nat → Shared → Prop}, Q' ((lo : Int), 1, cnt) s → wpAny (model prog w) A.in1 (Builtin.Slice.sliceApplied (.ref sl) (pure (vs.toArray.size : Int))) Q' E s)
    (hout : ((List.range cnt).filterMap fun (k : Nat) => vs.toArray[((lo : Int) + (k : Int) * 1).toNat]?).toArray = out.toArray) (hwhole : lo = 0 → cnt = vs.length → out = vs) (hz : out.length ≤ 1000)
    (h1 : ∀ a k, s.heap.get? a = some (tupO out k) → Q (.ref a) s) (h2 : Q (.ref s.heap.objs.size) { s with heap := s.heap.push (tupO out 0) }) :
    wpAny (model prog w) A (getItem (.ref t) (.ref sl)) Q E s := by
  have ht' : IsTup s.heap t vs.toArray := ⟨_, ht, rfl, m, rfl⟩
  unfold getItem
  try with_reducible refine wpAny_holding ?_
  first | refine wpAny_bind (wpAny_pure ?_) | skip
  refine wpAny_bind (wpAny_sequenceKey ht'.typeIs (by decide) ?_)
  refine wpAny_bind (wpAny_callSpecial?_slot (name := Str.ofString "__getitem__") ht'.typeIs slot_tuple_getitem
    (wpAny_call_entry slot_tuple_getitem ht'.typeIs entry_tuple_getitem ?_ (args_tuple_getitem _ _)))
  show wpAny _ _ (Builtin.Tuple.tupleItemsOf (.ref t) >>= _) _ _ s
  refine wpAny_bind (tupleItemsOf_ ht' ?_)
  refine wpAny_bind (wpAny_typeOf hs ?_)
  rw [if_pos (by decide)]
  refine wpAny_bind (happ ?_)
  show wpAny _ _ (if ((lo : Int) == 0 && (1 : Int) == 1 && cnt == vs.toArray.size) = true then _ else _) _ _ s
  by_cases hw : ((lo : Int) == 0 && (1 : Int) == 1 && cnt == vs.toArray.size) = true
  · rw [if_pos hw]
    simp only [Bool.and_eq_true, beq_iff_eq, List.size_toArray] at hw
    have e := hwhole (by omega) hw.2
    subst e
    show wpAny _ _ (Builtin.Tuple.tupleIsExact (.ref t) >>= _) _ _ s
    refine wpAny_bind ?_
    unfold Builtin.Tuple.tupleIsExact
    refine wpAny_bind (wpAny_typeOf ht'.typeIs (wpAny_pure ?_))
    refine bm_if_true (by decide) ?_
    refine wpAny_bind (wpAny_rule ?_)
    exact wpAny_pure ⟨_, rfl, wpAny_pure (h1 t m ht)⟩
  · rw [if_neg hw, hout]
    have hso : sizeOk (.seq out.toArray) := by
      show out.toArray.size ≤ sizeLine
      rw [List.size_toArray, sizeLine_eq]
      omega
    first
      | exact wpAny_bind (m := Builtin.Tuple.tupleExact _) (wpAny_newObj_type (wpAny_pure ⟨_, rfl, wpAny_pure h2⟩) hso)
      | exact wpAny_bind (m := Builtin.Tuple.tupleExact _) (wpAny_newObj_type (wpAny_bind (wpAny_pure (wpAny_pure ⟨_, rfl, wpAny_pure h2⟩))) hso)
      | exact wpAny_bind (wpAny_bind (m := Builtin.Tuple.tupleExact _) (wpAny_newObj_type (wpAny_pure (wpAny_pure ⟨_, rfl, wpAny_pure h2⟩)) hso))
      | exact wpAny_bind (wpAny_bind (m := Builtin.Tuple.tupleExact _) (wpAny_newObj_type (wpAny_pure ⟨_, rfl, wpAny_pure h2⟩) hso))
end

section
variable {prog : Program} {w : World} {n : Nat} {g : Heap} {env : Env} {pos p : Pos}
theorem take_paired {h : Heap} {vs : List Value} {row : List Int} (b : Nat) (q : Paired (IntR h) vs row) : Paired (IntR h) (vs.take b) (row.take b) := paired_take b q
theorem Run.sliceFrom {value lo : Expr} {row : List Int} {a : Nat} (h₁ : Run prog w n g (eval value env) (fun h v => TupI h v row)) (h₂ : Run prog w n g (eval lo env) (fun h v => IntR h v a)) (ha : a ≤ row.length) (hz : row.length ≤ 1000)
    (ht : ∀ o r, letTemporaryGo value o r = pure () := by intro _ _; rfl) :
    Run prog w n g (eval (.Subscript value (.Slice (some lo) none none p) pos) env) (fun h v => TupI h v (row.drop a)) := fun A s E ok x => by
  refine wpAny_Subscript_Slice slot_tuple_getitem.lookup (h₁.use ok x fun o s₁ ho k₁ => ?_) ht
  refine wpAny_Slice ?_
  rw [evalPart_some, evalPart_none]
  refine h₂.use ok (x.trans (keeps_ext k₁)) fun l s₂ hl k₂ => wpAny_pure (wpAny_pure ?_)
  obtain ⟨u, rfl⟩ := hl
  obtain ⟨t, vs, m, rfl, hot, q⟩ := TupI.mono _ _ _ _ (keeps_ext k₂) ho
  have hot' : (s₂.heap.push { cls := .type "slice", data := .fields #[.int a u, .none, .none] }).get? t = some (tupO vs m) := Heap.get?_push_of_some _ hot
  have el := paired_len q
  refine ⟨⟨_, hot', rfl⟩, ?_⟩
  have kk : Keeps s { s₂ with heap := s₂.heap.push { cls := .type "slice", data := .fields #[.int a u, .none, .none] } } := keeps_trans k₁ (keeps_trans k₂ (keeps_mk' (Ext.push _ _)))
  refine getItem_slice (lo := a) (cnt := vs.toArray.size - a) (out := vs.drop a) hot' ⟨_, Heap.get?_push_size _ rfl, rfl⟩ (fun hq => sliceApplied_from (Heap.IsSliceOf.new ..) (by simp; omega) hq) (by simpa using pick_from vs.toArray a (by simp; omega)) (fun h0 _ => by subst h0; rfl) (by rw [List.length_drop]; omega) (fun b k hb => ⟨⟨b, _, k, rfl, hb, paired_drop a q⟩, kk⟩) ⟨⟨_, _, 0, rfl, Heap.get?_push_size _ rfl, paired_drop a q⟩, keeps_trans kk (keeps_mk' (Ext.push _ _))⟩
theorem Run.sliceTo {value hi : Expr} {row : List Int} {b : Nat} (h₁ : Run prog w n g (eval value env) (fun h v => TupI h v row)) (h₂ : Run prog w n g (eval hi env) (fun h v => IntR h v b)) (hb : b ≤ row.length) (hz : row.length ≤ 1000)
    (ht : ∀ o r, letTemporaryGo value o r = pure () := by intro _ _; rfl) :
    Run prog w n g (eval (.Subscript value (.Slice none (some hi) none p) pos) env) (fun h v => TupI h v (row.take b)) := fun A s E ok x => by
  refine wpAny_Subscript_Slice slot_tuple_getitem.lookup (h₁.use ok x fun o s₁ ho k₁ => ?_) ht
  refine wpAny_Slice ?_
  rw [evalPart_some, evalPart_none]
  refine wpAny_pure (h₂.use ok (x.trans (keeps_ext k₁)) fun l s₂ hl k₂ => wpAny_pure ?_)
  obtain ⟨u, rfl⟩ := hl
  obtain ⟨t, vs, m, rfl, hot, q⟩ := TupI.mono _ _ _ _ (keeps_ext k₂) ho
  have hot' : (s₂.heap.push { cls := .type "slice", data := .fields #[.none, .int b u, .none] }).get? t = some (tupO vs m) := Heap.get?_push_of_some _ hot
  have el := paired_len q
  refine ⟨⟨_, hot', rfl⟩, ?_⟩
  have kk : Keeps s { s₂ with heap := s₂.heap.push { cls := .type "slice", data := .fields #[.none, .int b u, .none] } } := keeps_trans k₁ (keeps_trans k₂ (keeps_mk' (Ext.push _ _)))
  refine getItem_slice (lo := 0) (cnt := b) (out := vs.take b) hot' ⟨_, Heap.get?_push_size _ rfl, rfl⟩ (fun hq => sliceApplied_to (Heap.IsSliceOf.new ..) (by simp; omega) hq) (by simpa using pick_to vs.toArray b) (fun _ h0 => by rw [h0, List.take_length]) (by rw [List.length_take]; omega) (fun c k hc => ⟨⟨c, _, k, rfl, hc, paired_take b q⟩, kk⟩) ⟨⟨_, _, 0, rfl, Heap.get?_push_size _ rfl, paired_take b q⟩, keeps_trans kk (keeps_mk' (Ext.push _ _))⟩
end
end Mine

namespace Mine


/-- what the frame holds -/
def Vars (h : Heap) (env : Env) (l : List (Str × Value)) : Prop := ∃ m, h.Ns env.locals m ∧ ∀ x v, (x, v) ∈ l → m x = some v
theorem Vars.keep {h h' : Heap} {env : Env} {l : List (Str × Value)} (x : Vars h env l) (hL : ∀ o, h.get? env.locals = some o → h'.get? env.locals = some o) : Vars h' env l := by
  obtain ⟨m, hn, hm⟩ := x
  exact ⟨m, hn.at' hL, hm⟩
theorem Vars.ext {h h' : Heap} {env : Env} {l : List (Str × Value)} (x : Vars h env l) (e : Ext h h') : Vars h' env l := x.keep fun o q => e _ _ q
theorem Vars.sub {h : Heap} {env : Env} {l l' : List (Str × Value)} (x : Vars h env l) (k : ∀ p ∈ l', p ∈ l) : Vars h env l' := by
  obtain ⟨m, hn, hm⟩ := x
  exact ⟨m, hn, fun y v hv => hm y v (k _ hv)⟩
theorem Vars.sees {h : Heap} {env : Env} {l : List (Str × Value)} (V : Vars h env l) {x : Str} {v : Value} (k : env.kindOf x = some .local) (hm : (x, v) ∈ l) : Sees h env x v := by
  obtain ⟨m, hn, hl⟩ := V
  exact sees_loc k hn (hl x v hm)
theorem Vars.get {h : Heap} {env : Env} {l : List (Str × Value)} (V : Vars h env l) : ∃ o, h.get? env.locals = some o ∧ ∀ vs n, o ≠ tupO vs n := by
  obtain ⟨m, hn, _⟩ := V
  exact ns_no_tup hn

section
variable {prog : Program} {w : World} {n : Nat} {env : Env} {A : Around} {s : Shared} {E : Value → Shared → Prop} {pos p : Pos} {l : List (Str × Value)} {X : List Addr}

theorem kx_but {L : Addr} {h' : Heap} {tk : Nat} (hX : L ∈ X) (k : ∀ b o, b ≠ L → s.heap.get? b = some o → h'.get? b = some o) : KX X s { s with heap := h', toks := tk } :=
  ⟨h', tk, rfl, fun b o hb e => k b o (fun z => hb (z ▸ hX)) e⟩
theorem wp_store {x : Str} {v : Value} {Q : Unit → Shared → Prop} (K : EnvOk env) (hl : env.kindOf x = some .local) (V : Vars s.heap env l) (hx : ∀ y ∈ l.map (·.1), y ≠ x)
    (k : ∀ h' tk, Vars h' env ((x, v) :: l) → (∀ b o, b ≠ env.locals → s.heap.get? b = some o → h'.get? b = some o) → Q () { s with heap := h', toks := tk }) : wpAny (model prog w) A (storeName env x v) Q E s := by
  obtain ⟨m, hn, hm⟩ := V
  refine wpAny_storeName_local hl hn (fun h' hn' hs' => k h' _ ⟨_, hn', fun y u hy => ?_⟩ hs'.extBut) (by rw [K.kind]; rfl)
  rcases List.mem_cons.mp hy with e | hy
  · injection e with e1 e2
    subst e1 e2
    rw [if_pos rfl]
  · rw [if_neg (hx y (List.mem_map_of_mem (f := (·.1)) hy))]
    exact hm _ _ hy
theorem wp_assignV {x : Str} {value : Expr} {P : Heap → Value → Prop} {Q : Flow → Shared → Prop} (K : EnvOk env) (hl : env.kindOf x = some .local) (V : Vars s.heap env l) (hx : ∀ y ∈ l.map (·.1), y ≠ x) (a : AOk n A) (h : Run prog w n s.heap (eval value env) P)
    (k : ∀ v h₁ h' tk, P h₁ v → Ext s.heap h₁ → (∀ b o, b ≠ env.locals → h₁.get? b = some o → h'.get? b = some o) → Vars h' env ((x, v) :: l) → (∀ b o, b ≠ env.locals → s.heap.get? b = some o → h'.get? b = some o) → Q .next { s with heap := h', toks := tk })
    (hs : swapsWith value (some (.Name x p)) pos.line env = pure false := by rfl) : wpAny (model prog w) A (exec (.Assign [.Name x p] value pos) env) Q E s :=
  wpAny_Assign_Name (h.use a (Ext.refl _) fun v s₁ pv k₁ => by
    obtain ⟨h₁, t₁, rfl, kk⟩ := k₁
    exact wp_store K hl (V.ext kk) hx fun h' tk V' k' => k v h₁ h' tk pv kk k' V' fun b o hb e => k' b o hb (kk b o e)) hs
/-- to a name that is a cell -/
theorem wp_assignCell {x : Str} {c : Addr} {v₀ : Option Value} {value : Expr} {P : Heap → Value → Prop} {Q : Flow → Shared → Prop} (K : EnvOk env) (hl : env.kindOf x = some .cell) (hc : env.cells.lookup x = some c) (hv : s.heap.IsCell c v₀) (a : AOk n A) (h : Run prog w n s.heap (eval value env) P)
    (k : ∀ v h₁ h' tk, P h₁ v → Ext s.heap h₁ → (∀ b o, b ≠ c → h₁.get? b = some o → h'.get? b = some o) → h'.IsCell c (some v) → (∀ b o, b ≠ c → s.heap.get? b = some o → h'.get? b = some o) → Q .next { s with heap := h', toks := tk })
    (hs : swapsWith value (some (.Name x p)) pos.line env = pure false := by rfl) : wpAny (model prog w) A (exec (.Assign [.Name x p] value pos) env) Q E s :=
  wpAny_Assign_Name (h.use a (Ext.refl _) fun v s₁ pv k₁ => by
    obtain ⟨h₁, t₁, rfl, kk⟩ := k₁
    exact wpAny_storeName_cell K.kind hl hc (hv.keeps kk) fun h' hv' hs' => k v h₁ h' _ pv kk hs'.extBut hv' fun b o hb e => hs'.extBut b o hb (kk b o e)) hs
/-- x, y = (e₁, e₂) -/
theorem wp_assignPair {x y : Str} {value : Expr} {elts : List Expr} {kk' : Nat} {tpos : Pos} {P₁ P₂ : Heap → Value → Prop} {Q : Flow → Shared → Prop} (K : EnvOk env) (hl : env.kindOf x = some .local) (hl₂ : env.kindOf y = some .local) (V : Vars s.heap env l) (hx : ∀ y ∈ l.map (·.1), y ≠ x) (hy : ∀ z ∈ l.map (·.1), z ≠ y) (hxy : y ≠ x) (a : AOk n A)
    (h : Run prog w n s.heap (eval value env) (fun h v => ∃ t u₁ u₂ m, v = .ref t ∧ h.get? t = some (tupO [u₁, u₂] m) ∧ P₁ h u₁ ∧ P₂ h u₂))
    (k : ∀ v₁ v₂ h₁ h' tk, P₁ h₁ v₁ → P₂ h₁ v₂ → Ext s.heap h₁ → (∀ b o, b ≠ env.locals → h₁.get? b = some o → h'.get? b = some o) → Vars h' env ((x, v₁) :: (y, v₂) :: l) → (∀ b o, b ≠ env.locals → s.heap.get? b = some o → h'.get? b = some o) → Q .next { s with heap := h', toks := tk })
    (hs : swapsWithSole [.Tuple elts kk' tpos] value pos.line env = pure false := by rfl) (hw : swappedStores [.Tuple elts kk' tpos] value env = pure (some [x, y]) := by rfl) :
    wpAny (model prog w) A (exec (.Assign [.Tuple elts kk' tpos] value pos) env) Q E s := by
  refine Assign_Tuple_swapped (names := [x, y]) (h.use a (Ext.refl _) fun v s₁ pv k₁ => ?_) hs hw
  obtain ⟨t, u₁, u₂, m, rfl, ho, p₁, p₂⟩ := pv
  obtain ⟨h₁, t₁, rfl, kk⟩ := k₁
  refine unpackItems_tuple (items := #[u₁, u₂]) a.hh ⟨_, ho, rfl, m, rfl⟩ fun h₂ he₂ => ?_
  have e₂ : Ext h₁ h₂ := fun b o e => he₂ b o (Nat.ne_of_lt (Heap.lt_size e)) e
  show wpAny _ _ (assignInOrder [fun v => bindName env y v, fun v => bindName env x v] [u₂, u₁]) _ _ _
  refine assignInOrder_cons (wpAny_bindName (wp_store K hl₂ ((V.ext kk).ext e₂) hy fun h₃ tk₃ V₃ k₃ => ?_))
  refine assignInOrder_cons (wpAny_bindName (wp_store K hl V₃ (fun q hq => ?_) fun h₄ tk₄ V₄ k₄ => ?_))
  · rcases List.mem_cons.mp hq with rfl | hq
    · exact hxy
    · exact hx q hq
  refine assignInOrder_nil (k u₁ u₂ h₁ h₄ tk₄ p₁ p₂ kk (fun b o hb e => k₄ b o hb (k₃ b o hb (e₂ _ _ e))) V₄ fun b o hb e => k₄ b o hb (k₃ b o hb (e₂ _ _ (kk _ _ e))))

/-- x = [elt for y in iter if ..], the list laid while the comprehension's frame stands -/
theorem wp_assignComp {x : Str} {px : Pos} {elt iter : Expr} {y : Str} {ifs : List Expr} {scope : Scope} {cpos : Pos} {α β : Type} {R : RelH α} {R' : RelH β} {xs : List α} {res : List β} {Q : Flow → Shared → Prop} (pr : α → Bool) (f : α → β) (hres : (xs.filter pr).map f = res)
    (K : EnvOk env) (hl : env.kindOf x = some .local) (V : Vars s.heap env l) (hxl : ∀ y ∈ l.map (·.1), y ≠ x) (a : AOk n A)
    (src : Run prog w n s.heap (eval iter env) (fun h v => Iters prog w h v R xs)) (hsz : xs.length ≤ sizeLine) (hR : RMono R) (hR' : TMono R') (hf : FreeOk env scope)
    (tests : ∀ cenv g' v z, CLink scope env cenv → Ext s.heap g' → z ∈ xs → R g' v z → Sees g' cenv y v → Run prog w n g' (testsT ifs cenv) (fun _ b => b = pr z))
    (el : ∀ cenv g' v z, CLink scope env cenv → Ext s.heap g' → z ∈ xs → pr z = true → R g' v z → Sees g' cenv y v → Run prog w n g' (eval elt cenv) (fun h v => R' h v (f z)))
    (k : ∀ v h' tk, LstR R' h' v res → Vars h' env ((x, v) :: l) → (∀ b o, b ≠ env.locals → s.heap.get? b = some o → h'.get? b = some o) → Q .next { s with heap := h', toks := tk })
    (hsw : swapsWith (.ListComp elt [⟨.Name y p, iter, ifs, 0⟩] scope cpos) (some (.Name x px)) pos.line env = pure true := by rfl)
    (hk : scope.kind = .function := by rfl) (hc : ∀ p ∈ scope.names, p.2 = .cell → ∀ q ∈ scope.names, q.2 = .free → p.1 ≠ q.1 := by decide) (hx : (scope.names.lookup y = some .local) ∨ scope.names.lookup y = some .cell := by decide)
    (hnames : ∀ x ∈ scope.names, x.2 = .local → scope.names.lookup x.1 = some .local := by decide)
    (hs : ∀ x, foldedSetIterable iter env x = pure x := by intro _; rfl) :
    wpAny (model prog w) A (exec (.Assign [.Name x px] (.ListComp elt [⟨.Name y p, iter, ifs, 0⟩] scope cpos) pos) env) Q E s := by
  subst hres
  rw [exec_Assign_Name_used _ _ _ _ hsw]
  refine wpAny_bind (wpAny_standAt (wpAny_bind ?_))
  show wpAny _ A (do let _ ← comprehension (.ListComp elt [⟨.Name y p, iter, ifs, 0⟩] scope cpos) scope env _ (newList []) false (eval iter env) (some (assign (.Name x px) env))) _ _ s
  refine wpAny_bind (wpAny_mono (wpAny_comprehension_free (use := some (assign (.Name x px) env)) (cl := closOf env scope.names []) (Q := fun _ s' => Q .next s') rfl hs (closureFor_eq hf) hk hnames ?_) (fun _ s' hq => wpAny_pure (wpAny_pure hq)) fun _ _ e => e)
  refine src.use a (Ext.refl _) fun xv s₁ it k₁ => ?_
  obtain ⟨h₁, t₁, rfl, kk₁⟩ := k₁
  refine it A _ _ _ a.hh (Ext.refl _) fun I fp P St h₂ Wk st e₂ hI hIo hfp hIo' hP _ => ?_
  dsimp only at e₂ hI hIo hfp hP st ⊢
  have V₂ := (V.ext kk₁).ext e₂
  obtain ⟨oL, hoL, hLn⟩ := V₂.get
  obtain ⟨oL₀, hoL₀, _⟩ := V.get
  refine comp_block (g := h₁) (R := R) (R' := R') (p := pr) (f := f) (RR := fun acc C => compPost (model prog w) A E (some (assign (.Name x px) env)) (fun _ s' => Q .next s') acc C) a e₂ Wk st hI hfp hIo' hP hsz hR' K hk hf hc hx
    (fun cenv g' v z L x' hz r sees => tests cenv g' v z L (Ext.trans kk₁ x') hz (hR _ _ _ _ x' r) sees)
    (fun cenv g' v z L x' hz hp r sees => el cenv g' v z L (Ext.trans kk₁ x') hz hp (hR _ _ _ _ x' r) sees) ?_
  intro D C h' tk vs ep hD hC hDC hn hl' hp hkeep
  obtain ⟨m, hn⟩ := hn
  have hLI : env.locals ≠ I := fun z => by
    have := kk₁ _ _ hoL₀
    rw [z, hI] at this
    cases this
  have hLC : env.locals ≠ C := fun z => by rw [z, hC] at hoL; cases hoL
  have hLD : env.locals ≠ D := fun z => by rw [z, hD] at hoL; cases hoL
  have V' : Vars h' env l := V₂.keep fun o q => hkeep _ _ hLI q
  show wpAny _ A (assign (.Name x px) env (.ref D)) _ E _
  refine wpAny_assign_Name (wp_store K hl V' hxl fun h₃ tk₃ V₃ k₃ => ?_)
  obtain ⟨oC, heC, hCn⟩ := ns_no_tup hn
  have hnC : h₃.Ns C m := hn.at' fun o q => k₃ _ _ (Ne.symm hLC) q
  refine ⟨m, hnC, fun h'' hs'' => k (.ref D) h'' tk₃ ⟨D, vs, ep, rfl, hs''.extBut _ _ hDC (k₃ _ _ (Ne.symm hLD) hl'), ?_⟩ (V₃.keep fun o q => hs''.extBut _ _ hLC q) fun b o hb q => ?_⟩
  · obtain ⟨oL', hoL', hLn'⟩ := V'.get
    have t1 : TExt h' h₃ := TExt.but hoL' hLn' fun b o hb e => k₃ b o hb e
    obtain ⟨oC', heC', hCn'⟩ := ns_no_tup hnC
    exact paired_mono (fun a b r => hR' _ _ a b (t1.trans (TExt.but heC' hCn' hs''.extBut)) r) hp
  · have q₁ : h₁.get? b = some o := kk₁ b o q
    have q₂ : h₂.get? b = some o := e₂ b o q₁
    refine hs''.extBut b o (fun z => ?_) (k₃ b o hb (hkeep b o (fun z => ?_) q₂))
    · rw [z, hC] at q₂; cases q₂
    · rw [z, hI] at q₁; cases q₁
end
end Mine

namespace Mine


def NoSeq (o : Obj) : Prop := ∀ xs n, o.data ≠ .seq xs n
theorem ns_noSeq {h : Heap} {C : Addr} {m : Str → Option Value} (x : h.Ns C m) : ∃ o, h.get? C = some o ∧ NoSeq o := by
  obtain ⟨o, es, ep, ho, hd, _⟩ := x
  exact ⟨o, ho, fun xs n e => by rw [e] at hd; cases hd⟩
theorem cell_noSeq {h : Heap} {c : Addr} {v : Option Value} (x : h.IsCell c v) : ∃ o, h.get? c = some o ∧ NoSeq o := by
  obtain ⟨o, ho, hd⟩ := x
  exact ⟨o, ho, fun xs n e => by rw [e] at hd; cases hd⟩
theorem NoSeq.no_tup {o : Obj} (x : NoSeq o) : ∀ vs n, o ≠ tupO vs n := fun vs n e => x _ _ (by rw [e])
/-- sequences stand where only other things turn -/
theorem text_keep {h h' : Heap} {X : List Addr} (hX : ∀ c ∈ X, ∃ o, h.get? c = some o ∧ NoSeq o) (k : ∀ b o, b ∉ X → h.get? b = some o → h'.get? b = some o) : TExt h h' := fun b vs n e => k b _ (fun z => by
  obtain ⟨o, ho, hn⟩ := hX b z
  rw [e] at ho
  exact hn.no_tup vs n (Option.some.inj ho).symm) e
theorem lst_keep {h h' : Heap} {X : List Addr} {α : Type} {R : RelH α} {v : Value} {xs : List α} (hX : ∀ c ∈ X, ∃ o, h.get? c = some o ∧ NoSeq o) (k : ∀ b o, b ∉ X → h.get? b = some o → h'.get? b = some o) (r : TMono R) (x : LstR R h v xs) : LstR R h' v xs := by
  obtain ⟨a, vs, n, rfl, ho, p⟩ := x
  refine ⟨a, vs, n, rfl, k a _ (fun z => ?_) ho, paired_mono (fun x y q => r _ _ x y (text_keep hX k) q) p⟩
  obtain ⟨o, ho', hn⟩ := hX a z
  rw [ho] at ho'
  injection ho' with e
  exact hn vs.toArray n (by rw [← e])

/-- how the three stores of law go that the compiler may turn -/
def sw1 (env : Env) : Prop := match (fnD 10).body.getD 1 (.Pass default) with
  | .Assign ts v _ => swappedStores ts v env = pure (some [Str.ofString "rows", Str.ofString "order"])
  | _ => False
def swL (k : Nat) (env : Env) : Prop := match (fnD 10).body.getD k (.Pass default) with
  | .Assign [t] v pos => swapsWith v (some t) pos.line env = pure true
  | _ => False
/-- law's frame and what it stands on -/
structure LawC (mg mb : Str → Option Value) (g : Heap) (env : Env) (cm cs a1 a3 a4 a6 a7 a8 a9 : Addr) : Prop where
  G : Gd mg mb g
  K : EnvOk env
  f1 : FnIs mg g (fnD 1) a1
  f3 : FnB mg g 3 a3
  f4 : FnB mg g 4 a4
  f6 : FnIs mg g (fnD 6) a6
  f7 : FnIs mg g (fnD 7) a7
  f8 : FnIs mg g (fnD 8) a8
  f9 : FnIs mg g (fnD 9) a9
  gL : g.get? env.locals = none
  gm : g.get? cm = none
  gs : g.get? cs = none
  Lm : cm ≠ env.locals
  Ls : cs ≠ env.locals
  ms : cm ≠ cs
  loc : ∀ x ∈ (["script", "whole", "rows", "order", "row", "there", "place", "own", "odd", "drawn", "right"] : List Str), env.kindOf x = some .local
  km : env.kindOf "many" = some .cell
  ks : env.kindOf "side" = some .cell
  lm : env.cells.lookup ("many" : Str) = some cm
  ls : env.cells.lookup ("side" : Str) = some cs
  glo : ∀ x ∈ (["sum", "_law_rows", "insort_left", "sorted", "len", "dict", "_law_columns", "bisect_left", "_law_square", "_byteswap", "bytes", "range", "tuple"] : List Str), env.kindOf x = some .globalImplicit
  int : interactive env = false
  sw1 : sw1 env
  sw6 : swL 6 env
  sw7 : swL 7 env

/-- the frame at a point of the run -/
structure LS (g : Heap) (env : Env) (cm cs : Addr) (l : List (Str × Value)) (h : Heap) : Prop where
  ext : Ext g h
  vars : Vars h env l
  cm : ∃ v, h.IsCell cm v
  cs : ∃ v, h.IsCell cs v
theorem LS.X {g : Heap} {env : Env} {cm cs : Addr} {l : List (Str × Value)} {h : Heap} (x : LS g env cm cs l h) : ∀ c ∈ [env.locals, cm, cs], ∃ o, h.get? c = some o ∧ NoSeq o := fun c hc => by
  simp only [List.mem_cons, List.not_mem_nil, or_false] at hc
  rcases hc with rfl | rfl | rfl
  · obtain ⟨m, hn, _⟩ := x.vars
    exact ns_noSeq hn
  · obtain ⟨v, hv⟩ := x.cm
    exact cell_noSeq hv
  · obtain ⟨v, hv⟩ := x.cs
    exact cell_noSeq hv
theorem LS.grow {g : Heap} {env : Env} {cm cs : Addr} {l : List (Str × Value)} {h h' : Heap} (x : LS g env cm cs l h) (e : Ext h h') : LS g env cm cs l h' := by
  obtain ⟨v, hv⟩ := x.cm
  obtain ⟨u, hu⟩ := x.cs
  exact ⟨x.ext.trans e, x.vars.ext e, ⟨v, hv.keeps e⟩, ⟨u, hu.keeps e⟩⟩
theorem LS.sub {g : Heap} {env : Env} {cm cs : Addr} {l l' : List (Str × Value)} {h : Heap} (x : LS g env cm cs l h) (k : ∀ p ∈ l', p ∈ l) : LS g env cm cs l' h := ⟨x.ext, x.vars.sub k, x.cm, x.cs⟩

section
variable {mg mb : Str → Option Value} {g : Heap} {env : Env} {cm cs a1 a3 a4 a6 a7 a8 a9 : Addr}
theorem cell_at {h h' : Heap} {c : Addr} {v : Option Value} (x : h.IsCell c v) (e : ∀ o, h.get? c = some o → h'.get? c = some o) : h'.IsCell c v := by
  obtain ⟨o, ho, hd⟩ := x
  exact ⟨o, e _ ho, hd⟩
theorem LawC.set (C : LawC mg mb g env cm cs a1 a3 a4 a6 a7 a8 a9) {l l' : List (Str × Value)} {h h' : Heap} (x : LS g env cm cs l h) (V : Vars h' env l') (k : ∀ b o, b ≠ env.locals → h.get? b = some o → h'.get? b = some o) : LS g env cm cs l' h' := by
  obtain ⟨v, hv⟩ := x.cm
  obtain ⟨u, hu⟩ := x.cs
  refine ⟨fun b o e => k b o (fun z => ?_) (x.ext _ _ e), V, ⟨v, cell_at hv fun o e => k _ _ C.Lm e⟩, ⟨u, cell_at hu fun o e => k _ _ C.Ls e⟩⟩
  rw [z, C.gL] at e
  cases e
theorem LawC.get (C : LawC mg mb g env cm cs a1 a3 a4 a6 a7 a8 a9) {h : Heap} (e : Ext g h) : Gd mg mb h := C.G.ext e
end

theorem boot_sum : bootBuiltins "sum" = some (.builtin "sum") := by decide +kernel

section
variable {prog : Program} {w : World} {mg mb : Str → Option Value} {g : Heap} {env : Env} {cm cs a1 a3 a4 a6 a7 a8 a9 : Addr} {A : Around} {s : Shared} {E : Value → Shared → Prop}

/-- whole = sum(script) % 11 -/
theorem law0 (C : LawC mg mb g env cm cs a1 a3 a4 a6 a7 a8 a9) (ok : AOk 24 A) {vS : Value} {script : List Int} (S : LS g env cm cs [("script", vS)] s.heap) (hS : LstI g vS script) :
    wpAny (model prog w) A (exec ((fnD 10).body.getD 0 (.Pass default)) env) (fun fl s' => fl = .next ∧ ∃ tw, LS g env cm cs [("script", vS), ("whole", .int (script.sum.fmod 11) tw)] s'.heap ∧ KX [env.locals, cm, cs] s s') E s := by
  refine wp_assignV (n := 24) (P := fun h v => IntR h v (script.sum.fmod 11)) C.K (C.loc "whole" (by decide)) S.vars (show ∀ y ∈ (["script"] : List Str), y ≠ "whole" by decide) ok ?_ (fun v h₁ h' tk pv e₁ k V k' => ?_) (by with_unfolding_all rfl)
  · refine Run.mod (by decide) (by decide) (Run.call1 (n := 24) (P := fun h v => LstI h v script) (Run.built' C.K (C.get S.ext) (by decide) boot_sum (C.glo "sum" (by decide)) (by decide) (by decide)) (.inl ⟨_, rfl⟩) (Run.nameR C.K (S.vars.sees (C.loc "script" (by decide)) (by simp)) (LstI.mono _ _ _ _ S.ext hS) LstI.mono) (fun _ _ _ x p => LstI.mono _ _ _ _ x p) (fun g' v x p => Run.sum (n := 23) (Iters.list p)) (by rfl)) Run.int
  · obtain ⟨t, rfl⟩ := pv
    exact ⟨rfl, t, C.set S (V.sub (by simp)) k', kx_but (by simp) k'⟩
end
end Mine

namespace Mine


def orderL (rows : List (List Int)) : List (List Int) := rows.foldl insL []

theorem insL_len (l : List (List Int)) (x : List Int) : (insL l x).length = l.length + 1 := by
  have := bisL_le l x
  simp [insL]
  omega
theorem orderL_len : ∀ (rows l : List (List Int)), (rows.foldl insL l).length = rows.length + l.length
  | [], l => by simp
  | x :: r, l => by
    rw [List.foldl_cons, orderL_len r, insL_len, List.length_cons]
    omega

section
variable {prog : Program} {w : World} {mg mb : Str → Option Value} {g : Heap} {env : Env} {cm cs a1 a3 a4 a6 a7 a8 a9 : Addr} {A : Around} {s : Shared} {E : Value → Shared → Prop}

def EmptyR (g : Heap) : RelH Unit := fun h v _ => ∃ o k, v = .ref o ∧ h.get? o = some (lstO [] k) ∧ g.get? o = none
theorem EmptyR.mono {g : Heap} : RMono (EmptyR g) := fun h h' v _ e ⟨o, k, h1, h2, h3⟩ => ⟨o, k, h1, e _ _ h2, h3⟩
theorem Run.list0E {n : Nat} {pos : Pos} {g : Heap} : Run prog w n g (eval (.List [] pos) env) (fun h v => EmptyR g h v ()) := fun A s E a x =>
  List_ (Calls.spliced_nil (wpAny_newObj_type ⟨⟨_, 0, rfl, Heap.get?_push_size _ rfl, by
    cases q : g.get? s.heap.objs.size with
    | none => rfl
    | some o => exact absurd (Heap.lt_size (x _ _ q)) (Nat.lt_irrefl _)⟩, keeps_mk' (Ext.push _ _)⟩))

/-- rows, order = (_law_rows(whole, whole), []) -/
theorem law1 (C : LawC mg mb g env cm cs a1 a3 a4 a6 a7 a8 a9) (ok : AOk 24 A) {vS : Value} {wh : Int} {tw : Tok} (h0 : 0 ≤ wh) (h1 : wh ≤ 10) (S : LS g env cm cs [("script", vS), ("whole", .int wh tw)] s.heap) :
    wpAny (model prog w) A (exec ((fnD 10).body.getD 1 (.Pass default)) env) (fun fl s' => fl = .next ∧ ∃ vR o k, LS g env cm cs [("rows", vR), ("order", .ref o), ("script", vS), ("whole", .int wh tw)] s'.heap ∧ LstT s'.heap vR (rowsF 10 wh wh) ∧ s'.heap.get? o = some (lstO [] k) ∧ s.heap.get? o = none ∧ KX [env.locals, cm, cs] s s') E s := by
  refine wp_assignPair (n := 24) (x := "rows") (y := "order") (P₁ := fun h v => LstT h v (rowsF 10 wh wh)) (P₂ := fun h v => EmptyR s.heap h v ()) C.K (C.loc "rows" (by decide)) (C.loc "order" (by decide)) S.vars (show ∀ y ∈ (["script", "whole"] : List Str), y ≠ "rows" by decide) (show ∀ y ∈ (["script", "whole"] : List Str), y ≠ "order" by decide) (by decide) ok ?_ (fun v₁ v₂ h₁ h' tk p₁ p₂ e₁ k V k' => ?_) (by with_unfolding_all rfl) ?_
  · refine (Run.tup2 (n := 24) (R := LstT) (S := EmptyR s.heap) (a := rowsF 10 wh wh) (b := ()) LstT.mono EmptyR.mono ?_ Run.list0E (by rfl)).mono fun h v _ ⟨t, x, y, m, e1, e2, e3, e4⟩ => ⟨t, x, y, m, e1, e2, e3, e4⟩
    refine Run.call2 (n := 24) (P₁ := fun h v => IntR h v wh) (P₂ := fun h v => IntR h v wh) (Run.glob C.K (C.get S.ext) C.f6.1 (C.glo "_law_rows" (by decide))) (.inr (.inr (by
      obtain ⟨hm, o, pm, cd, doc, ho, hd, hc⟩ := C.f6.ext S.ext
      exact ⟨_, o, _, rfl, ho, hd⟩))) (Run.nameR C.K (S.vars.sees (C.loc "whole" (by decide)) (by simp)) ⟨tw, rfl⟩ IntR.mono) (fun _ _ _ _ p => p) (Run.nameR C.K (S.vars.sees (C.loc "whole" (by decide)) (by simp)) ⟨tw, rfl⟩ IntR.mono) (fun _ _ _ _ p => p) (fun g' u v x p q => ?_) (by rfl) (by rfl)
    exact (rows_spec (n := 8) 10 (C.get (S.ext.trans x)) (C.f6.ext (S.ext.trans x)) p q h0 h1 (by omega) h0 h1).mono fun h v _ q => q.1
  · obtain ⟨o, k₀, rfl, ho, hso⟩ := p₂
    have S₁ := S.grow e₁
    have hoL : o ≠ env.locals := fun z => by
      obtain ⟨oL, q, _⟩ := S.vars.get
      rw [z, q] at hso
      cases hso
    refine ⟨rfl, v₁, o, k₀, C.set S (V.sub (by simp)) k', lst_keep (X := [env.locals]) (fun c hc => S₁.X c (by rw [List.mem_singleton.mp hc]; simp)) (fun b o hb e => k b o (by simpa using hb) e) TupI.t p₁, k _ _ hoL ho, hso, kx_but (by simp) k'⟩
  · exact C.sw1

/-- for row in rows: insort_left(order, row) -/
theorem law2 (C : LawC mg mb g env cm cs a1 a3 a4 a6 a7 a8 a9) (ok : AOk 24 A) {vS vR vW : Value} {rows : List (List Int)} {o : Addr} {k₀ : Nat} (hne : rows ≠ []) (hz : rows.length ≤ 900) (S : LS g env cm cs [("rows", vR), ("order", .ref o), ("script", vS), ("whole", vW)] s.heap)
    (hR : LstT s.heap vR rows) (ho : s.heap.get? o = some (lstO [] k₀)) (hgo : g.get? o = none) :
    wpAny (model prog w) A (exec ((fnD 10).body.getD 2 (.Pass default)) env) (fun fl s' => fl = .next ∧ Vars s'.heap env [("rows", vR), ("order", .ref o), ("script", vS), ("whole", vW)] ∧ LstT s'.heap (.ref o) (orderL rows) ∧ LstT s'.heap vR rows ∧ KX [env.locals, o] s s') E s := by
  obtain ⟨r, vsR, nR, rfl, hr, pR⟩ := id hR
  have elR := paired_len pR
  have hro : r ≠ o := fun z => by
    rw [z, ho] at hr
    have := congrArg Obj.data (Option.some.inj hr)
    simp at this
    have : vsR = [] := this.1
    rw [this] at elR
    exact hne (List.length_eq_zero_iff.mp elR.symm)
  obtain ⟨oL, hoL, hLn⟩ := S.vars.get
  have hrL : r ≠ env.locals := fun z => by
    obtain ⟨m, hn, _⟩ := S.vars
    obtain ⟨o', e, q⟩ := ns_noSeq hn
    rw [z, e] at hr
    exact q vsR.toArray nR (by rw [Option.some.inj hr])
  have hoL' : o ≠ env.locals := fun z => by
    obtain ⟨m, hn, _⟩ := S.vars
    obtain ⟨o', e, q⟩ := ns_noSeq hn
    rw [z, e] at ho
    exact q [].toArray k₀ (by rw [Option.some.inj ho])
  have nd : ∀ {I : Addr}, s.heap.get? I = none → I ≠ env.locals ∧ I ≠ o := fun hI => ⟨ne_of_get hI hoL, ne_of_get hI ho⟩
  refine wp_for (n := 24) (α := List Int) (R := TupI) (xs := rows) [env.locals, o] (fun i s' => Vars s'.heap env [("rows", .ref r), ("order", .ref o), ("script", vS), ("whole", vW)] ∧ ∃ vs ep, s'.heap.get? o = some (lstO vs ep) ∧ Paired (TupI s'.heap) vs ((rows.take i).foldl insL [])) ok TupI.t ?_ ?_ (fun s₁ k₁ => ⟨S.vars.ext (keeps_ext k₁), [], k₀, keeps_ext k₁ _ _ ho, .nil⟩) ?_ ?_ ?_ (by intro _ _; rfl) (by intro _; rfl)
  · refine (Run.name (n := 24) (P := fun h v => v = .ref r ∧ LstT h v rows) C.K (S.vars.sees (C.loc "rows" (by decide)) (by simp)) fun g' x => ⟨rfl, LstT.mono _ _ _ _ x hR⟩).mono fun h v x q => ⟨Iters.list q.2, fun b hb z => ?_⟩
    rw [q.1] at z
    injection z with z
    simp only [List.mem_cons, List.not_mem_nil, or_false] at hb
    rcases hb with rfl | rfl
    · exact hrL z
    · exact hro z
  · intro c hc
    simp only [List.mem_cons, List.not_mem_nil, or_false] at hc
    rcases hc with rfl | rfl
    · exact ⟨oL, hoL, hLn⟩
    · exact ⟨_, ho, lst_no_tup⟩
  · rintro i I s₁ s₂ hI ⟨oI, hoI, hIn⟩ kx ⟨V₁, vs, ep, h1, h2⟩ kI
    have x := nd hI
    exact ⟨V₁.keep fun o' q => kI.get (by simpa using Ne.symm x.1) q, vs, ep, kI.get (by simpa using Ne.symm x.2) h1, paired_mono (fun a b r => TupI.t _ _ _ _ (kI.text (Ext.refl _) fun c hc => by rw [List.mem_singleton.mp hc]; exact ⟨oI, hoI, hIn⟩) r) h2⟩
  · rintro i v y s₁ E' hy hv ⟨V₁, vs, ep, h1, h2⟩ kx
    have hi : i < rows.length := by
      rcases Nat.lt_or_ge i rows.length with q | q
      · exact q
      · rw [List.getElem?_eq_none q] at hy; cases hy
    obtain ⟨oL₁, hoL₁, hLn₁⟩ := V₁.get
    refine wpAny_assign_Name (wp_store C.K (C.loc "row" (by decide)) V₁ (show ∀ y ∈ (["rows", "order", "script", "whole"] : List Str), y ≠ "row" by decide) fun h₂ tk₂ V₂ k₂ => ?_)
    have t₂ : TExt s₁.heap h₂ := TExt.but hoL₁ hLn₁ k₂
    have ho₂ : h₂.get? o = some (lstO vs ep) := k₂ _ _ hoL' h1
    have hp₂ := paired_mono (fun a b r => TupI.t _ _ a b t₂ r) h2
    have hv₂ := TupI.t _ _ _ _ t₂ hv
    have kx₂ : KX [env.locals, o] s { s₁ with heap := h₂, toks := tk₂ } := kx.trans (kx_but (by simp) k₂)
    have eg₂ : Ext g h₂ := kx₂.ext S.ext fun c hc => by
      simp only [List.mem_cons, List.not_mem_nil, or_false] at hc
      rcases hc with rfl | rfl
      · exact C.gL
      · exact hgo
    refine wpAny_execs_cons (wpAny_Expr ?_ C.int (by rfl))
    refine Call_Name rfl ?_
    refine (Run.glob (n := 24) (g := h₂) C.K (C.get eg₂) C.f3.1 (C.glo "insort_left" (by decide))).use ok (Ext.refl _) fun f s₃ hf k₃ => ?_
    subst hf
    obtain ⟨h₃, t₃, rfl, e₃⟩ := k₃
    obtain ⟨_, of, dV, kV, doc, pm, an, cdv, ct, t, hof, hdf, _⟩ := C.f3.ext (eg₂.trans e₃)
    refine PyProof.Rows.callWith_def hdf ?_ (by rfl)
    refine (Run.cons (n := 24) (g := h₃) (Run.name (P := fun _ v => v = .ref o) C.K ((V₂.ext e₃).sees (C.loc "order" (by decide)) (by simp)) fun _ _ => rfl) (fun _ _ _ _ p => p) (Run.cons (Run.name (P := fun _ u => u = v) C.K ((V₂.ext e₃).sees (C.loc "row" (by decide)) (by simp)) fun _ _ => rfl) (fun _ _ _ _ p => p) Run.nil)).use ok (Ext.refl _) fun us s₄ p k₄ => ?_
    obtain ⟨v1, r1, rfl, p1, v2, r2, rfl, p2, p3⟩ := p
    have q1 : v1 = _ := p1
    have q2 : v2 = _ := p2
    have q3 : r2 = [] := p3
    subst q1 q2 q3
    obtain ⟨h₄, t₄, rfl, e₄⟩ := k₄
    have e₃₄ : Ext h₂ h₄ := Ext.trans e₃ e₄
    refine ⟨e₄ _ _ hof, insort_call (n := 18) C.G C.f3 C.f4 hgo ok (eg₂.trans e₃₄) (e₄ _ _ (e₃ _ _ ho₂)) (paired_mono (fun a b r => TupI.mono _ _ _ _ e₃₄ r) hp₂) (TupI.mono _ _ _ _ e₃₄ hv₂) ?_ fun h₅ tk₅ ep₅ vs₅ ho₅ hp₅ k₅ => ?_⟩
    · have := orderL_len (rows.take i) []
      simp only [List.length_take, List.length_nil] at this
      omega
    refine wpAny_execs_nil ⟨⟨((V₂.ext e₃₄).keep fun o' q => k₅ _ _ (Ne.symm hoL') q).sub (by simp), vs₅, ep₅, ho₅, ?_⟩, ?_⟩
    · rw [List.take_add_one, hy, Option.toList_some, List.foldl_append]
      exact hp₅
    · exact (kx_but (by simp) k₂ : KX [env.locals, o] s₁ { s₁ with heap := h₂, toks := tk₂ }).trans ⟨h₅, tk₅, rfl, fun b o' hb q => k₅ b o' (fun z => hb (by rw [z]; simp)) (e₄ _ _ (e₃ _ _ q))⟩
  · rintro s' ⟨V', vs, ep, h1, h2⟩ kx
    rw [List.take_length] at h2
    have tx : TExt s.heap s'.heap := kx.text (Ext.refl _) fun c hc => by
      simp only [List.mem_cons, List.not_mem_nil, or_false] at hc
      rcases hc with rfl | rfl
      · exact ⟨oL, hoL, hLn⟩
      · exact ⟨_, ho, lst_no_tup⟩
    exact ⟨rfl, V', ⟨o, vs, ep, rfl, h1, h2⟩, ⟨r, vsR, nR, rfl, kx.get (by simp [hrL, hro]) hr, paired_mono (fun a b q => TupI.t _ _ _ _ tx q) pR⟩, kx⟩
end
end Mine

namespace Mine


section
variable {prog : Program} {w : World} {n : Nat} {g : Heap} {env : Env} {pos p : Pos}
theorem Run.or2 {a b : Expr} {x y : Bool} {whole : Sem Value} (h₁ : Run prog w n g (isTrue a env (eval a env)) (fun _ v => v = x)) (h₂ : x = false → Run prog w n g (isTrue b env (eval b env)) (fun _ v => v = y)) :
    Run prog w n g (isTrue (.BoolOp .Or [a, b] pos) env whole) (fun _ v => v = (x || y)) := fun A s E ok e => by
  refine isTrue_or (h₁.use ok e fun c s₁ hc k₁ => ?_)
  subst hc
  cases c with
  | true => exact ⟨rfl, k₁⟩
  | false =>
    refine isTrue_or ((h₂ rfl).use ok (e.trans (keeps_ext k₁)) fun c s₂ hc k₂ => ?_)
    subst hc
    cases c with
    | true => exact ⟨rfl, keeps_trans k₁ k₂⟩
    | false => exact isTrue_or_nil ⟨rfl, keeps_trans k₁ k₂⟩
theorem Run.or4 {a b c d : Expr} {whole : Sem Value} (h₁ : Run prog w n g (isTrue a env (eval a env)) (fun _ v => v = false)) (h₂ : Run prog w n g (isTrue b env (eval b env)) (fun _ v => v = false)) (h₃ : Run prog w n g (isTrue c env (eval c env)) (fun _ v => v = false)) (h₄ : Run prog w n g (isTrue d env (eval d env)) (fun _ v => v = false)) :
    Run prog w n g (isTrue (.BoolOp .Or [a, b, c, d] pos) env whole) (fun _ v => v = false) := fun A s E ok e => by
  refine isTrue_or (h₁.use ok e fun _ s₁ hc k₁ => ?_)
  subst hc
  refine isTrue_or (h₂.use ok (e.trans (keeps_ext k₁)) fun _ s₂ hc k₂ => ?_)
  subst hc
  have k12 := keeps_trans k₁ k₂
  refine isTrue_or (h₃.use ok (e.trans (keeps_ext k12)) fun _ s₃ hc k₃ => ?_)
  subst hc
  have k13 := keeps_trans k12 k₃
  refine isTrue_or (h₄.use ok (e.trans (keeps_ext k13)) fun _ s₄ hc k₄ => ?_)
  subst hc
  exact isTrue_or_nil ⟨rfl, keeps_trans k13 k₄⟩
end

section
variable {prog : Program} {w : World} {mg mb : Str → Option Value} {g : Heap} {env : Env} {cm cs a1 a3 a4 a6 a7 a8 a9 : Addr} {A : Around} {s : Shared} {E : Value → Shared → Prop} {l : List (Str × Value)} {p : Pos} {h : Heap}

theorem Run.sortedOf {n : Nat} {g : Heap} {fpos pos : Pos} {e : Expr} {xs : List (List Int)} (K : EnvOk env) (G : Gd mg mb g) (hk : env.kindOf (Str.ofString "sorted") = some .globalImplicit) (h : Run prog w n g (eval e env) (fun h v => LstT h v xs)) (ok : sortOk xs = true) (he : starEach [e] env = [(false, eval e env)] := by rfl) :
    Run prog w n g (eval (.Call (.Name (Str.ofString "sorted") fpos) [e] [] pos) env) (fun h v => LstT h v (sortT xs)) :=
  Run.call1 (Run.built' K G (by decide) boot_sorted hk (by decide) (by decide)) (.inl ⟨_, rfl⟩) h (fun _ _ _ x p => LstT.mono _ _ _ _ x p) (fun g' v x p => Run.sortedT p ok) he

/-- if order != sorted(rows) or len(dict([(row, 1) for row in rows])) != len(rows): return False -/
theorem law3 (C : LawC mg mb g env cm cs a1 a3 a4 a6 a7 a8 a9) (ok : AOk 24 A) {vR vO : Value} {rows : List (List Int)} (S : LS g env cm cs l s.heap) (mR : (Str.ofString "rows", vR) ∈ l) (mO : (Str.ofString "order", vO) ∈ l) (hR : LstT s.heap vR rows) (hO : LstT s.heap vO (orderL rows))
    (hz : rows.length ≤ 900) (hs : sortOk rows = true) (ho : orderL rows = sortT rows) (hnd : rows.Nodup) :
    wpAny (model prog w) A (exec ((fnD 10).body.getD 3 (.Pass default)) env) (fun fl s' => fl = .next ∧ Keeps s s') E s := by
  have nR : ∀ {q : Pos}, Run prog w 24 s.heap (eval (.Name (Str.ofString "rows") q) env) (fun h v => LstT h v rows) := fun {q} => Run.nameR C.K (S.vars.sees (C.loc "rows" (by decide)) mR) hR LstT.mono
  refine wpAny_If ((Run.or2 (n := 24) (g := s.heap) (x := false) (y := false) ?_ fun _ => ?_).use ok (Ext.refl _) fun c s' hc k => ?_)
  · refine (Run.test (n := 24) (P₁ := fun h v => LstT h v (orderL rows)) (P₂ := fun h v => LstT h v (sortT rows)) (b := !decide (orderL rows = sortT rows)) (Run.nameR C.K (S.vars.sees (C.loc "order" (by decide)) mO) hO LstT.mono) (Run.sortedOf C.K (C.get S.ext) (C.glo "sorted" (by decide)) nR hs (by rfl)) (fun _ _ _ x p => LstT.mono _ _ _ _ x p) (fun g' x y _ p q => Run.neLT (n := 20) p q) (by with_unfolding_all rfl)).mono fun h v _ q => ?_
    rw [q, ho]
    simp
  · refine (Run.testI (n := 24) (a := rows.length) (b := rows.length) (c := ((rows.length : Int) != (rows.length : Int))) (Run.lenDictOf (n := 23) C.K (C.get S.ext) (C.glo "len" (by decide)) (C.glo "dict" (by decide)) ?_ hnd (by omega) (by rfl)) (Run.lenOfL C.K (C.get S.ext) (C.glo "len" (by decide)) TupI.mono nR (by omega) (by rfl)) (by rfl) (by with_unfolding_all rfl)).mono fun h v _ q => by rw [q]; simp
    refine Run.listComp (R := TupI) (R' := PairOne) (xs := rows) (fun _ => true) (fun x => x) (by simp) (nR.mono fun h v x q => Iters.list q) (by rw [sizeLine_eq]; omega) TupI.mono PairOne.t C.K ?_ ?_ ?_ (by rfl) (by decide) (by decide) (by decide) (by intro _; rfl)
    · intro p hp hf
      exfalso
      revert p
      decide
    · intro cenv g' v y L x hy r sees
      exact Run.tests0
    · intro cenv g' v y L x hy hp r sees
      exact Run.tup2 (a := y) (b := (1 : Int)) TupI.mono IntR.mono (Run.nameR L.ok sees r TupI.mono) Run.int (by rfl)
  · subst hc
    simp only [Bool.or_self, Bool.false_eq_true, if_false]
    exact wpAny_execs_nil ⟨rfl, k⟩
end
end Mine

namespace Mine


section
variable {prog : Program} {w : World} {n : Nat} {env : Env} {A : Around} {s : Shared} {E : Value → Shared → Prop} {Q : Flow → Shared → Prop} {pos : Pos} {α : Type} {R : RelH α} {xs : List α}

/-- wp_for with the body over wpC -/
theorem wp_forC {target iter : Expr} {body : List Stmt} (X : List Addr) (Inv : Nat → Shared → Prop) (a : AOk n A) (hR : TMono R)
    (src : Run prog w n s.heap (eval iter env) (fun h v => Iters prog w h v R xs ∧ ∀ b ∈ X, v ≠ .ref b))
    (hX : ∀ c ∈ X, ∃ o, s.heap.get? c = some o ∧ ∀ vs n, o ≠ tupO vs n)
    (h0 : ∀ s₁, Keeps s s₁ → Inv 0 s₁)
    (stab : ∀ i I s₁ s₂, s.heap.get? I = none → (∃ o, s₁.heap.get? I = some o ∧ ∀ vs k, o ≠ tupO vs k) → KX X s s₁ → Inv i s₁ → KX [I] s₁ s₂ → Inv i s₂)
    (turn : ∀ i v y s₁ (E' : Value → Shared → Prop), xs[i]? = some y → R s₁.heap v y → Inv i s₁ → KX X s s₁ → wpAny (model prog w) A (assign target env v) (fun _ s₂ => wpC (model prog w) A (execs body env) (fun fl s₃ => fl = .next ∧ Inv (i + 1) s₃ ∧ KX X s₁ s₃) E' s₂) E' s₁)
    (done : ∀ s', Inv xs.length s' → KX X s s' → Q .next s')
    (ht : ∀ it v, letOwnedTupleGo target it v = pure () := by intro _ _; rfl) (hs : ∀ x, foldedSetIterable iter env x = pure x := by intro _; rfl) :
    wpC (model prog w) A (exec (.For target iter body [] pos) env) Q E s := by
  refine wpC_For (src.use a (Ext.refl _) fun xv s₁ ⟨it, hxv⟩ k₁ => ?_) hs
  obtain ⟨h₁, t₁, rfl, kk₁⟩ := k₁
  refine it A _ _ _ a.hh (Ext.refl _) fun I fp P St h₂ Wk st e₂ hI hIo hfp hIo' hP hfx => ?_
  dsimp only at e₂ hI hIo hfp hP st ⊢
  have hIs : s.heap.get? I = none := by
    cases q : s.heap.get? I with
    | none => rfl
    | some o => rw [kk₁ _ _ q] at hI; cases hI
  have hIX : I ∉ X := fun z => by obtain ⟨o, ho, _⟩ := hX I z; rw [hIs] at ho; cases ho
  have hfX : ∀ b ∈ fp, b ∉ X := fun b hb z => by
    rcases hfx b hb with rfl | e
    · exact hIX z
    · exact hxv b z e
  have hX₁ : ∀ c ∈ X, ∃ o, h₁.get? c = some o ∧ ∀ vs n, o ≠ tupO vs n := fun c hc => let ⟨o, ho, hn⟩ := hX c hc; ⟨o, kk₁ _ _ ho, hn⟩
  refine codeC_forLoop (ht := ht _) (fun k s' => ∃ i, i ≤ xs.length ∧ k = xs.length + 1 - i ∧ St i s'.heap ∧ KX X { s with heap := h₁, toks := t₁ } s' ∧ Inv i s') ?_ (xs.length + 1) ⟨0, Nat.zero_le _, rfl, st, KX.of ⟨h₂, t₁, rfl, e₂⟩, h0 _ ⟨h₂, t₁, rfl, fun b o e => e₂ b o (kk₁ b o e)⟩⟩
  rintro k s' E' ⟨i, hi, rfl, st', kx', inv'⟩
  have kxs : KX X s s' := (KX.of ⟨h₁, t₁, rfl, kk₁⟩).trans kx'
  by_cases hlt : i < xs.length
  · refine Wk.item i _ _ _ hlt st' fun v h₃ tk₃ hPv st₃ k₃ => ?_
    have hy : xs[i]? = some xs[i] := by simp [hlt]
    have kI : KX [I] s' { s' with heap := h₃, toks := tk₃ } := ⟨h₃, tk₃, rfl, fun b o hb e => k₃ b o hb e⟩
    have kxs₃ : KX X s { s' with heap := h₃, toks := tk₃ } := kxs.forget kI fun d hd => .inr (by rw [List.mem_singleton.mp hd]; exact hIs)
    have inv₃ : Inv i { s' with heap := h₃, toks := tk₃ } := stab i I s' _ hIs (hIo' _ _ st') kxs inv' kI
    have kx₃ : KX X { s with heap := h₁, toks := t₁ } { s' with heap := h₃, toks := tk₃ } := kx'.forget kI fun d hd => .inr (by rw [List.mem_singleton.mp hd]; exact hI)
    have t₃ : TExt h₁ h₃ := kx₃.text (Ext.refl _) hX₁
    refine wpAny_mono (turn i v xs[i] _ E' hy (hR _ _ _ _ t₃ (hP i v _ hPv hy)) inv₃ kxs₃) (fun _ s₄ h₄ => wpC_mono h₄ (fun fl s₅ h₅ => ?_) fun _ _ e => e) fun _ _ e => e
    obtain ⟨rfl, inv₅, kx₅⟩ := h₅
    exact ⟨xs.length + 1 - (i + 1), by omega, i + 1, hlt, rfl, Wk.frame _ _ _ st₃ fun b hb o e => kx₅.get (hfX b hb) e, kx₃.trans kx₅, inv₅⟩
  · have hin : i = xs.length := by omega
    subst hin
    refine Wk.done _ _ _ st' fun h₃ tk₃ k₃ => ?_
    have kI : KX [I] s' { s' with heap := h₃, toks := tk₃ } := ⟨h₃, tk₃, rfl, fun b o hb e => k₃ b o hb e⟩
    exact done _ (stab _ I s' _ hIs (hIo' _ _ st') kxs inv' kI) (kxs.forget kI fun d hd => .inr (by rw [List.mem_singleton.mp hd]; exact hIs))
end

/-- what law asks of one row -/
structure RowOk (order : List (List Int)) (row : List Int) : Prop where
  len : row.length ≤ 60
  byte : ∀ x ∈ row, 0 ≤ x ∧ x < 256
  h0 : 0 ≤ row.getD 0 0
  h1 : row.getD 0 0 ≤ 100
  tlen : (columnsL row).length ≤ 100
  t0 : 0 ≤ (columnsL row).getD 0 0
  t1 : (columnsL row).getD 0 0 ≤ 100
  at_ : order[bisL order (columnsL row)]? = some (columnsL row)
  back : columnsL (columnsL row) = row
  sq : (squareL row).length = (squareL (columnsL row)).length
  down : row.reverse.Pairwise (· ≤ ·)

section
variable {prog : Program} {w : World} {mg mb : Str → Option Value} {g : Heap} {env : Env} {cm cs a1 a3 a4 a6 a7 a8 a9 : Addr} {A : Around} {s : Shared} {E : Value → Shared → Prop} {l : List (Str × Value)} {p : Pos} {h : Heap}

theorem Run.columnsOf {g' : Heap} {fpos pos : Pos} {e : Expr} {row : List Int} (C : LawC mg mb g env cm cs a1 a3 a4 a6 a7 a8 a9) (x : Ext g g') (h : Run prog w 24 g' (eval e env) (fun h v => TupI h v row)) (hl : row.length ≤ 100) (h0 : 0 ≤ row.getD 0 0) (h1 : row.getD 0 0 ≤ 100) (he : starEach [e] env = [(false, eval e env)] := by rfl) :
    Run prog w 24 g' (eval (.Call (.Name (Str.ofString "_law_columns") fpos) [e] [] pos) env) (fun h v => TupI h v (columnsL row)) :=
  Run.call1 (n := 24) (Run.glob C.K (C.get x) C.f7.1 (C.glo "_law_columns" (by decide))) (.inr (.inr (by
      obtain ⟨hm, o, pm, cd, doc, ho, hd, hc⟩ := C.f7.ext x
      exact ⟨_, o, _, rfl, ho, hd⟩))) h (fun _ _ _ x p => TupI.mono _ _ _ _ x p) (fun g'' v y p => columns_spec (n := 19) (C.get (x.trans y)) (C.f7.ext (x.trans y)) p hl h0 h1) he
theorem Run.squareOf {g' : Heap} {fpos pos : Pos} {e : Expr} {row : List Int} (C : LawC mg mb g env cm cs a1 a3 a4 a6 a7 a8 a9) (x : Ext g g') (h : Run prog w 24 g' (eval e env) (fun h v => TupI h v row)) (hl : row.length ≤ 100) (he : starEach [e] env = [(false, eval e env)] := by rfl) :
    Run prog w 24 g' (eval (.Call (.Name (Str.ofString "_law_square") fpos) [e] [] pos) env) (fun h v => IntR h v (squareL row).length) :=
  Run.call1 (n := 24) (Run.glob C.K (C.get x) C.f9.1 (C.glo "_law_square" (by decide))) (.inr (.inr (by
      obtain ⟨hm, o, pm, cd, doc, ho, hd, hc⟩ := C.f9.ext x
      exact ⟨_, o, _, rfl, ho, hd⟩))) h (fun _ _ _ x p => TupI.mono _ _ _ _ x p) (fun g'' v y p => square_spec (n := 19) (C.get (x.trans y)) (C.f9.ext (x.trans y)) p hl) he

/-- the body of the second loop, its name row laid -/
def loop4 : List Stmt := match (fnD 10).body.getD 4 (.Pass default) with
  | .For _ _ body _ _ => body
  | _ => []

/-- there = ..; place = ..; if ..: return False -/
theorem law4a (C : LawC mg mb g env cm cs a1 a3 a4 a6 a7 a8 a9) (ok : AOk 24 A) {v vO : Value} {order : List (List Int)} {row : List Int} (hl : ∀ y ∈ l.map (·.1), y ≠ Str.ofString "there" ∧ y ≠ Str.ofString "place") (S : LS g env cm cs l s.heap) (mv : (Str.ofString "row", v) ∈ l) (mO : (Str.ofString "order", vO) ∈ l)
    (hv : TupI s.heap v row) (hO : LstT s.heap vO order) (hz : order.length ≤ 900) (r : RowOk order row) :
    wpAny (model prog w) A (exec (loop4.getD 0 (.Pass default)) env) (fun fl s₁ => fl = .next ∧ wpAny (model prog w) A (exec (loop4.getD 1 (.Pass default)) env) (fun fl s₂ => fl = .next ∧ wpAny (model prog w) A (exec (loop4.getD 2 (.Pass default)) env) (fun fl s' => fl = .next ∧ LS g env cm cs l s'.heap ∧ KX [env.locals, cm, cs] s s') E s₂) E s₁) E s := by
  refine wp_assignV (n := 24) (P := fun h v => TupI h v (columnsL row)) C.K (C.loc "there" (by decide)) S.vars (fun y hy => (hl y hy).1) ok (Run.columnsOf C S.ext (Run.nameR C.K (S.vars.sees (C.loc "row" (by decide)) mv) hv TupI.mono) (by have := r.len; omega) r.h0 r.h1) (fun vt h₁ h₂ tk₂ pt e₁ k₁ V₂ k₂ => ⟨rfl, ?_⟩) (by with_unfolding_all rfl)
  have S₁ := S.grow e₁
  have S₂ : LS g env cm cs (("there", vt) :: l) h₂ := C.set S V₂ k₂
  have X₂ : ∀ c ∈ [env.locals], ∃ o, s.heap.get? c = some o ∧ NoSeq o := fun c hc => S.X c (by rw [List.mem_singleton.mp hc]; simp)
  have X₁ : ∀ c ∈ [env.locals], ∃ o, h₁.get? c = some o ∧ NoSeq o := fun c hc => S₁.X c (by rw [List.mem_singleton.mp hc]; simp)
  have hv₂ : TupI h₂ v row := TupI.t _ _ _ _ (text_keep X₂ fun b o hb e => k₂ b o (by simpa using hb) e) hv
  have hO₂ : LstT h₂ vO order := lst_keep X₂ (fun b o hb e => k₂ b o (by simpa using hb) e) TupI.t hO
  have ht₂ : TupI h₂ vt (columnsL row) := TupI.t _ _ _ _ (text_keep X₁ fun b o hb e => k₁ b o (by simpa using hb) e) pt
  refine wp_assignV (n := 24) (s := { s with heap := h₂, toks := tk₂ }) (P := fun h v => IntR h v (bisL order (columnsL row))) C.K (C.loc "place" (by decide)) S₂.vars (fun y hy => ?_) ok ?_ (fun vp h₃ h₄ tk₄ pp e₃ k₃ V₄ k₄ => ⟨rfl, ?_⟩) (by with_unfolding_all rfl)
  · rcases List.mem_cons.mp hy with rfl | hy
    · exact (show (Str.ofString "there" : Str) ≠ Str.ofString "place" by decide)
    · exact (hl y hy).2
  · refine Run.call2 (n := 24) (P₁ := fun h v => LstT h v order) (P₂ := fun h v => TupI h v (columnsL row)) (Run.glob C.K (C.get S₂.ext) C.f4.1 (C.glo "bisect_left" (by decide))) (.inr (.inr (by
      obtain ⟨_, of, dV, kV, doc, pm, an, cdv, ct, t, hof, hdf, _⟩ := C.f4.ext S₂.ext
      exact ⟨_, of, _, rfl, hof, hdf⟩))) (Run.nameR C.K (S₂.vars.sees (C.loc "order" (by decide)) (List.mem_cons_of_mem _ mO)) hO₂ LstT.mono) (fun _ _ _ x p => LstT.mono _ _ _ _ x p) (Run.nameR C.K (S₂.vars.sees (C.loc "there" (by decide)) List.mem_cons_self) ht₂ TupI.mono) (fun _ _ _ x p => TupI.mono _ _ _ _ x p) (fun g' u u' x p q => ?_) (by rfl) (by rfl)
    exact bisect_spec (n := 19) (C.get (S₂.ext.trans x)) (C.f4.ext (S₂.ext.trans x)) p q (by omega)
  have S₄ : LS g env cm cs (("place", vp) :: ("there", vt) :: l) h₄ := C.set S₂ V₄ k₄
  have X₄ : ∀ c ∈ [env.locals], ∃ o, h₂.get? c = some o ∧ NoSeq o := fun c hc => S₂.X c (by rw [List.mem_singleton.mp hc]; simp)
  have t₄ : TExt h₂ h₄ := text_keep X₄ fun b o hb e => k₄ b o (by simpa using hb) e
  have hv₄ := TupI.t _ _ _ _ t₄ hv₂
  have ht₄ := TupI.t _ _ _ _ t₄ ht₂
  have hO₄ : LstT h₄ vO order := lst_keep X₄ (fun b o hb e => k₄ b o (by simpa using hb) e) TupI.t hO₂
  have hlt : bisL order (columnsL row) < order.length := by
    rcases Nat.lt_or_ge (bisL order (columnsL row)) order.length with q | q
    · exact q
    · have := r.at_
      rw [List.getElem?_eq_none q] at this
      cases this
  have nO : ∀ {q : Pos}, Run prog w 24 h₄ (eval (.Name (Str.ofString "order") q) env) (fun h v => LstT h v order) := fun {q} => Run.nameR C.K (S₄.vars.sees (C.loc "order" (by decide)) (by simp [mO])) hO₄ LstT.mono
  have nT : ∀ {q : Pos}, Run prog w 24 h₄ (eval (.Name (Str.ofString "there") q) env) (fun h v => TupI h v (columnsL row)) := fun {q} => Run.nameR C.K (S₄.vars.sees (C.loc "there" (by decide)) (by simp)) ht₄ TupI.mono
  have nV : ∀ {q : Pos}, Run prog w 24 h₄ (eval (.Name (Str.ofString "row") q) env) (fun h v => TupI h v row) := fun {q} => Run.nameR C.K (S₄.vars.sees (C.loc "row" (by decide)) (by simp [mv])) hv₄ TupI.mono
  have nP : ∀ {q : Pos}, Run prog w 24 h₄ (eval (.Name (Str.ofString "place") q) env) (fun h v => IntR h v (bisL order (columnsL row))) := fun {q} => Run.nameR C.K (S₄.vars.sees (C.loc "place" (by decide)) (by simp)) pp IntR.mono
  have hlen := r.len
  refine wpAny_If ((Run.or4 (n := 24) (g := h₄) ?_ ?_ ?_ ?_).use ok (Ext.refl _) fun c s' hc k => ?_)
  · refine (Run.testI (n := 24) (a := (bisL order (columnsL row) : Nat)) (b := order.length) (c := (((bisL order (columnsL row) : Nat) : Int) == (order.length : Int))) nP (Run.lenOfL C.K (C.get S₄.ext) (C.glo "len" (by decide)) TupI.mono nO (by omega) (by rfl)) (by rfl) (by with_unfolding_all rfl)).mono fun h v _ q => ?_
    rw [q, beq_eq_false_iff_ne]
    omega
  · refine (Run.testNeT (n := 20) (a := columnsL row) (b := columnsL row) (Run.itemL (k := (bisL order (columnsL row) : Nat)) TupI.mono nO nP (by omega) (by simpa using r.at_) (by omega) (by rfl)) nT (by with_unfolding_all rfl)).mono fun h v _ q => by rw [q]; simp
  · refine (Run.testNeT (n := 20) (a := row) (b := row) ((Run.columnsOf C S₄.ext nT r.tlen r.t0 r.t1).mono fun h v _ q => by rw [r.back] at q; exact q) nV (by with_unfolding_all rfl)).mono fun h v _ q => by rw [q]; simp
  · refine (Run.testI (n := 24) (a := (squareL row).length) (b := (squareL (columnsL row)).length) (c := (((squareL row).length : Int) != ((squareL (columnsL row)).length : Int))) (Run.squareOf C S₄.ext nV (by omega)) (Run.squareOf C S₄.ext nT r.tlen) (by rfl) (by with_unfolding_all rfl)).mono fun h v _ q => by rw [q, r.sq]; simp
  · subst hc
    simp only [Bool.false_eq_true, if_false]
    refine wpAny_execs_nil ⟨rfl, (S₄.grow (keeps_ext k)).sub (fun q hq => by simp [hq]), ?_⟩
    exact ((kx_but (by simp) k₂ : KX [env.locals, cm, cs] s { s with heap := h₂, toks := tk₂ }).trans (kx_but (by simp) k₄)).trans (KX.of k)
end
end Mine

namespace Mine


section
variable {prog : Program} {w : World} {mg mb : Str → Option Value} {g : Heap} {env : Env} {cm cs a1 a3 a4 a6 a7 a8 a9 : Addr} {A : Around} {s : Shared} {E : Value → Shared → Prop} {l : List (Str × Value)} {p : Pos} {h : Heap}

theorem Run.bytesT {n : Nat} {g : Heap} {fpos pos : Pos} {e : Expr} {row : List Int} (K : EnvOk env) (G : Gd mg mb g) (hk : env.kindOf (Str.ofString "bytes") = some .globalImplicit) (h : Run prog w n g (eval e env) (fun h v => TupI h v row)) (hr : ∀ x ∈ row, 0 ≤ x ∧ x < 256) (hz : row.length ≤ 1000) (he : starEach [e] env = [(false, eval e env)] := by rfl) :
    Run prog w n g (eval (.Call (.Name (Str.ofString "bytes") fpos) [e] [] pos) env) (fun h v => BytR h v (byteArr row)) :=
  Run.call1 (Run.built' K G (by decide) PyProof.Rows.boot_bytes hk (by decide) (by decide)) (.inr (.inl ⟨_, rfl⟩)) h (fun _ _ _ x p => TupI.mono _ _ _ _ x p) (fun g' v x q A s E ok e => by
    obtain ⟨a, vs, m, rfl, ho, p⟩ := TupI.mono _ _ _ _ e q
    exact bt_call ok.hh ho p hr hz fun h' t k e' => ⟨⟨t, rfl⟩, keeps_mk e'⟩) he
theorem Run.bytesL {n : Nat} {g : Heap} {fpos pos : Pos} {e : Expr} {row : List Int} (K : EnvOk env) (G : Gd mg mb g) (hk : env.kindOf (Str.ofString "bytes") = some .globalImplicit) (h : Run prog w n g (eval e env) (fun h v => LstI h v row)) (hr : ∀ x ∈ row, 0 ≤ x ∧ x < 256) (hz : row.length ≤ 1000) (he : starEach [e] env = [(false, eval e env)] := by rfl) :
    Run prog w n g (eval (.Call (.Name (Str.ofString "bytes") fpos) [e] [] pos) env) (fun h v => BytR h v (byteArr row)) :=
  Run.call1 (Run.built' K G (by decide) PyProof.Rows.boot_bytes hk (by decide) (by decide)) (.inr (.inl ⟨_, rfl⟩)) h (fun _ _ _ x p => LstI.mono _ _ _ _ x p) (fun g' v x q A s E ok e => by
    obtain ⟨a, vs, m, rfl, ho, p⟩ := LstI.mono _ _ _ _ e q
    have el := paired_len p
    exact call_bytes_ints ⟨_, ho, rfl, m, rfl⟩ (ints_of p) hr (by rw [sizeLine_eq]; omega) ok.hh fun h' t k e' => ⟨⟨t, rfl⟩, keeps_mk e'⟩) he

/-- if row != () and _byteswap(bytes(row), len(row)) != bytes(sorted(row)): return False -/
theorem law4b (C : LawC mg mb g env cm cs a1 a3 a4 a6 a7 a8 a9) (ok : AOk 24 A) {v : Value} {order : List (List Int)} {row : List Int} (S : LS g env cm cs l s.heap) (mv : (Str.ofString "row", v) ∈ l) (hv : TupI s.heap v row) (r : RowOk order row) :
    wpC (model prog w) A (exec (loop4.getD 3 (.Pass default)) env) (fun fl s' => fl = .next ∧ Keeps s s') E s := by
  have nV : ∀ {h : Heap} {q : Pos}, Ext s.heap h → Run prog w 24 h (eval (.Name (Str.ofString "row") q) env) (fun h v => TupI h v row) := fun {h q} e => Run.nameR C.K ((S.vars.ext e).sees (C.loc "row" (by decide)) mv) (TupI.mono _ _ _ _ e hv) TupI.mono
  have hlen := r.len
  refine wpC_If (wpC_isTrue_and (wpC_of ((Run.testNeT (n := 20) (g := s.heap) (a := row) (b := []) (nV (Ext.refl _)) Run.tup0 (by with_unfolding_all rfl)).use ok (Ext.refl _) fun c s₁ hc k₁ => ?_)))
  subst hc
  by_cases hne : row = []
  · simp only [hne, decide_true, Bool.not_true, Bool.false_eq_true, if_false]
    exact wpC_of (wpAny_execs_nil ⟨rfl, k₁⟩)
  · simp only [hne, decide_false, Bool.not_false, if_true]
    have hpos : 0 < row.length := List.length_pos_iff.mpr hne
    obtain ⟨h₁, t₁, rfl, e₁⟩ := k₁
    have S₁ := S.grow e₁
    refine wpC_isTrue_and (wpC_isTrue_Compare1 (wpC_Call ?_) (by with_unfolding_all rfl))
    refine (Run.glob (n := 24) (g := h₁) C.K (C.get S₁.ext) C.f1.1 (C.glo "_byteswap" (by decide))).use ok (Ext.refl _) fun f s₂ hf k₂ => ?_
    subst hf
    obtain ⟨h₂, t₂, rfl, e₂⟩ := k₂
    have S₂ := S₁.grow e₂
    obtain ⟨_, o, pm, cd, doc, ho, hd, hc⟩ := C.f1.ext S₂.ext
    refine wpC_callWith_def hd ?_ (by rfl) (by rfl)
    refine (Run.cons (n := 24) (g := h₂) (Run.bytesT C.K (C.get S₂.ext) (C.glo "bytes" (by decide)) (nV (Ext.trans e₁ e₂)) r.byte (by omega) (by rfl)) (fun _ _ _ _ p => p) (Run.cons (Run.lenOfT C.K (C.get S₂.ext) (C.glo "len" (by decide)) IntR.mono (nV (Ext.trans e₁ e₂)) (by omega) (by rfl)) (fun _ _ _ _ p => p) Run.nil)).use ok (Ext.refl _) fun us s₃ p k₃ => ?_
    obtain ⟨v1, r1, rfl, ⟨tb, rfl⟩, v2, r2, rfl, ⟨tl, rfl⟩, p3⟩ := p
    have q3 : r2 = [] := p3
    subst q3
    obtain ⟨h₃, t₃, rfl, e₃⟩ := k₃
    refine ⟨e₃ _ _ ho, swap_call (n := 18) C.G C.f1 ok (S₂.ext.trans e₃) r.byte hpos (by omega) fun t' s₄ k₄ => ?_⟩
    obtain ⟨h₄, t₄, rfl, e₄⟩ := k₄
    have e₀₄ : Ext s.heap h₄ := Ext.trans e₁ (Ext.trans e₂ (Ext.trans e₃ e₄))
    have S₄ := S.grow e₀₄
    have hbr : ∀ x ∈ row.reverse, 0 ≤ x ∧ x < 256 := fun x hx => r.byte x (List.mem_reverse.mp hx)
    refine (Run.bytesL (n := 24) (g := h₄) C.K (C.get S₄.ext) (C.glo "bytes" (by decide)) (Run.call1 (n := 24) (P := fun h v => TupI h v row) (Q := fun h v => LstI h v row.reverse) (Run.built' C.K (C.get S₄.ext) (by decide) boot_sorted (C.glo "sorted" (by decide)) (by decide) (by decide)) (.inl ⟨_, rfl⟩) (nV e₀₄) (fun _ _ _ x p => TupI.mono _ _ _ _ x p) (fun g' v x p => Run.sortedI p (by omega) r.down) (by rfl)) hbr (by simp; omega) (by rfl)).use ok (Ext.refl _) fun vb s₅ hb k₅ => ?_
    obtain ⟨t5, rfl⟩ := hb
    refine ne_bytes ?_
    have ef : ((byteArr row.reverse).toList != (byteArr row.reverse).toList) = false := by simp
    rw [ef]
    refine wpAny_truthy_bool ?_
    simp only [Bool.false_eq_true, if_false]
    exact wpC_of (wpAny_execs_nil ⟨rfl, keeps_trans (keeps_mk e₀₄) k₅⟩)

/-- for row in rows: .. -/
theorem law4 (C : LawC mg mb g env cm cs a1 a3 a4 a6 a7 a8 a9) (ok : AOk 24 A) {vR vO vS vW : Value} {rows order : List (List Int)} (S : LS g env cm cs [("rows", vR), ("order", vO), ("script", vS), ("whole", vW)] s.heap) (hR : LstT s.heap vR rows) (hO : LstT s.heap vO order)
    (hz : rows.length ≤ 900) (hz2 : order.length ≤ 900) (r : ∀ row ∈ rows, RowOk order row) :
    wpC (model prog w) A (exec ((fnD 10).body.getD 4 (.Pass default)) env) (fun fl s' => fl = .next ∧ LS g env cm cs [("rows", vR), ("order", vO), ("script", vS), ("whole", vW)] s'.heap ∧ KX [env.locals, cm, cs] s s') E s := by
  have hX : ∀ {c : Addr}, c ∈ [env.locals, cm, cs] → ∃ o, s.heap.get? c = some o ∧ ∀ vs n, o ≠ tupO vs n := fun hc => let ⟨o, h1, h2⟩ := S.X _ hc; ⟨o, h1, h2.no_tup⟩
  have nd : ∀ {I : Addr}, s.heap.get? I = none → I ∉ [env.locals, cm, cs] := fun hI hc => by
    obtain ⟨o, h1, _⟩ := S.X _ hc
    rw [hI] at h1
    cases h1
  refine wp_forC (n := 24) (α := List Int) (R := TupI) (xs := rows) [env.locals, cm, cs] (fun i s' => LS g env cm cs [("rows", vR), ("order", vO), ("script", vS), ("whole", vW)] s'.heap) ok TupI.t ?_ (fun c hc => hX hc) (fun s₁ k₁ => S.grow (keeps_ext k₁)) ?_ ?_ (fun s' S' kx => ⟨rfl, S', kx⟩) (by intro _ _; rfl) (by intro _; rfl)
  · refine (Run.name (n := 24) (P := fun h v => v = vR ∧ LstT h v rows) C.K (S.vars.sees (C.loc "rows" (by decide)) (by simp)) fun g' x => ⟨rfl, LstT.mono _ _ _ _ x hR⟩).mono fun h v x q => ⟨Iters.list q.2, fun b hb z => ?_⟩
    obtain ⟨e, a, vs, m, e2, ho, _⟩ := q
    rw [z] at e2
    injection e2 with e2
    subst e2
    obtain ⟨o, h1, h2⟩ := (S.grow x).X b hb
    rw [ho] at h1
    exact h2 vs.toArray m (by rw [← Option.some.inj h1])
  · intro i I s₁ s₂ hI _ kx S₁ kI
    have hn := nd hI
    have kk : ∀ c ∈ [env.locals, cm, cs], ∀ o, s₁.heap.get? c = some o → s₂.heap.get? c = some o := fun c hc o q => kI.get (fun z => hn (by rw [← List.mem_singleton.mp z]; exact hc)) q
    obtain ⟨vm, hm⟩ := S₁.cm
    obtain ⟨vs, hs⟩ := S₁.cs
    refine ⟨fun b o q => kI.get (fun z => ?_) (S₁.ext b o q), S₁.vars.keep (kk _ (by simp)), ⟨vm, cell_at hm (kk _ (by simp))⟩, ⟨vs, cell_at hs (kk _ (by simp))⟩⟩
    rw [List.mem_singleton.mp z] at q
    rw [S.ext _ _ q] at hI
    cases hI
  · intro i v y s₁ E' hy hv S₁ kx
    have hmem : y ∈ rows := List.mem_of_getElem? hy
    refine wpAny_assign_Name (wp_store C.K (C.loc "row" (by decide)) S₁.vars (show ∀ y ∈ (["rows", "order", "script", "whole"] : List Str), y ≠ "row" by decide) fun h₂ tk₂ V₂ k₂ => ?_)
    have S₂ : LS g env cm cs (("row", v) :: [("rows", vR), ("order", vO), ("script", vS), ("whole", vW)]) h₂ := C.set S₁ V₂ k₂
    have t₂ : TExt s₁.heap h₂ := text_keep (X := [env.locals]) (fun c hc => S₁.X c (by rw [List.mem_singleton.mp hc]; simp)) fun b o hb e => k₂ b o (by simpa using hb) e
    have kx₂ : KX [env.locals, cm, cs] s₁ { s₁ with heap := h₂, toks := tk₂ } := kx_but (by simp) k₂
    have hO₂ : LstT h₂ vO order := by
      obtain ⟨h', tk, e, kk⟩ := kx.trans kx₂
      have e' : h₂ = h' := congrArg Shared.heap e
      rw [e']
      exact lst_keep (X := [env.locals, cm, cs]) (fun c hc => S.X c hc) kk TupI.t hO
    have hv₂ := TupI.t _ _ _ _ t₂ hv
    refine wpC_execs_any (wpAny_mono (law4a (l := ("row", v) :: [("rows", vR), ("order", vO), ("script", vS), ("whole", vW)]) C ok (s := { s₁ with heap := h₂, toks := tk₂ }) (show ∀ y ∈ (["row", "rows", "order", "script", "whole"] : List Str), y ≠ Str.ofString "there" ∧ y ≠ Str.ofString "place" by decide) S₂ (by simp) (by simp) hv₂ hO₂ hz2 (r y hmem)) (fun fl s₃ q => ?_) fun _ _ e => e)
    obtain ⟨rfl, q⟩ := q
    refine wpC_execs_any (wpAny_mono q (fun fl s₄ q => ?_) fun _ _ e => e)
    obtain ⟨rfl, q⟩ := q
    refine wpC_execs_any (wpAny_mono q (fun fl s₅ q => ?_) fun _ _ e => e)
    obtain ⟨rfl, S₅, kx₅⟩ := q
    have hv₅ : TupI s₅.heap v y := by
      obtain ⟨h', tk, e, kk⟩ := kx₅
      rw [e]
      exact TupI.t _ _ _ _ (text_keep (X := [env.locals, cm, cs]) (fun c hc => S₂.X c hc) kk) hv₂
    refine wpC_execs_cons (wpC_mono (law4b C ok S₅ (by simp) hv₅ (r y hmem)) (fun fl s₆ q => ?_) fun _ _ e => e)
    obtain ⟨rfl, k₆⟩ := q
    exact wpC_of (wpAny_execs_nil ⟨rfl, (S₅.grow (keeps_ext k₆)).sub (fun q hq => by simp [hq]), kx₂.trans (kx₅.trans (KX.of k₆))⟩)
end
end Mine

namespace Mine


section
variable {prog : Program} {w : World} {n : Nat} {mg mb : Str → Option Value} {g : Heap} {env : Env} {cm cs a1 a3 a4 a6 a7 a8 a9 a : Addr} {A : Around} {s : Shared} {E : Value → Shared → Prop} {l : List (Str × Value)} {p : Pos} {h : Heap} {pos fpos : Pos} {e : Expr} {row : List Int}

theorem Run.columnsIn (K : EnvOk env) (G : Gd mg mb g) (F : FnIs mg g (fnD 7) a) (hk : env.kindOf (Str.ofString "_law_columns") = some .globalImplicit) (h : Run prog w 24 g (eval e env) (fun h v => TupI h v row)) (hl : row.length ≤ 100) (h0 : 0 ≤ row.getD 0 0) (h1 : row.getD 0 0 ≤ 100) (he : starEach [e] env = [(false, eval e env)] := by rfl) :
    Run prog w 24 g (eval (.Call (.Name (Str.ofString "_law_columns") fpos) [e] [] pos) env) (fun h v => TupI h v (columnsL row)) :=
  Run.call1 (n := 24) (Run.glob K G F.1 hk) (.inr (.inr (by
      obtain ⟨hm, o, pm, cd, doc, ho, hd, hc⟩ := F
      exact ⟨_, o, _, rfl, ho, hd⟩))) h (fun _ _ _ x p => TupI.mono _ _ _ _ x p) (fun g'' v y p => columns_spec (n := 19) (G.ext y) (F.ext y) p hl h0 h1) he
theorem Run.anglesIn (K : EnvOk env) (G : Gd mg mb g) (F : FnIs mg g (fnD 8) a) (hk : env.kindOf (Str.ofString "_law_angles") = some .globalImplicit) (h : Run prog w 24 g (eval e env) (fun h v => TupI h v row)) (hl : row.length ≤ 100) (he : starEach [e] env = [(false, eval e env)] := by rfl) :
    Run prog w 24 g (eval (.Call (.Name (Str.ofString "_law_angles") fpos) [e] [] pos) env) (fun h v => TupI h v (anglesL row)) :=
  Run.call1 (n := 24) (Run.glob K G F.1 hk) (.inr (.inr (by
      obtain ⟨hm, o, pm, cd, doc, ho, hd, hc⟩ := F
      exact ⟨_, o, _, rfl, ho, hd⟩))) h (fun _ _ _ x p => TupI.mono _ _ _ _ x p) (fun g'' v y p => angles_spec (n := 19) (G.ext y) (F.ext y) p hl) he

/-- for many in range(1, whole + 1): .. -/
theorem law5 (C : LawC mg mb g env cm cs a1 a3 a4 a6 a7 a8 a9) (ok : AOk 24 A) {vR : Value} {wh : Int} {tw : Tok} {rows : List (List Int)} (S : LS g env cm cs l s.heap) (mR : (Str.ofString "rows", vR) ∈ l) (mW : (Str.ofString "whole", .int wh tw) ∈ l) (hR : LstT s.heap vR rows)
    (h0 : 0 ≤ wh) (h1 : wh ≤ 10) (hz : rows.length ≤ 900) (hl : ∀ row ∈ rows, row.length ≤ 60) (hne : 0 < wh → ∀ row ∈ rows, row ≠ [])
    (hc : ∀ k : Int, 1 ≤ k → k ≤ wh → (rows.filter fun row => row.getD 0 0 == k).length = (rows.filter fun row => (row.length : Int) == k).length) :
    wpAny (model prog w) A (exec ((fnD 10).body.getD 5 (.Pass default)) env) (fun fl s' => fl = .next ∧ LS g env cm cs l s'.heap ∧ KX [env.locals, cm, cs] s s') E s := by
  have hX : ∀ {c : Addr}, c ∈ [env.locals, cm, cs] → ∃ o, s.heap.get? c = some o ∧ ∀ vs n, o ≠ tupO vs n := fun hc => let ⟨o, h1, h2⟩ := S.X _ hc; ⟨o, h1, h2.no_tup⟩
  have nd : ∀ {I : Addr}, s.heap.get? I = none → I ∉ [env.locals, cm, cs] := fun hI hc => by
    obtain ⟨o, h1, _⟩ := S.X _ hc
    rw [hI] at h1
    cases h1
  refine wp_for (n := 24) (α := Int) (R := IntR) (xs := rangeL 1 1 (wh + 1 - 1).toNat) [env.locals, cm, cs] (fun i s' => LS g env cm cs l s'.heap) ok IntR.t ?_ (fun c hc => hX hc) (fun s₁ k₁ => S.grow (keeps_ext k₁)) ?_ ?_ (fun s' S' kx => ⟨rfl, S', kx⟩) (by intro _ _; rfl) (by intro _; rfl)
  · refine Run.call2 (n := 24) (P₁ := fun h v => IntR h v 1) (P₂ := fun h v => IntR h v (wh + 1)) (Run.built' C.K (C.get S.ext) (by decide) PyProof.Rows.boot_range (C.glo "range" (by decide)) (by decide) (by decide)) (.inr (.inl ⟨_, rfl⟩)) Run.int (fun _ _ _ x p => p) (Run.add (Run.nameR C.K (S.vars.sees (C.loc "whole" (by decide)) mW) ⟨tw, rfl⟩ IntR.mono) Run.int) (fun _ _ _ x p => p) (fun g' u v x p q A s₁ E ok e => ?_) (by rfl) (by rfl)
    obtain ⟨t, rfl⟩ := p
    obtain ⟨t', rfl⟩ := q
    refine call_range_2 ⟨⟨Iters.range ⟨_, wh + 1, _, _, _, rfl, IsRange.new s₁.heap 1 (wh + 1) 1 _ _ _, small_one (by omega) (by omega) (by omega) (by omega), ?_⟩, fun b hb z => ?_⟩, keeps_mk (Ext.push _ _)⟩
    · rw [rangeSize_one]
      split <;> omega
    · obtain ⟨o, h1, _⟩ := S.X b hb
      injection z with z
      have := Heap.lt_size (e _ _ (x _ _ h1))
      rw [← z] at this
      exact Nat.lt_irrefl _ this
  · intro i I s₁ s₂ hI _ kx S₁ kI
    have hn := nd hI
    have kk : ∀ c ∈ [env.locals, cm, cs], ∀ o, s₁.heap.get? c = some o → s₂.heap.get? c = some o := fun c hc o q => kI.get (fun z => hn (by rw [← List.mem_singleton.mp z]; exact hc)) q
    obtain ⟨vm, hm⟩ := S₁.cm
    obtain ⟨vs, hs⟩ := S₁.cs
    refine ⟨fun b o q => kI.get (fun z => ?_) (S₁.ext b o q), S₁.vars.keep (kk _ (by simp)), ⟨vm, cell_at hm (kk _ (by simp))⟩, ⟨vs, cell_at hs (kk _ (by simp))⟩⟩
    rw [List.mem_singleton.mp z] at q
    rw [S.ext _ _ q] at hI
    cases hI
  · rintro i v k s₁ E' hy ⟨tk, rfl⟩ S₁ kx
    have hi : i < wh.toNat ∧ k = 1 + (i : Int) := by
      have hlt : i < (rangeL 1 1 (wh + 1 - 1).toNat).length := by
        rcases Nat.lt_or_ge i (rangeL 1 1 (wh + 1 - 1).toNat).length with q | q
        · exact q
        · rw [List.getElem?_eq_none q] at hy; cases hy
      rw [rangeL_len] at hlt
      refine ⟨by omega, ?_⟩
      simp [rangeL, show i < wh.toNat by omega] at hy
      omega
    obtain ⟨hi, rfl⟩ := hi
    obtain ⟨vm, hvm⟩ := S₁.cm
    obtain ⟨vs, hvs⟩ := S₁.cs
    refine wpAny_assign_Name (wpAny_storeName_cell C.K.kind C.km C.lm hvm fun h₂ hm₂ hs₂ => ?_)
    have S₂ : LS g env cm cs l h₂ := by
      refine ⟨fun b o q => hs₂.extBut b o (fun z => ?_) (S₁.ext b o q), S₁.vars.keep fun o q => hs₂.extBut _ _ (Ne.symm C.Lm) q, ⟨_, hm₂⟩, ⟨vs, cell_at hvs fun o q => hs₂.extBut _ _ (Ne.symm C.ms) q⟩⟩
      rw [z, C.gm] at q
      cases q
    have kx₂ : KX [env.locals, cm, cs] s₁ { s₁ with heap := h₂ } := ⟨h₂, _, rfl, fun b o hb q => hs₂.extBut b o (fun z => hb (by rw [z]; simp)) q⟩
    have hR₂ : LstT h₂ vR rows := by
      obtain ⟨h', tk, e, kk⟩ := kx.trans kx₂
      have e' : h₂ = h' := congrArg Shared.heap e
      rw [e']
      exact lst_keep (X := [env.locals, cm, cs]) (fun c hc => S.X c hc) kk TupI.t hR
    have Sm : Sees h₂ env "many" (.int (1 + (i : Int)) tk) := .inr ⟨.inl C.km, cm, C.lm, hm₂⟩
    have nR : ∀ {q : Pos}, Run prog w 24 h₂ (eval (.Name (Str.ofString "rows") q) env) (fun h v => LstT h v rows) := fun {q} => Run.nameR C.K (S₂.vars.sees (C.loc "rows" (by decide)) mR) hR₂ LstT.mono
    have hcm : env.kindOf (Str.ofString "many") ≠ some .local := by rw [show env.kindOf (Str.ofString "many") = _ from C.km]; decide
    have le1 : ∀ f : List Int → Bool, (rows.filter f).length ≤ 1000 := fun f => Nat.le_trans (List.length_filter_le _ _) (by omega)
    refine wpAny_execs_cons (wpAny_If ((Run.testI (n := 24) (a := (rows.filter fun row => row.getD 0 0 == 1 + (i : Int)).length) (b := (rows.filter fun row => (row.length : Int) == 1 + (i : Int)).length) (c := (((rows.filter fun row => row.getD 0 0 == 1 + (i : Int)).length : Int) != ((rows.filter fun row => (row.length : Int) == 1 + (i : Int)).length : Int)))
      (Run.lenOfL (l := rows.filter fun row => row.getD 0 0 == 1 + (i : Int)) C.K (C.get S₂.ext) (C.glo "len" (by decide)) TupI.mono ?_ (le1 _) (by rfl)) (Run.lenOfL (l := rows.filter fun row => (row.length : Int) == 1 + (i : Int)) C.K (C.get S₂.ext) (C.glo "len" (by decide)) TupI.mono ?_ (le1 _) (by rfl)) (by rfl) (by with_unfolding_all rfl)).use ok (Ext.refl _) fun c s' hc' k => ?_))
    · refine Run.listComp (R := TupI) (R' := TupI) (xs := rows) (fun row => row.getD 0 0 == 1 + (i : Int)) (fun x => x) (by simp) (nR.mono fun h v x q => Iters.list q) (by rw [sizeLine_eq]; omega) TupI.mono TupI.t C.K ?_ ?_ ?_ (by rfl) (by decide) (by decide) (by decide) (by intro _; rfl)
      · intro p hp hf
        have : p.1 = Str.ofString "many" := by revert p; decide
        rw [this]
        exact Sm.cellOf hcm
      · intro cenv g' v y L x hy r sees
        have hyne : y ≠ [] := hne (by omega) y hy
        have hpos : 0 < y.length := List.length_pos_iff.mpr hyne
        have hyl := hl y hy
        exact Run.tests1 (Run.testI (a := y.getD 0 0) (b := 1 + (i : Int)) (Run.itemT (k := 0) IntR.mono (Run.nameR L.ok sees r TupI.mono) Run.int (by decide) (getD_get (k := 0) hpos) (by omega) (by rfl)) (Run.nameR L.ok (L.free _ _ _ (by rfl) (Sm.ext x)) ⟨tk, rfl⟩ IntR.mono) (by rfl) (by with_unfolding_all rfl))
      · intro cenv g' v y L x hy hp r sees
        exact Run.nameR L.ok sees r TupI.mono
    · refine Run.listComp (R := TupI) (R' := TupI) (xs := rows) (fun row => (row.length : Int) == 1 + (i : Int)) (fun x => x) (by simp) (nR.mono fun h v x q => Iters.list q) (by rw [sizeLine_eq]; omega) TupI.mono TupI.t C.K ?_ ?_ ?_ (by rfl) (by decide) (by decide) (by decide) (by intro _; rfl)
      · intro p hp hf
        have : p.1 = Str.ofString "many" := by revert p; decide
        rw [this]
        exact Sm.cellOf hcm
      · intro cenv g' v y L x hy r sees
        have hyl := hl y hy
        exact Run.tests1 (Run.testI (a := y.length) (b := 1 + (i : Int)) (Run.lenOfT L.ok ((C.get S₂.ext).ext x) (L.glob _ (by rfl)) IntR.mono (Run.nameR L.ok sees r TupI.mono) (by omega) (by rfl)) (Run.nameR L.ok (L.free _ _ _ (by rfl) (Sm.ext x)) ⟨tk, rfl⟩ IntR.mono) (by rfl) (by with_unfolding_all rfl))
      · intro cenv g' v y L x hy hp r sees
        exact Run.nameR L.ok sees r TupI.mono
    · subst hc'
      rw [hc (1 + (i : Int)) (by omega) (by omega)]
      simp only [bne_self_eq_false, Bool.false_eq_true, if_false]
      exact wpAny_execs_nil (wpAny_execs_nil ⟨S₂.grow (keeps_ext k), kx₂.trans (KX.of k)⟩)
end
end Mine

namespace Mine


def ownL (rows : List (List Int)) : List (List Int) := rows.filter fun row => decide (columnsL row = row)
def oddIn (row : List Int) : List Int := row.filter fun x => (x.fmod 2 == 0) || decide (1 < ((row.countP fun y => y == x : Nat) : Int))
def oddL (rows : List (List Int)) : List (List Int) := rows.filter fun row => decide (oddIn row = [])

section
variable {prog : Program} {w : World} {n : Nat} {mg mb : Str → Option Value} {g : Heap} {env : Env} {cm cs a1 a3 a4 a6 a7 a8 a9 a : Addr} {A : Around} {s : Shared} {E : Value → Shared → Prop} {l : List (Str × Value)} {p : Pos} {h : Heap} {pos fpos : Pos} {e : Expr} {row : List Int}

/-- own = [row for row in rows if _law_columns(row) == row] -/
theorem law6 (C : LawC mg mb g env cm cs a1 a3 a4 a6 a7 a8 a9) (ok : AOk 24 A) {vR : Value} {rows : List (List Int)} (hx : ∀ y ∈ l.map (·.1), y ≠ Str.ofString "own") (S : LS g env cm cs l s.heap) (mR : (Str.ofString "rows", vR) ∈ l) (hR : LstT s.heap vR rows)
    (hz : rows.length ≤ 900) (hl : ∀ row ∈ rows, row.length ≤ 60 ∧ 0 ≤ row.getD 0 0 ∧ row.getD 0 0 ≤ 100) :
    wpAny (model prog w) A (exec ((fnD 10).body.getD 6 (.Pass default)) env) (fun fl s' => fl = .next ∧ ∃ v, LS g env cm cs ((Str.ofString "own", v) :: l) s'.heap ∧ LstT s'.heap v (ownL rows) ∧ KX [env.locals, cm, cs] s s') E s := by
  refine wp_assignComp (n := 24) (R := TupI) (R' := TupI) (xs := rows) (res := ownL rows) (fun row => decide (columnsL row = row)) (fun x => x) (by simp [ownL]) C.K (C.loc "own" (by decide)) S.vars hx ok ?_ (by rw [sizeLine_eq]; omega) TupI.mono TupI.t ?_ ?_ ?_ (fun v h' tk hv V k => ⟨rfl, v, C.set S V k, hv, kx_but (by simp) k⟩) C.sw6 (by rfl) (by decide) (by decide) (by decide) (by intro _; rfl)
  · exact (Run.nameR (n := 24) C.K (S.vars.sees (C.loc "rows" (by decide)) mR) hR LstT.mono).mono fun h v x q => Iters.list q
  · intro p hp hf
    exfalso
    revert p
    decide
  · intro cenv g' v y L x hy r sees
    obtain ⟨q1, q2, q3⟩ := hl y hy
    exact Run.tests1 (Run.testEqT (n := 20) (Run.columnsIn L.ok ((C.get S.ext).ext x) (C.f7.ext (S.ext.trans x)) (L.glob _ (by rfl)) (Run.nameR L.ok sees r TupI.mono) (by omega) q2 q3 (by rfl)) (Run.nameR L.ok sees r TupI.mono) (by with_unfolding_all rfl))
  · intro cenv g' v y L x hy hp r sees
    exact Run.nameR L.ok sees r TupI.mono

/-- odd = [row for row in rows if [number for number in row if ..] == []] -/
theorem law7 (C : LawC mg mb g env cm cs a1 a3 a4 a6 a7 a8 a9) (ok : AOk 24 A) {vR : Value} {rows : List (List Int)} (hx : ∀ y ∈ l.map (·.1), y ≠ Str.ofString "odd") (S : LS g env cm cs l s.heap) (mR : (Str.ofString "rows", vR) ∈ l) (hR : LstT s.heap vR rows)
    (hz : rows.length ≤ 900) (hl : ∀ row ∈ rows, row.length ≤ 60) :
    wpAny (model prog w) A (exec ((fnD 10).body.getD 7 (.Pass default)) env) (fun fl s' => fl = .next ∧ ∃ v, LS g env cm cs ((Str.ofString "odd", v) :: l) s'.heap ∧ LstT s'.heap v (oddL rows) ∧ KX [env.locals, cm, cs] s s') E s := by
  refine wp_assignComp (n := 24) (R := TupI) (R' := TupI) (xs := rows) (res := oddL rows) (fun row => decide (oddIn row = [])) (fun x => x) (by simp [oddL]) C.K (C.loc "odd" (by decide)) S.vars hx ok ?_ (by rw [sizeLine_eq]; omega) TupI.mono TupI.t ?_ ?_ ?_ (fun v h' tk hv V k => ⟨rfl, v, C.set S V k, hv, kx_but (by simp) k⟩) C.sw7 (by rfl) (by decide) (by decide) (by decide) (by intro _; rfl)
  · exact (Run.nameR (n := 24) C.K (S.vars.sees (C.loc "rows" (by decide)) mR) hR LstT.mono).mono fun h v x q => Iters.list q
  · intro p hp hf
    exfalso
    revert p
    decide
  · intro cenv g' v y L x hy r sees
    have q1 := hl y hy
    have hkk : cenv.kindOf (Str.ofString "row") = some .cell := L.kinds _ _ (by rfl) (by decide)
    refine Run.tests1 (Run.test (n := 24) (P₁ := fun h v => LstI h v (oddIn y)) (P₂ := fun h v => LstI h v []) (b := decide (oddIn y = [])) ?_ Run.list0 (fun _ _ _ x p => LstI.mono _ _ _ _ x p) (fun g'' u u' _ p q => Run.eqLI (n := 20) p q) (by with_unfolding_all rfl))
    refine Run.listComp (R := IntR) (R' := IntR) (xs := y) (fun x => (x.fmod 2 == 0) || decide (1 < ((y.countP fun z => z == x : Nat) : Int))) (fun x => x) (by simp [oddIn]) ((Run.nameR L.ok sees r TupI.mono).mono fun h v x q => Iters.tup q) (by rw [sizeLine_eq]; omega) IntR.mono IntR.t L.ok ?_ ?_ ?_ (by rfl) (by decide) (by decide) (by decide) (by intro _; rfl)
    · intro p hp hf
      have : p.1 = Str.ofString "row" := by revert p; decide
      rw [this]
      exact sees.cellOf (by rw [hkk]; decide)
    · intro cenv' g3 xv z L' e3 hz' hzv hs'
      have nZ : ∀ {q : Pos}, Run prog w 24 g3 (eval (.Name (Str.ofString "number") q) cenv') (fun h v => IntR h v z) := fun {q} => Run.nameR L'.ok hs' hzv IntR.mono
      refine Run.tests1 (Run.or2 (x := z.fmod 2 == 0) (Run.testI (a := z.fmod 2) (b := 0) (Run.mod (by decide) (by decide) nZ Run.int) Run.int (by rfl) (by with_unfolding_all rfl)) fun _ => ?_)
      exact Run.testI (a := ((y.countP fun u => u == z : Nat) : Int)) (b := 1) (Run.count (pl := (do return (← importBound (.Name (Str.ofString "row") _) cenv').getD true)) (Run.nameR L'.ok (L'.free _ _ _ (by rfl) (sees.ext e3)) (TupI.mono _ _ _ _ e3 r) TupI.mono) nZ (by rfl) (by rfl)) Run.int (by rfl) (by with_unfolding_all rfl)
    · intro cenv' g3 xv z L' e3 hz' hp hzv hs'
      exact Run.nameR L'.ok hs' hzv IntR.mono
  · intro cenv g' v y L x hy hp r sees
    exact Run.nameR L.ok sees r TupI.mono

/-- if sorted([_law_angles(row) for row in own]) != sorted(odd): return False -/
theorem law8 (C : LawC mg mb g env cm cs a1 a3 a4 a6 a7 a8 a9) (ok : AOk 24 A) {vO vD : Value} {own odd : List (List Int)} (S : LS g env cm cs l s.heap) (mO : (Str.ofString "own", vO) ∈ l) (mD : (Str.ofString "odd", vD) ∈ l) (hO : LstT s.heap vO own) (hD : LstT s.heap vD odd)
    (hz : own.length ≤ 900) (hl : ∀ row ∈ own, row.length ≤ 60) (h1 : sortOk (own.map anglesL) = true) (h2 : sortOk odd = true) (h3 : sortT (own.map anglesL) = sortT odd) :
    wpAny (model prog w) A (exec ((fnD 10).body.getD 8 (.Pass default)) env) (fun fl s' => fl = .next ∧ Keeps s s') E s := by
  refine wpAny_If ((Run.test (n := 24) (g := s.heap) (P₁ := fun h v => LstT h v (sortT (own.map anglesL))) (P₂ := fun h v => LstT h v (sortT odd)) (b := !decide (sortT (own.map anglesL) = sortT odd)) (Run.sortedOf C.K (C.get S.ext) (C.glo "sorted" (by decide)) ?_ h1 (by rfl)) (Run.sortedOf C.K (C.get S.ext) (C.glo "sorted" (by decide)) (Run.nameR C.K (S.vars.sees (C.loc "odd" (by decide)) mD) hD LstT.mono) h2 (by rfl)) (fun _ _ _ x p => LstT.mono _ _ _ _ x p) (fun g' x y _ p q => Run.neLT (n := 20) p q) (by with_unfolding_all rfl)).use ok (Ext.refl _) fun c s' hc k => ?_)
  · refine Run.listComp (R := TupI) (R' := TupI) (xs := own) (res := own.map anglesL) (fun _ => true) anglesL (by rw [List.filter_eq_self.mpr (fun _ _ => rfl)]) ((Run.nameR (n := 24) C.K (S.vars.sees (C.loc "own" (by decide)) mO) hO LstT.mono).mono fun h v x q => Iters.list q) (by rw [sizeLine_eq]; omega) TupI.mono TupI.t C.K ?_ ?_ ?_ (by rfl) (by decide) (by decide) (by decide) (by intro _; rfl)
    · intro p hp hf
      exfalso
      revert p
      decide
    · intro cenv g' v y L x hy r sees
      exact Run.tests0
    · intro cenv g' v y L x hy hp r sees
      have := hl y hy
      exact Run.anglesIn L.ok ((C.get S.ext).ext x) (C.f8.ext (S.ext.trans x)) (L.glob _ (by rfl)) (Run.nameR L.ok sees r TupI.mono) (by omega) (by rfl)
  · subst hc
    rw [h3]
    simp only [decide_true, Bool.not_true, Bool.false_eq_true, if_false]
    exact wpAny_execs_nil ⟨rfl, k⟩
end
end Mine

namespace Mine


def rightL (row : List Int) (sd : Nat) : List Int := ((row.take sd).filter fun x => decide ((sd : Int) < x)).map fun x => x - sd
/-- what law asks at last of the row drawn -/
structure DrawOk (wh : Int) (row : List Int) : Prop where
  len : row.length ≤ 60
  sd : (squareL row).length ≤ row.length
  sum : (rightL row (squareL row).length).sum + (row.drop (squareL row).length).sum + ((squareL row).length : Int) * (squareL row).length = wh
  last : row.drop (squareL row).length = [] ∨ ((squareL row).length < row.length ∧ row.getD (squareL row).length 0 ≤ (squareL row).length)

theorem mul_small {k : Nat} {b : Int} (h : k ≤ 60) : IntMulOk (k : Int) b := by
  have : ∀ i, i ≤ 60 → Builtin.Int.intBits (i : Nat) ≤ 64 := by decide
  exact .of_left (this k h)

section
variable {prog : Program} {w : World} {n : Nat} {mg mb : Str → Option Value} {g : Heap} {env : Env} {cm cs a1 a3 a4 a6 a7 a8 a9 a : Addr} {A : Around} {s : Shared} {E : Value → Shared → Prop} {l : List (Str × Value)} {p : Pos} {h : Heap} {pos fpos : Pos} {e : Expr} {row : List Int}

/-- drawn = rows[(script + [0])[0] % len(rows)] -/
theorem law9 (C : LawC mg mb g env cm cs a1 a3 a4 a6 a7 a8 a9) (ok : AOk 24 A) {vR vS : Value} {rows : List (List Int)} {script : List Int} (hx : ∀ y ∈ l.map (·.1), y ≠ Str.ofString "drawn") (S : LS g env cm cs l s.heap) (mR : (Str.ofString "rows", vR) ∈ l) (mS : (Str.ofString "script", vS) ∈ l) (hR : LstT s.heap vR rows) (hS : LstI s.heap vS script)
    (hz : rows.length ≤ 900) (hne : rows ≠ []) (hs : script.length ≤ 63) :
    wpAny (model prog w) A (exec ((fnD 10).body.getD 9 (.Pass default)) env) (fun fl s' => fl = .next ∧ ∃ v row, row ∈ rows ∧ LS g env cm cs ((Str.ofString "drawn", v) :: l) s'.heap ∧ TupI s'.heap v row ∧ KX [env.locals, cm, cs] s s') E s := by
  have hpos : 0 < rows.length := List.length_pos_iff.mpr hne
  obtain ⟨x0, hx0⟩ : ∃ x0, (script ++ [0])[0]? = some x0 := ⟨(script ++ [0])[0]'(by simp), by simp⟩
  have hb : (rows.length : Int) ≠ 0 := by omega
  have hk0 : 0 ≤ x0.fmod rows.length := Int.fmod_nonneg_of_pos x0 (by omega)
  have hk1 : x0.fmod rows.length < rows.length := Int.fmod_lt_of_pos x0 (by omega)
  have hk2 : (x0.fmod rows.length).toNat < rows.length := by omega
  have hrow : rows[(x0.fmod rows.length).toNat]? = some rows[(x0.fmod rows.length).toNat] := by simp [hk2]
  have nR : ∀ {q : Pos}, Run prog w 24 s.heap (eval (.Name (Str.ofString "rows") q) env) (fun h v => LstT h v rows) := fun {q} => Run.nameR C.K (S.vars.sees (C.loc "rows" (by decide)) mR) hR LstT.mono
  refine wp_assignV (n := 24) (P := fun h v => TupI h v rows[(x0.fmod rows.length).toNat]) C.K (C.loc "drawn" (by decide)) S.vars hx ok ?_ (fun v h₁ h' tk pv e₁ k V k' => ⟨rfl, v, _, List.getElem_mem hk2, C.set S V k', ?_, kx_but (by simp) k'⟩) (by with_unfolding_all rfl)
  · refine Run.itemL (k := x0.fmod rows.length) TupI.mono nR (Run.mod hb (by omega) (Run.itemL (k := 0) (l := script ++ [0]) IntR.mono (Run.addL (Run.nameR C.K (S.vars.sees (C.loc "script" (by decide)) mS) hS LstI.mono) (Run.list1 IntR.mono Run.int (by rfl)) (by simp; omega)) Run.int (by decide) hx0 (by simp; omega) (by rfl)) (Run.lenOfL C.K (C.get S.ext) (C.glo "len" (by decide)) TupI.mono nR (by omega) (by rfl))) hk0 hrow (by omega) (by rfl)
  · exact TupI.t _ _ _ _ (text_keep (X := [env.locals]) (fun c hc => (S.grow e₁).X c (by rw [List.mem_singleton.mp hc]; simp)) fun b o hb e => k b o (by simpa using hb) e) pv

/-- side = _law_square(drawn) -/
theorem law10 (C : LawC mg mb g env cm cs a1 a3 a4 a6 a7 a8 a9) (ok : AOk 24 A) {vD : Value} {row : List Int} (S : LS g env cm cs l s.heap) (mD : (Str.ofString "drawn", vD) ∈ l) (hD : TupI s.heap vD row) (hl : row.length ≤ 60) :
    wpAny (model prog w) A (exec ((fnD 10).body.getD 10 (.Pass default)) env) (fun fl s' => fl = .next ∧ ∃ t, LS g env cm cs l s'.heap ∧ s'.heap.IsCell cs (some (.int (squareL row).length t)) ∧ KX [env.locals, cm, cs] s s') E s := by
  obtain ⟨v₀, h₀⟩ := S.cs
  refine wp_assignCell (n := 24) (P := fun h v => IntR h v (squareL row).length) C.K C.ks C.ls h₀ ok (Run.squareOf C S.ext (Run.nameR C.K (S.vars.sees (C.loc "drawn" (by decide)) mD) hD TupI.mono) (by omega) (by rfl)) (fun v h₁ h' tk pv e₁ k hv k' => ?_) (by with_unfolding_all rfl)
  obtain ⟨t, rfl⟩ := pv
  obtain ⟨vm, hm⟩ := S.cm
  refine ⟨rfl, t, ⟨fun b o q => k' b o (fun z => ?_) (S.ext b o q), S.vars.keep fun o q => k' _ _ (Ne.symm C.Ls) q, ⟨vm, cell_at hm fun o q => k' _ _ C.ms q⟩, ⟨_, hv⟩⟩, hv, ⟨h', tk, rfl, fun b o hb q => k' b o (fun z => hb (by rw [z]; simp)) q⟩⟩
  rw [z, C.gs] at q
  cases q

/-- right = tuple([number - side for number in drawn[:side] if number > side]) -/
theorem law11 (C : LawC mg mb g env cm cs a1 a3 a4 a6 a7 a8 a9) (ok : AOk 24 A) {vD : Value} {row : List Int} {sd : Nat} {t : Tok} (hx : ∀ y ∈ l.map (·.1), y ≠ Str.ofString "right") (S : LS g env cm cs l s.heap) (mD : (Str.ofString "drawn", vD) ∈ l) (hD : TupI s.heap vD row) (hl : row.length ≤ 60) (hs : s.heap.IsCell cs (some (.int sd t))) (hsd : sd ≤ row.length) :
    wpAny (model prog w) A (exec ((fnD 10).body.getD 11 (.Pass default)) env) (fun fl s' => fl = .next ∧ ∃ v, LS g env cm cs ((Str.ofString "right", v) :: l) s'.heap ∧ TupI s'.heap v (rightL row sd) ∧ s'.heap.IsCell cs (some (.int sd t)) ∧ KX [env.locals, cm, cs] s s') E s := by
  have Ss : Sees s.heap env "side" (.int sd t) := .inr ⟨.inl C.ks, cs, C.ls, hs⟩
  have hcs : env.kindOf (Str.ofString "side") ≠ some .local := by rw [show env.kindOf (Str.ofString "side") = _ from C.ks]; decide
  refine wp_assignV (n := 24) (P := fun h v => TupI h v (rightL row sd)) C.K (C.loc "right" (by decide)) S.vars hx ok ?_ (fun v h₁ h' tk pv e₁ k V k' => ⟨rfl, v, C.set S V k', ?_, cell_at hs fun o q => k' _ _ C.Ls q, kx_but (by simp) k'⟩) (by with_unfolding_all rfl)
  · have hlen : (rightL row sd).length ≤ 1000 := by
      simp only [rightL, List.length_map]
      have := List.length_filter_le (fun x => decide ((sd : Int) < x)) (row.take sd)
      rw [List.length_take] at this
      omega
    refine Run.tupleOf C.K (C.get S.ext) (C.glo "tuple" (by decide)) IntR.mono (l := rightL row sd) ?_ hlen (by rfl)
    refine Run.listComp (R := IntR) (R' := IntR) (xs := row.take sd) (res := rightL row sd) (fun x => decide ((sd : Int) < x)) (fun x => x - sd) (by rfl) ((Run.sliceTo (n := 24) (b := sd) (Run.nameR C.K (S.vars.sees (C.loc "drawn" (by decide)) mD) hD TupI.mono) (Run.nameR C.K Ss ⟨t, rfl⟩ IntR.mono) hsd (by omega) (by intro _ _; rfl)).mono fun h v _ q => Iters.tup q) (by rw [List.length_take, sizeLine_eq]; omega) IntR.mono IntR.t C.K ?_ ?_ ?_ (by rfl) (by decide) (by decide) (by decide) (by intro _; rfl)
    · intro p hp hf
      have : p.1 = Str.ofString "side" := by revert p; decide
      rw [this]
      exact Ss.cellOf hcs
    · intro cenv g' v y L x hy r sees
      exact Run.tests1 (Run.testI (a := y) (b := sd) (Run.nameR L.ok sees r IntR.mono) (Run.nameR L.ok (L.free _ _ _ (by rfl) (Ss.ext x)) ⟨t, rfl⟩ IntR.mono) (by rfl) (by with_unfolding_all rfl))
    · intro cenv g' v y L x hy hp r sees
      exact Run.sub (Run.nameR L.ok sees r IntR.mono) (Run.nameR L.ok (L.free _ _ _ (by rfl) (Ss.ext x)) ⟨t, rfl⟩ IntR.mono)
  · exact TupI.t _ _ _ _ (text_keep (X := [env.locals]) (fun c hc => (S.grow e₁).X c (by rw [List.mem_singleton.mp hc]; simp)) fun b o hb e => k b o (by simpa using hb) e) pv

theorem Run.sumOf {g : Heap} {e : Expr} {xs : List Int} (K : EnvOk env) (G : Gd mg mb g) (hk : env.kindOf (Str.ofString "sum") = some .globalImplicit) (h : Run prog w (n + 1) g (eval e env) (fun h v => TupI h v xs)) (he : starEach [e] env = [(false, eval e env)] := by rfl) :
    Run prog w (n + 1) g (eval (.Call (.Name (Str.ofString "sum") fpos) [e] [] pos) env) (fun h v => IntR h v xs.sum) :=
  Run.call1 (Run.built' K G (by decide) boot_sum hk (by decide) (by decide)) (.inl ⟨_, rfl⟩) h (fun _ _ _ x p => TupI.mono _ _ _ _ x p) (fun g' v x p => Run.sum (Iters.tup p)) he

/-- return sum(right) + sum(drawn[side:]) + side * side == whole and (drawn[side:] == () or drawn[side] <= side) -/
theorem law12 (C : LawC mg mb g env cm cs a1 a3 a4 a6 a7 a8 a9) (ok : AOk 24 A) {vD vR : Value} {row : List Int} {t tw : Tok} {wh : Int} (S : LS g env cm cs l s.heap) (mD : (Str.ofString "drawn", vD) ∈ l) (mR : (Str.ofString "right", vR) ∈ l) (mW : (Str.ofString "whole", .int wh tw) ∈ l) (hD : TupI s.heap vD row) (d : DrawOk wh row)
    (hR : TupI s.heap vR (rightL row (squareL row).length)) (hs : s.heap.IsCell cs (some (.int (squareL row).length t))) :
    wpAny (model prog w) A (exec ((fnD 10).body.getD 12 (.Pass default)) env) (fun fl s' => fl = .ret (.bool true) ∧ Keeps s s') E s := by
  have Ss : Sees s.heap env "side" (.int (squareL row).length t) := .inr ⟨.inl C.ks, cs, C.ls, hs⟩
  have hl := d.len
  have hsd := d.sd
  have nD : ∀ {h : Heap} {q : Pos}, Ext s.heap h → Run prog w 24 h (eval (.Name (Str.ofString "drawn") q) env) (fun h v => TupI h v row) := fun {h q} e => Run.nameR C.K ((S.vars.ext e).sees (C.loc "drawn" (by decide)) mD) (TupI.mono _ _ _ _ e hD) TupI.mono
  have nS : ∀ {h : Heap} {q : Pos}, Ext s.heap h → Run prog w 24 h (eval (.Name (Str.ofString "side") q) env) (fun h v => IntR h v (squareL row).length) := fun {h q} e => Run.nameR C.K (Ss.ext e) ⟨t, rfl⟩ IntR.mono
  refine wpAny_Return_some (BoolOp_and ?_)
  refine (Run.cmp (n := 24) (g := s.heap) (P₁ := fun h v => IntR h v wh) (P₂ := fun h v => IntR h v wh) (P := fun h v => BoolR h v true) ((Run.add (Run.add (Run.sumOf (n := 23) C.K (C.get S.ext) (C.glo "sum" (by decide)) (Run.nameR C.K (S.vars.sees (C.loc "right" (by decide)) mR) hR TupI.mono) (by rfl)) (Run.sumOf (n := 23) C.K (C.get S.ext) (C.glo "sum" (by decide)) (Run.sliceFrom (n := 24) (a := (squareL row).length) (nD (Ext.refl _)) (nS (Ext.refl _)) hsd (by omega) (by intro _ _; rfl)) (by rfl))) (Run.mul ?_ (nS (Ext.refl _)) (nS (Ext.refl _)))).mono fun h v _ q => by rw [d.sum] at q; exact q) (Run.nameR C.K (S.vars.sees (C.loc "whole" (by decide)) mW) ⟨tw, rfl⟩ IntR.mono) (fun _ _ _ _ q => q) (fun g' x y _ p q => ?_) (by with_unfolding_all rfl)).use ok (Ext.refl _) fun v s₁ hv k₁ => ?_
  · exact mul_small (by omega)
  · obtain ⟨t1, rfl⟩ := p
    obtain ⟨t2, rfl⟩ := q
    have := Run.eqI (prog := prog) (w := w) (n := 24) (g := g') (a := wh) (b := wh) (t := t1) (u := t2)
    simpa using this
  have hv' : v = .bool true := hv
  subst hv'
  refine wpAny_truthy_bool ?_
  simp only [if_true]
  refine BoolOp_one (BoolOp_or ?_)
  have e₁ := keeps_ext k₁
  refine (Run.cmp (n := 24) (g := s₁.heap) (P₁ := fun h v => TupI h v (row.drop (squareL row).length)) (P₂ := fun h v => TupI h v []) (P := fun h v => BoolR h v (decide (row.drop (squareL row).length = []))) (Run.sliceFrom (n := 24) (a := (squareL row).length) (nD e₁) (nS e₁) hsd (by omega) (by intro _ _; rfl)) Run.tup0 (fun _ _ _ x q => TupI.mono _ _ _ _ x q) (fun g' x y _ p q => Run.eqT (n := 20) p q) (by with_unfolding_all rfl)).use ok (Ext.refl _) fun v s₂ hv k₂ => ?_
  have hv' : v = .bool (decide (row.drop (squareL row).length = [])) := hv
  subst hv'
  refine wpAny_truthy_bool ?_
  by_cases hd : row.drop (squareL row).length = []
  · simp only [hd, decide_true, if_true]
    exact ⟨trivial, keeps_trans k₁ k₂⟩
  · simp only [hd, decide_false, Bool.false_eq_true, if_false]
    obtain ⟨hlt, hle⟩ := d.last.resolve_left hd
    have e₂ := e₁.trans (keeps_ext k₂)
    refine BoolOp_one ?_
    refine (Run.cmp (n := 24) (g := s₂.heap) (P₁ := fun h v => IntR h v (row.getD (squareL row).length 0)) (P₂ := fun h v => IntR h v (squareL row).length) (P := fun h v => BoolR h v true) (Run.itemT (k := ((squareL row).length : Nat)) IntR.mono (nD e₂) (nS e₂) (by omega) (by simpa using getD_get hlt) (by omega) (by rfl)) (nS e₂) (fun _ _ _ x q => q) (fun g' x y _ p q => ?_) (by with_unfolding_all rfl)).use ok (Ext.refl _) fun v s₃ hv k₃ => ?_
    · obtain ⟨t1, rfl⟩ := p
      obtain ⟨t2, rfl⟩ := q
      have := Run.leI (prog := prog) (w := w) (n := 24) (g := g') (a := row.getD (squareL row).length 0) (b := (squareL row).length) (t := t1) (u := t2)
      rw [decide_eq_true hle] at this
      exact this
    · have hv' : v = .bool true := hv
      subst hv'
      exact ⟨rfl, keeps_trans k₁ (keeps_trans k₂ k₃)⟩
end
end Mine

namespace Mine


def rowB (order : List (List Int)) (row : List Int) : Bool :=
  let t := columnsL row
  decide (row.length ≤ 60) && row.all (fun x => decide (0 ≤ x) && decide (x < 256)) && decide (0 ≤ row.getD 0 0) && decide (row.getD 0 0 ≤ 100) && decide (t.length ≤ 100) && decide (0 ≤ t.getD 0 0) && decide (t.getD 0 0 ≤ 100) &&
  decide (order[bisL order t]? = some t) && decide (columnsL t = row) && decide ((squareL row).length = (squareL t).length) && decide (row.reverse.Pairwise (· ≤ ·))
theorem RowOk.of {order : List (List Int)} {row : List Int} (h : rowB order row = true) : RowOk order row := by
  simp only [rowB, Bool.and_eq_true, decide_eq_true_eq, List.all_eq_true] at h
  obtain ⟨⟨⟨⟨⟨⟨⟨⟨⟨⟨a, b⟩, c⟩, d⟩, e⟩, f⟩, g⟩, i⟩, j⟩, k⟩, m⟩ := h
  exact ⟨a, b, c, d, e, f, g, i, j, k, m⟩
def drawB (wh : Int) (row : List Int) : Bool :=
  let sd := (squareL row).length
  decide (row.length ≤ 60) && decide (sd ≤ row.length) && decide ((rightL row sd).sum + (row.drop sd).sum + (sd : Int) * sd = wh) && (decide (row.drop sd = []) || (decide (sd < row.length) && decide (row.getD sd 0 ≤ sd)))
theorem DrawOk.of {wh : Int} {row : List Int} (h : drawB wh row = true) : DrawOk wh row := by
  simp only [drawB, Bool.and_eq_true, Bool.or_eq_true, decide_eq_true_eq] at h
  obtain ⟨⟨⟨a, b⟩, c⟩, d⟩ := h
  exact ⟨a, b, c, d⟩

/-- all that law asks, of one number and its rows -/
def lawB (wh : Int) (rows order own odd : List (List Int)) : Bool :=
  decide (rows ≠ []) && decide (rows.length ≤ 60) && sortOk rows && decide (order = sortT rows) && decide rows.Nodup && rows.all (rowB order) && (decide (wh ≤ 0) || rows.all fun r => decide (r ≠ [])) &&
  (rangeL 1 1 wh.toNat).all (fun k => decide ((rows.filter fun row => row.getD 0 0 == k).length = (rows.filter fun row => (row.length : Int) == k).length)) &&
  sortOk (own.map anglesL) && sortOk odd && decide (sortT (own.map anglesL) = sortT odd) && rows.all (drawB wh)
structure PlainOk (wh : Int) (rows : List (List Int)) : Prop where
  ne : rows ≠ []
  size : rows.length ≤ 60
  sort : sortOk rows = true
  order : orderL rows = sortT rows
  nodup : rows.Nodup
  row : ∀ row ∈ rows, RowOk (orderL rows) row
  full : 0 < wh → ∀ row ∈ rows, row ≠ []
  count : ∀ k : Int, 1 ≤ k → k ≤ wh → (rows.filter fun row => row.getD 0 0 == k).length = (rows.filter fun row => (row.length : Int) == k).length
  own : sortOk ((ownL rows).map anglesL) = true
  odd : sortOk (oddL rows) = true
  same : sortT ((ownL rows).map anglesL) = sortT (oddL rows)
  draw : ∀ row ∈ rows, DrawOk wh row
theorem PlainOk.of {wh : Int} {rows : List (List Int)} (h : lawB wh rows (orderL rows) (ownL rows) (oddL rows) = true) : PlainOk wh rows := by
  simp only [lawB, Bool.and_eq_true, Bool.or_eq_true, decide_eq_true_eq, List.all_eq_true] at h
  obtain ⟨⟨⟨⟨⟨⟨⟨⟨⟨⟨⟨a, b⟩, c⟩, d⟩, e⟩, f⟩, g⟩, i⟩, j⟩, k⟩, m⟩, n⟩ := h
  refine ⟨a, b, c, d, e, fun r hr => .of (f r hr), fun hw => g.resolve_left (by omega), fun q q1 q2 => i q ?_, j, k, m, fun r hr => .of (n r hr)⟩
  unfold rangeL
  rw [List.mem_map]
  exact ⟨(q - 1).toNat, by simp; omega, by omega⟩
theorem plain0 : PlainOk 0 (rowsF 10 0 0) := .of (by decide +kernel)
theorem plain1 : PlainOk 1 (rowsF 10 1 1) := .of (by decide +kernel)
theorem plain2 : PlainOk 2 (rowsF 10 2 2) := .of (by decide +kernel)
theorem plain3 : PlainOk 3 (rowsF 10 3 3) := .of (by decide +kernel)
theorem plain4 : PlainOk 4 (rowsF 10 4 4) := .of (by decide +kernel)
theorem plain5 : PlainOk 5 (rowsF 10 5 5) := .of (by decide +kernel)
theorem plain6 : PlainOk 6 (rowsF 10 6 6) := .of (by decide +kernel)
theorem plain7 : PlainOk 7 (rowsF 10 7 7) := .of (by decide +kernel)
theorem plain8 : PlainOk 8 (rowsF 10 8 8) := .of (by decide +kernel)
theorem plain9 : PlainOk 9 (rowsF 10 9 9) := .of (by decide +kernel)
theorem plain10 : PlainOk 10 (rowsF 10 10 10) := .of (by decide +kernel)
theorem plain_ok {wh : Int} (h0 : 0 ≤ wh) (h1 : wh ≤ 10) : PlainOk wh (rowsF 10 wh wh) := by
  have : wh = 0 ∨ wh = 1 ∨ wh = 2 ∨ wh = 3 ∨ wh = 4 ∨ wh = 5 ∨ wh = 6 ∨ wh = 7 ∨ wh = 8 ∨ wh = 9 ∨ wh = 10 := by omega
  rcases this with rfl | rfl | rfl | rfl | rfl | rfl | rfl | rfl | rfl | rfl | rfl
  · exact plain0
  · exact plain1
  · exact plain2
  · exact plain3
  · exact plain4
  · exact plain5
  · exact plain6
  · exact plain7
  · exact plain8
  · exact plain9
  · exact plain10
end Mine

namespace Mine


theorem body_eq : (fnD 10).body = [(fnD 10).body.getD 0 (.Pass default), (fnD 10).body.getD 1 (.Pass default), (fnD 10).body.getD 2 (.Pass default), (fnD 10).body.getD 3 (.Pass default), (fnD 10).body.getD 4 (.Pass default), (fnD 10).body.getD 5 (.Pass default), (fnD 10).body.getD 6 (.Pass default), (fnD 10).body.getD 7 (.Pass default), (fnD 10).body.getD 8 (.Pass default), (fnD 10).body.getD 9 (.Pass default), (fnD 10).body.getD 10 (.Pass default), (fnD 10).body.getD 11 (.Pass default), (fnD 10).body.getD 12 (.Pass default)] := by rfl

def SK (a b : Shared) : Prop := ∃ h' tk, b = { a with heap := h', toks := tk }
theorem SK.of {X : List Addr} {a b : Shared} (x : KX X a b) : SK a b := by
  obtain ⟨h', tk, e, _⟩ := x
  exact ⟨h', tk, e⟩
theorem SK.trans {a b c : Shared} (x : SK a b) (y : SK b c) : SK a c := by
  obtain ⟨h1, t1, rfl⟩ := x
  obtain ⟨h2, t2, rfl⟩ := y
  exact ⟨h2, t2, rfl⟩

section
variable {prog : Program} {w : World} {mg mb : Str → Option Value} {g : Heap} {env : Env} {cm cs a1 a3 a4 a6 a7 a8 a9 : Addr} {A : Around} {s s' : Shared} {E : Value → Shared → Prop} {l : List (Str × Value)} {α : Type} {R : RelH α}

theorem LS.lst {v : Value} {xs : List α} (S : LS g env cm cs l s.heap) (kx : KX [env.locals, cm, cs] s s') (r : TMono R) (x : LstR R s.heap v xs) : LstR R s'.heap v xs := by
  obtain ⟨h', tk, rfl, kk⟩ := kx
  exact lst_keep (X := [env.locals, cm, cs]) (fun c hc => S.X c hc) kk r x
theorem LS.tup {v : Value} {xs : List Int} (S : LS g env cm cs l s.heap) (kx : KX [env.locals, cm, cs] s s') (x : TupI s.heap v xs) : TupI s'.heap v xs := by
  obtain ⟨h', tk, rfl, kk⟩ := kx
  exact TupI.t _ _ _ _ (text_keep (X := [env.locals, cm, cs]) (fun c hc => S.X c hc) kk) x

/-- law's body -/
theorem law_body (C : LawC mg mb g env cm cs a1 a3 a4 a6 a7 a8 a9) (ok : AOk 24 A) {vS : Value} {script : List Int} (hz : script.length ≤ 63) (S₀ : LS g env cm cs [("script", vS)] s.heap) (hS : LstI g vS script) :
    wpC (model prog w) A (execs (fnD 10).body env) (fun fl s' => fl = .ret (.bool true) ∧ ∃ h' tk, s' = { s with heap := h', toks := tk } ∧ Ext g h') E s := by
  have hw0 : 0 ≤ script.sum.fmod 11 := Int.fmod_nonneg_of_pos _ (by decide)
  have hw1 : script.sum.fmod 11 ≤ 10 := by have := Int.fmod_lt_of_pos script.sum (show (0 : Int) < 11 by decide); omega
  have P := plain_ok hw0 hw1
  generalize hW : script.sum.fmod 11 = wh at hw0 hw1 P
  generalize hRW : rowsF 10 wh wh = rows at P
  have hsz : rows.length ≤ 900 := by have := P.size; omega
  rw [body_eq]
  refine wpC_execs_any (wpAny_mono (law0 C ok S₀ hS) (fun fl s₁ q => ?_) fun _ _ e => e)
  obtain ⟨rfl, tw, S₁, k₁⟩ := q
  rw [hW] at S₁
  refine wpC_execs_any (wpAny_mono (law1 C ok hw0 hw1 S₁) (fun fl s₂ q => ?_) fun _ _ e => e)
  obtain ⟨rfl, vR, o, k₀, S₂, hR₂, ho₂, ho₁, k₂⟩ := q
  rw [hRW] at hR₂
  have hgo : g.get? o = none := by
    cases q : g.get? o with
    | none => rfl
    | some x => have := S₁.ext _ _ q; rw [ho₁] at this; cases this
  refine wpC_execs_any (wpAny_mono (law2 C ok P.ne hsz S₂ hR₂ ho₂ hgo) (fun fl s₃ q => ?_) fun _ _ e => e)
  obtain ⟨rfl, V₃, hO₃, hR₃, k₃⟩ := q
  have no : ∀ {c : Addr}, c ∈ [env.locals, cm, cs] → c ≠ o := fun hc z => by
    obtain ⟨x, e, q⟩ := S₂.X _ hc
    rw [z, ho₂] at e
    exact q [].toArray k₀ (by rw [← Option.some.inj e])
  have S₃ : LS g env cm cs [("rows", vR), ("order", .ref o), ("script", vS), ("whole", .int wh tw)] s₃.heap := by
    obtain ⟨vm, hm⟩ := S₂.cm
    obtain ⟨vs, hs⟩ := S₂.cs
    refine ⟨k₃.ext S₂.ext fun c hc => ?_, V₃, ⟨vm, cell_at hm fun x q => k₃.get (by simp [C.Lm, no (c := cm) (by simp)]) q⟩, ⟨vs, cell_at hs fun x q => k₃.get (by simp [C.Ls, no (c := cs) (by simp)]) q⟩⟩
    simp only [List.mem_cons, List.not_mem_nil, or_false] at hc
    rcases hc with rfl | rfl
    · exact C.gL
    · exact hgo
  refine wpC_execs_any (wpAny_mono (law3 C ok S₃ (by simp) (by simp) hR₃ hO₃ hsz P.sort P.order P.nodup) (fun fl s₄ q => ?_) fun _ _ e => e)
  obtain ⟨rfl, k₄⟩ := q
  have S₄ := S₃.grow (keeps_ext k₄)
  have hR₄ := LstT.mono _ _ _ _ (keeps_ext k₄) hR₃
  have hO₄ := LstT.mono _ _ _ _ (keeps_ext k₄) hO₃
  have holen : (orderL rows).length ≤ 900 := by
    have := orderL_len rows []
    unfold orderL
    simp only [List.length_nil] at this
    omega
  refine wpC_execs_cons (wpC_mono (law4 C ok S₄ hR₄ hO₄ hsz holen P.row) (fun fl s₅ q => ?_) fun _ _ e => e)
  obtain ⟨rfl, S₅, k₅⟩ := q
  have hR₅ := S₄.lst k₅ TupI.t hR₄
  dsimp only
  refine wpC_execs_any (wpAny_mono (law5 (tw := tw) C ok S₅ (by simp) (by simp) hR₅ hw0 hw1 hsz (fun r hr => (P.row r hr).len) P.full P.count) (fun fl s₆ q => ?_) fun _ _ e => e)
  obtain ⟨rfl, S₆, k₆⟩ := q
  have hR₆ := S₅.lst k₆ TupI.t hR₅
  refine wpC_execs_any (wpAny_mono (law6 (l := (Str.ofString "rows", vR) :: (Str.ofString "order", Value.ref o) :: (Str.ofString "script", vS) :: [(Str.ofString "whole", Value.int wh tw)]) C ok (show ∀ y ∈ (["rows", "order", "script", "whole"] : List Str), y ≠ Str.ofString "own" by decide) S₆ (by simp) hR₆ hsz (fun r hr => ⟨(P.row r hr).len, (P.row r hr).h0, (P.row r hr).h1⟩)) (fun fl s₇ q => ?_) fun _ _ e => e)
  obtain ⟨rfl, vO, S₇, hO₇, k₇⟩ := q
  have hR₇ := S₆.lst k₇ TupI.t hR₆
  refine wpC_execs_any (wpAny_mono (law7 (l := (Str.ofString "own", vO) :: (Str.ofString "rows", vR) :: (Str.ofString "order", Value.ref o) :: (Str.ofString "script", vS) :: [(Str.ofString "whole", Value.int wh tw)]) C ok (show ∀ y ∈ (["own", "rows", "order", "script", "whole"] : List Str), y ≠ Str.ofString "odd" by decide) S₇ (by simp) hR₇ hsz (fun r hr => (P.row r hr).len)) (fun fl s₈ q => ?_) fun _ _ e => e)
  obtain ⟨rfl, vD, S₈, hD₈, k₈⟩ := q
  have hR₈ := S₇.lst k₈ TupI.t hR₇
  have hO₈ := S₇.lst k₈ TupI.t hO₇
  refine wpC_execs_any (wpAny_mono (law8 C ok S₈ (by simp) (by simp) hO₈ hD₈ (Nat.le_trans (List.length_filter_le _ _) hsz) (fun r hr => (P.row r (List.mem_filter.mp hr).1).len) P.own P.odd P.same) (fun fl s₉ q => ?_) fun _ _ e => e)
  obtain ⟨rfl, k₉⟩ := q
  have S₉ := S₈.grow (keeps_ext k₉)
  have hR₉ := LstT.mono _ _ _ _ (keeps_ext k₉) hR₈
  refine wpC_execs_any (wpAny_mono (law9 (l := (Str.ofString "odd", vD) :: (Str.ofString "own", vO) :: (Str.ofString "rows", vR) :: (Str.ofString "order", Value.ref o) :: (Str.ofString "script", vS) :: [(Str.ofString "whole", Value.int wh tw)]) C ok (show ∀ y ∈ (["odd", "own", "rows", "order", "script", "whole"] : List Str), y ≠ Str.ofString "drawn" by decide) S₉ (by simp) (by simp) hR₉ (LstI.mono _ _ _ _ S₉.ext hS) hsz P.ne hz) (fun fl s₁₀ q => ?_) fun _ _ e => e)
  obtain ⟨rfl, vw, row, hrow, S₁₀, hw₁₀, k₁₀⟩ := q
  have d := P.draw row hrow
  refine wpC_execs_any (wpAny_mono (law10 C ok S₁₀ (by simp) hw₁₀ d.len) (fun fl s₁₁ q => ?_) fun _ _ e => e)
  obtain ⟨rfl, t, S₁₁, hs₁₁, k₁₁⟩ := q
  have hw₁₁ := S₁₀.tup k₁₁ hw₁₀
  refine wpC_execs_any (wpAny_mono (law11 (l := (Str.ofString "drawn", vw) :: (Str.ofString "odd", vD) :: (Str.ofString "own", vO) :: (Str.ofString "rows", vR) :: (Str.ofString "order", Value.ref o) :: (Str.ofString "script", vS) :: [(Str.ofString "whole", Value.int wh tw)]) C ok (show ∀ y ∈ (["drawn", "odd", "own", "rows", "order", "script", "whole"] : List Str), y ≠ Str.ofString "right" by decide) S₁₁ (by simp) hw₁₁ d.len hs₁₁ d.sd) (fun fl s₁₂ q => ?_) fun _ _ e => e)
  obtain ⟨rfl, vr, S₁₂, hr₁₂, hs₁₂, k₁₂⟩ := q
  have hw₁₂ := S₁₁.tup k₁₂ hw₁₁
  refine wpC_execs_any (wpAny_mono (law12 (tw := tw) C ok S₁₂ (by simp) (by simp) (by simp) hw₁₂ d hr₁₂ hs₁₂) (fun fl s₁₃ q => ?_) fun _ _ e => e)
  obtain ⟨rfl, k₁₃⟩ := q
  refine ⟨rfl, ?_⟩
  obtain ⟨h', tk, e⟩ := (SK.of k₁).trans ((SK.of k₂).trans ((SK.of k₃).trans ((SK.of (KX.of (X := []) k₄)).trans ((SK.of k₅).trans ((SK.of k₆).trans ((SK.of k₇).trans ((SK.of k₈).trans ((SK.of (KX.of (X := []) k₉)).trans ((SK.of k₁₀).trans ((SK.of k₁₁).trans ((SK.of k₁₂).trans (SK.of (KX.of (X := []) k₁₃)))))))))))))
  exact ⟨h', tk, e, by have := (S₁₂.grow (keeps_ext k₁₃)).ext; rw [e] at this; exact this⟩
end
end Mine

namespace Mine


section
variable {K : Frag} {h : Heap} {mg : Str → Option Value} {k : Nat} {a c : Addr} {o oc : Obj} {dV kV doc pm ct : Value} {an : Option Addr} {t tq : Tok} {vs : Array Value}
theorem fnB_K (X : K.In h) (G : h.Ns mainGlobals mg) (e : nsIn K mainGlobals (fnD k).name = some (some (.ref a))) (ho : K.lookup a = some o) (hd : o.data = .func (fdB k dV kV doc pm an (.ref c) ct)) (hc : K.lookup c = some oc) (hdc : oc.data = .fields vs) (hq : vs[1]? = some (.str (fnD k).name tq))
    (b2 : ∀ S v₁ v₂, peek K S (bindArgs (fdB k dV kV doc pm an (.ref c) ct) ⟨[v₁, v₂], []⟩) = some [(Str.ofString "a", v₁), ("x", v₂), ("lo", .int 0 t), ("hi", .none), ("key", .none)])
    (b4 : ∀ S v₁ v₂ v₃ v₄, peek K S (bindArgs (fdB k dV kV doc pm an (.ref c) ct) ⟨[v₁, v₂, v₃, v₄], []⟩) = some [(Str.ofString "a", v₁), ("x", v₂), ("lo", v₃), ("hi", v₄), ("key", .none)]) : FnB mg h k a :=
  ⟨mg_of X G e, o, dV, kV, doc, pm, an, .ref c, ct, t, X _ _ ho, hd, ⟨c, oc, vs, tq, rfl, X _ _ hc, hdc, hq⟩,
    fun s v₁ v₂ x M A E Q hq => Looks.of_peek X (b2 _ v₁ v₂) A Q E s x hq, fun s v₁ v₂ v₃ v₄ x M A E Q hq => Looks.of_peek X (b4 _ v₁ v₂ v₃ v₄) A Q E s x hq⟩
theorem fnIs_K (X : K.In h) (G : h.Ns mainGlobals mg) (e : nsIn K mainGlobals (fnD k).name = some (some (.ref a))) (ho : K.lookup a = some o) (hd : o.data = .func (Calls.docDef (fnD k).name (fnD k).params (fnD k).body (fnD k).scope pm (.ref c) doc)) (hc : K.lookup c = some oc) (hdc : oc.data = .fields vs) (hq : vs[1]? = some (.str (fnD k).name tq)) : FnIs mg h (fnD k) a :=
  ⟨mg_of X G e, o, pm, .ref c, doc, X _ _ ho, hd, c, oc, vs, tq, rfl, X _ _ hc, hdc, hq⟩
end
end Mine

namespace Mine


section
variable {prog : Program} {w : World} {mg mb : Str → Option Value} {a1 a3 a4 a6 a7 a8 a9 a10 la : Addr} {A : Around} {s : Shared} {E : Value → Shared → Prop}

theorem law_call (G : Gd mg mb s.heap) (f1 : FnIs mg s.heap (fnD 1) a1) (f3 : FnB mg s.heap 3 a3) (f4 : FnB mg s.heap 4 a4) (f6 : FnIs mg s.heap (fnD 6) a6) (f7 : FnIs mg s.heap (fnD 7) a7) (f8 : FnIs mg s.heap (fnD 8) a8) (f9 : FnIs mg s.heap (fnD 9) a9) (f10 : FnIs mg s.heap (fnD 10) a10)
    (ok : AOk 25 A) {script : List Int} (hS : LstI s.heap (.ref la) script) (hz : script.length ≤ 63) :
    wpC (model prog w) A (PySem.call (.ref a10) [.ref la]) (fun v s' => v = .bool true ∧ ∃ h' tk, s' = { s with heap := h', toks := tk } ∧ Ext s.heap h') E s := by
  obtain ⟨hm, o, pm, cd, doc, ho, hd, hc⟩ := f10
  refine wpC_callDef (binds := [("script", .ref la)]) ok.room G.nolimit ho hd hc rfl rfl (by rfl) (fun L x hx => ?_) fun L s₁ E' k₁ hLn hns hcells => ?_
  · simp only [List.mem_singleton] at hx
    subst hx
    exact .inl (by rfl)
  have ok1 := (ok.le (show 24 + 1 ≤ 25 by omega)).deeper (envF 10 pm cd doc L a10)
  obtain ⟨gm, Lm, hm'⟩ := hcells "many" (L + 1) (by rfl)
  obtain ⟨gs, Ls, hs'⟩ := hcells "side" (L + 2) (by rfl)
  have C : LawC mg mb s.heap (envF 10 pm cd doc L a10) (L + 1) (L + 2) a1 a3 a4 a6 a7 a8 a9 := {
    G := G, K := ⟨by rfl, by rfl, by rfl⟩, f1 := f1, f3 := f3, f4 := f4, f6 := f6, f7 := f7, f8 := f8, f9 := f9
    gL := hLn, gm := gm, gs := gs, Lm := Lm, Ls := Ls, ms := Nat.ne_of_lt (Nat.lt_succ_self _)
    loc := by
      intro x hx
      simp only [List.mem_cons, List.not_mem_nil, or_false] at hx
      rcases hx with rfl | rfl | rfl | rfl | rfl | rfl | rfl | rfl | rfl | rfl | rfl <;> rfl
    km := by rfl, ks := by rfl, lm := by rfl, ls := by rfl
    glo := by
      intro x hx
      simp only [List.mem_cons, List.not_mem_nil, or_false] at hx
      rcases hx with rfl | rfl | rfl | rfl | rfl | rfl | rfl | rfl | rfl | rfl | rfl | rfl | rfl <;> rfl
    int := by rfl, sw1 := by with_unfolding_all rfl, sw6 := by with_unfolding_all rfl, sw7 := by with_unfolding_all rfl }
  have V : Vars s₁.heap (envF 10 pm cd doc L a10) [(Str.ofString "script", .ref la)] := ⟨_, hns, fun x v hxv => by
    simp only [List.mem_singleton, Prod.mk.injEq] at hxv
    obtain ⟨rfl, rfl⟩ := hxv
    rfl⟩
  have S : LS s.heap (envF 10 pm cd doc L a10) (L + 1) (L + 2) [(Str.ofString "script", .ref la)] s₁.heap := ⟨keeps_ext k₁, V, ⟨_, hm'⟩, ⟨_, hs'⟩⟩
  change wpC _ (A.deeper (envF 10 pm cd doc L a10)) (execs (fnD 10).body (envF 10 pm cd doc L a10)) _ _ _
  refine wpC_mono (law_body C ok1 hz S hS) (fun fl s₂ q => ?_) fun _ _ e => e
  obtain ⟨rfl, h', tk, rfl, e⟩ := q
  obtain ⟨h₁, t₁, rfl, _⟩ := k₁
  exact ⟨_, rfl, rfl, h', tk, rfl, e⟩
end
end Mine

namespace Mine


theorem ints_of_well {P : Params} {h : Heap} : ∀ {ns : List Int} {vs : List Value}, WellAll P h vs (ofPys (ns.map PyData.int)) → Paired (IntR h) vs ns
  | [], vs, x => by
    rw [List.map_nil, ofPys] at x
    cases x
    exact .nil
  | n :: ns, vs, x => by
    rw [List.map_cons, ofPys] at x
    cases x with
    | cons a b =>
      rw [ofPy] at a
      cases a with
      | int i t => exact .cons ⟨t, rfl⟩ (ints_of_well b)
theorem lst_of_well {P : Params} {h : Heap} {v : Value} {ns : List Int} (x : Well P h v (ofPy (PyData.list (ns.map PyData.int)))) : LstI h v ns := by
  rw [ofPy] at x
  cases x with
  | list ho r => exact ⟨_, _, 0, rfl, ho, ints_of_well r⟩

section
variable {w : World} {mg mb : Str → Option Value} {a1 a3 a4 a6 a7 a8 a9 a10 la : Addr} {s₀ s : Shared}
theorem law_end (G : Gd mg mb s.heap) (f1 : FnIs mg s.heap (fnD 1) a1) (f3 : FnB mg s.heap 3 a3) (f4 : FnB mg s.heap 4 a4) (f6 : FnIs mg s.heap (fnD 6) a6) (f7 : FnIs mg s.heap (fnD 7) a7) (f8 : FnIs mg s.heap (fnD 8) a8) (f9 : FnIs mg s.heap (fnD 9) a9) (f10 : FnIs mg s.heap (fnD 10) a10)
    (hg : s.gens = #[]) {ns : List Int} (hw : Well w.params s.heap (.ref la) (ofPy (PyData.list (ns.map PyData.int)))) (hz : ¬ (63 : Int) < (ns.length : Int)) :
    wpC (model PySem.Challenge.rw_gz0001_01.row.prog w) callerA (PySem.call (.ref a10) [.ref la])
      (fun v s' => GoodWG PySem.Challenge.rw_gz0001_01.row.claim (classAt s₀.heap) (ExcName.means s₀.heap) [ofPy (PyData.list (ns.map PyData.int))] s (.ok (.ret v)) s')
      (fun e s' => GoodWG PySem.Challenge.rw_gz0001_01.row.claim (classAt s₀.heap) (ExcName.means s₀.heap) [ofPy (PyData.list (ns.map PyData.int))] s (.error e) s') s := by
  have ok : AOk 25 callerA := ⟨rfl, by decide +kernel, by decide +kernel⟩
  refine wpC_mono (law_call G f1 f3 f4 f6 f7 f8 f9 f10 ok (lst_of_well hw) (by omega)) (fun v s' q => ?_) fun _ _ e => e
  obtain ⟨rfl, h', tk, rfl, e⟩ := q
  refine ⟨.inl ⟨.bool true, .bool true, [], rfl, fun _ => rfl, .bool true, ?_, fun _ => ⟨List.nodup_nil, fun a ha => nomatch ha⟩⟩, .of_keep e, rfl, .of_eq hg⟩
  first | rfl | wrow_post
end
end Mine

namespace Mine
set_option maxHeartbeats 8000000 in
theorem law_holds : PySem.Challenge.rw_gz0001_01.Holds := by
  w_on
  o_law
  k_head
  case hw => w_witness2
  intro w s₀ s₁ mg mb G Y fa o pm cd doc dV kV ho hd hcd hD hmg hg args vals as hpre hlay hrd hwl hlo
  have KX := kIn_of Y
  refine Ground.open G ?_
  intro T B D TE TW
  wrow_args hpre hlay hrd hwl hlo
  have g : Gd mg mb s₁.heap := ⟨T.g, T.b, T.nolimit, T.builtins, fun x hx => by
    simp only [List.mem_cons, List.not_mem_nil, or_false] at hx
    rcases hx with rfl | rfl | rfl | rfl | rfl | rfl | rfl | rfl | rfl <;> exact mg_none_of KX T.g (by rfl)⟩
  have f1 := fnIs_K (k := 1) KX T.g (by rfl) (by rfl) (by rfl) (by rfl) (by rfl) (by rfl)
  have f3 := fnB_K (k := 3) KX T.g (by rfl) (by rfl) (by rfl) (by rfl) (by rfl) (by rfl) (fun _ _ _ => by rfl) (fun _ _ _ _ _ => by rfl)
  have f4 := fnB_K (k := 4) KX T.g (by rfl) (by rfl) (by rfl) (by rfl) (by rfl) (by rfl) (fun _ _ _ => by rfl) (fun _ _ _ _ _ => by rfl)
  have f6 := fnIs_K (k := 6) KX T.g (by rfl) (by rfl) (by rfl) (by rfl) (by rfl) (by rfl)
  have f7 := fnIs_K (k := 7) KX T.g (by rfl) (by rfl) (by rfl) (by rfl) (by rfl) (by rfl)
  have f8 := fnIs_K (k := 8) KX T.g (by rfl) (by rfl) (by rfl) (by rfl) (by rfl) (by rfl)
  have f9 := fnIs_K (k := 9) KX T.g (by rfl) (by rfl) (by rfl) (by rfl) (by rfl) (by rfl)
  have f10 := fnIs_K (k := 10) KX T.g (by rfl) (by rfl) (by rfl) (by rfl) (by rfl) (by rfl)
  have hfa : mg (Str.ofString "law") = some (.ref fa) := hmg
  have hfb : mg (Str.ofString "law") = _ := f10.1
  rw [hfa] at hfb
  injection hfb with hfb
  injection hfb with hfb
  subst hfb
  exact law_end g f1 f3 f4 f6 f7 f8 f9 f10 hg (by assumption) (by assumption)
end Mine

set_option maxHeartbeats 8000000 in
theorem PySem.Challenge.cw_gz0001_01_holds : PySem.Challenge.rw_gz0001_01.Holds := by
  exact Mine.law_holds
