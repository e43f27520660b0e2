import PyProof.Rows.All
import Wide.All
import OpenK.AllK
import Wide.FinOn
import Lean
import PySem.Challenge.RW_pm0005_01
set_option Elab.async false
set_option maxRecDepth 100000
set_option linter.unusedVariables false
namespace Mine
open PySem PySem.W PyProof.Rows PySem.Calls

/-- the frozen part of a heap -/
abbrev Frz := Addr → Option Obj
abbrev lstO (vs : List Value) (n : Nat) : Obj := { cls := .type "list", dict := none, data := .seq vs.toArray n, slots := #[] }
abbrev tupO (vs : List Value) (n : Nat) : Obj := { cls := .type "tuple", dict := none, data := .seq vs.toArray n, slots := #[] }

mutual
inductive Den (f : Frz) : Value → PyData → Prop
  | none : Den f Value.none PyData.none
  | bool (b : Bool) : Den f (Value.bool b) (PyData.bool b)
  | int (i : Int) (t : Tok) : Den f (Value.int i t) (PyData.int i)
  | list {a : Addr} {vs : List Value} {n : Nat} {ds : List PyData} : f a = some (lstO vs n) → DenAll f vs ds → Den f (Value.ref a) (PyData.list ds)
  | tuple {a : Addr} {vs : List Value} {n : Nat} {ds : List PyData} : f a = some (tupO vs n) → DenAll f vs ds → Den f (Value.ref a) (PyData.tuple ds)
inductive DenAll (f : Frz) : List Value → List PyData → Prop
  | nil : DenAll f [] []
  | cons {v : Value} {vs : List Value} {d : PyData} {ds : List PyData} : Den f v d → DenAll f vs ds → DenAll f (v :: vs) (d :: ds)
end

theorem Den.int_inv {f : Frz} {v : Value} {k : Int} (h : Den f v (.int k)) : ∃ t, v = .int k t := by cases h; exact ⟨_, rfl⟩
theorem Den.bool_inv {f : Frz} {v : Value} {k : Bool} (h : Den f v (.bool k)) : v = .bool k := by cases h; rfl
theorem Den.none_inv {f : Frz} {v : Value} (h : Den f v .none) : v = .none := by cases h; rfl
theorem Den.list_inv {f : Frz} {v : Value} {ds : List PyData} (h : Den f v (.list ds)) : ∃ a vs n, v = .ref a ∧ f a = some (lstO vs n) ∧ DenAll f vs ds := by
  cases h with | list h r => exact ⟨_, _, _, rfl, h, r⟩
theorem Den.tuple_inv {f : Frz} {v : Value} {ds : List PyData} (h : Den f v (.tuple ds)) : ∃ a vs n, v = .ref a ∧ f a = some (tupO vs n) ∧ DenAll f vs ds := by
  cases h with | tuple h r => exact ⟨_, _, _, rfl, h, r⟩

def Le (f g : Frz) : Prop := ∀ b o, f b = some o → g b = some o
theorem Le.refl {f : Frz} : Le f f := fun _ _ h => h
theorem Le.trans {f g h : Frz} (x : Le f g) (y : Le g h) : Le f h := fun b o e => y b o (x b o e)
/-- the frozen part lies in the heap -/
def InH (f : Frz) (h : Heap) : Prop := ∀ b o, f b = some o → h.get? b = some o

mutual
theorem Den.mono {f g : Frz} (hs : Le f g) : ∀ {v : Value} {d : PyData}, Den f v d → Den g v d
  | _, _, .none => .none
  | _, _, .bool b => .bool b
  | _, _, .int i t => .int i t
  | _, _, .list h r => .list (hs _ _ h) (DenAll.mono hs r)
  | _, _, .tuple h r => .tuple (hs _ _ h) (DenAll.mono hs r)
theorem DenAll.mono {f g : Frz} (hs : Le f g) : ∀ {vs : List Value} {ds : List PyData}, DenAll f vs ds → DenAll g vs ds
  | _, _, .nil => .nil
  | _, _, .cons h r => .cons (Den.mono hs h) (DenAll.mono hs r)
end
mutual
theorem Den.reads {f : Frz} {h : Heap} (hs : InH f h) : ∀ {v : Value} {d : PyData}, Den f v d → ∃ as, Reads h v d as
  | _, _, .none => ⟨_, .none⟩
  | _, _, .bool b => ⟨_, .bool b⟩
  | _, _, .int i t => ⟨_, .int i t⟩
  | _, _, .list hf r => by
    obtain ⟨as, q⟩ := DenAll.reads hs r
    exact ⟨_, .list (hs _ _ hf) rfl rfl (by simpa using q)⟩
  | _, _, .tuple hf r => by
    obtain ⟨as, q⟩ := DenAll.reads hs r
    exact ⟨_, .tuple (hs _ _ hf) rfl rfl (by simpa using q)⟩
theorem DenAll.reads {f : Frz} {h : Heap} (hs : InH f h) : ∀ {vs : List Value} {ds : List PyData}, DenAll f vs ds → ∃ as, ReadsAll h vs ds as
  | _, _, .nil => ⟨_, .nil⟩
  | _, _, .cons hd r => by
    obtain ⟨as, q⟩ := Den.reads hs hd
    obtain ⟨bs, p⟩ := DenAll.reads hs r
    exact ⟨_, .cons q p⟩
end
section
variable {f : Frz} {v : Value} {d : PyData} {vs ws : List Value} {ds es : List PyData}
theorem DenAll.length (h : DenAll f vs ds) : vs.length = ds.length := by
  induction vs generalizing ds with
  | nil => cases h; rfl
  | cons v vs ih => cases h with | cons _ r => rw [List.length_cons, List.length_cons, ih r]
theorem DenAll.append (h : DenAll f vs ds) (k : DenAll f ws es) : DenAll f (vs ++ ws) (ds ++ es) := by
  induction vs generalizing ds with
  | nil => cases h; exact k
  | cons v vs ih => cases h with | cons h r => exact .cons h (ih r)
theorem DenAll.one (h : Den f v d) : DenAll f [v] [d] := .cons h .nil
theorem DenAll.get (h : DenAll f vs ds) {k : Nat} {d : PyData} (hk : ds[k]? = some d) : ∃ v, vs[k]? = some v ∧ Den f v d := by
  induction vs generalizing ds k with
  | nil => cases h; simp at hk
  | cons v vs ih =>
    cases h with
    | cons h r =>
      cases k with
      | zero => simp at hk; subst hk; exact ⟨v, rfl, h⟩
      | succ k => exact ih r (by simpa using hk)
theorem DenAll.take (h : DenAll f vs ds) (k : Nat) : DenAll f (vs.take k) (ds.take k) := by
  induction vs generalizing ds k with
  | nil => cases h; simpa using DenAll.nil
  | cons v vs ih =>
    cases h with
    | cons h r =>
      cases k with
      | zero => exact .nil
      | succ k => exact .cons h (ih r k)
theorem DenAll.drop (h : DenAll f vs ds) (k : Nat) : DenAll f (vs.drop k) (ds.drop k) := by
  induction vs generalizing ds k with
  | nil => cases h; simpa using DenAll.nil
  | cons v vs ih =>
    cases h with
    | cons h r =>
      cases k with
      | zero => exact .cons h r
      | succ k => exact ih r k
theorem DenAll.set (h : DenAll f vs ds) (hd : Den f v d) (k : Nat) : DenAll f (vs.set k v) (ds.set k d) := by
  induction vs generalizing ds k with
  | nil => cases h; simpa using DenAll.nil
  | cons u vs ih =>
    cases h with
    | cons h r =>
      cases k with
      | zero => exact .cons hd r
      | succ k => exact .cons h (ih r k)
theorem DenAll.eraseIdx (h : DenAll f vs ds) (k : Nat) : DenAll f (vs.eraseIdx k) (ds.eraseIdx k) := by
  induction vs generalizing ds k with
  | nil => cases h; simpa using DenAll.nil
  | cons u vs ih =>
    cases h with
    | cons h r =>
      cases k with
      | zero => exact r
      | succ k => exact .cons h (ih r k)
end

/-- a world: the program's run ahead of the call -/
structure Wld where
  prog : Program
  w : World
  H0 : Heap
  mg : Str → Option Value
  mb : Str → Option Value
  g : H0.Ns mainGlobals mg
  b : H0.Ns builtinsNs mb
  lim : H0.NoLimit

/-- pure evaluation's step: the heap grows, the frozen part grows by new objects alone -/
structure Ext (g : Frz) (s : Shared) (g' : Frz) (s' : Shared) : Prop where
  same : ∃ h tk, s' = { s with heap := h, toks := tk }
  keep : ∀ b o, s.heap.get? b = some o → s'.heap.get? b = some o
  old : ∀ b o, s.heap.get? b = some o → g' b = g b
  le : Le g g'
  fz : InH g' s'.heap
theorem Ext.refl {g : Frz} {s : Shared} (h : InH g s.heap) : Ext g s g s := ⟨⟨_, _, rfl⟩, fun _ _ e => e, fun _ _ _ => rfl, .refl, h⟩
theorem Ext.trans {g g1 g2 : Frz} {s s1 s2 : Shared} (x : Ext g s g1 s1) (y : Ext g1 s1 g2 s2) : Ext g s g2 s2 := by
  obtain ⟨h1, t1, e1⟩ := x.same
  obtain ⟨h2, t2, e2⟩ := y.same
  exact ⟨⟨h2, t2, by rw [e2, e1]⟩, fun b o e => y.keep b o (x.keep b o e), fun b o e => (y.old b o (x.keep b o e)).trans (x.old b o e), x.le.trans y.le, y.fz⟩
theorem Ext.toks {g : Frz} {s : Shared} (h : InH g s.heap) (t : Nat) : Ext g s g { s with toks := t } := ⟨⟨_, _, rfl⟩, fun _ _ e => e, fun _ _ _ => rfl, .refl, h⟩
theorem Ext.heap {g : Frz} {s : Shared} (h : InH g s.heap) {h' : Heap} {t : Nat} (hk : ∀ b o, s.heap.get? b = some o → h'.get? b = some o) : Ext g s g { s with heap := h', toks := t } :=
  ⟨⟨_, _, rfl⟩, hk, fun _ _ _ => rfl, .refl, fun b o e => hk b o (h b o e)⟩

theorem get_size_none (h : Heap) : h.get? h.objs.size = none := by
  cases e : h.get? h.objs.size with
  | none => rfl
  | some o => exact absurd (Heap.lt_size e) (Nat.lt_irrefl _)

/-- freeze a new object -/
def frz (g : Frz) (a : Addr) (o : Obj) : Frz := fun b => if b = a then some o else g b
theorem frz_self {g : Frz} {a : Addr} {o : Obj} : frz g a o a = some o := by simp [frz]
theorem frz_ne {g : Frz} {a b : Addr} {o : Obj} (h : b ≠ a) : frz g a o b = g b := by simp [frz, h]
theorem frz_le {g : Frz} {a : Addr} {o : Obj} (h : g a = none) : Le g (frz g a o) := fun b x e => by
  by_cases hb : b = a
  · subst hb; rw [h] at e; cases e
  · rw [frz_ne hb]; exact e
theorem Ext.freeze {g g1 : Frz} {s s1 : Shared} (x : Ext g s g1 s1) {a : Addr} {o : Obj} (hn : s.heap.get? a = none) (ho : s1.heap.get? a = some o) (hg : g1 a = none) : Ext g s (frz g1 a o) s1 :=
  ⟨x.same, x.keep, fun b p e => by
    have hb : b ≠ a := fun q => by subst q; rw [hn] at e; cases e
    rw [frz_ne hb]; exact x.old b p e, x.le.trans (frz_le hg), fun b p e => by
    by_cases hb : b = a
    · subst hb; rw [frz_self] at e; cases e; exact ho
    · rw [frz_ne hb] at e; exact x.fz b p e⟩

/-- a view: where an expression is evaluated, and what is known of the state -/
structure Vw (W : Wld) where
  A : Around
  env : Env
  k : Nat
  I : Frz → Shared → Prop
  stable : ∀ {g s g' s'}, I g s → Ext g s g' s' → I g' s'
  fz : ∀ {g s}, I g s → InH g s.heap
  top : ∀ {g s}, I g s → ∀ b o, W.H0.get? b = some o → s.heap.get? b = some o
  hnd : A.handled = none
  dep : A.depth + k < recursionLimit
  uni : A.units + 4 * k + 80 < cLine
  kind : env.scope.kind = .function
  glb : env.globals = mainGlobals
  blt : env.builtins = builtinsNs

def noE : Value → Shared → Prop := fun _ _ => False

variable {W : Wld}
/-- what a step gives -/
abbrev Gives (g : Frz) (s : Shared) (P : Frz → Shared → Value → Prop) : Value → Shared → Prop := fun v s' => ∃ g', Ext g s g' s' ∧ P g' s' v

/-- the expression gives the datum -/
def Ev (V : Vw W) (e : Expr) (d : PyData) : Prop := ∀ g s, V.I g s → wpAny (model W.prog W.w) V.A (eval e V.env) (fun v s' => ∃ g', Ext g s g' s' ∧ Den g' v d) noE s
/-- the expression gives a new list that nothing else holds -/
def EvF (V : Vw W) (e : Expr) (ds : List PyData) : Prop := ∀ g s, V.I g s → wpAny (model W.prog W.w) V.A (eval e V.env)
  (fun v s' => ∃ g' a vs n, Ext g s g' s' ∧ v = .ref a ∧ s'.heap.get? a = some (lstO vs n) ∧ DenAll g' vs ds ∧ s.heap.get? a = none ∧ g' a = none) noE s
/-- the expression gives a list to read -/
def EvL (V : Vw W) (e : Expr) (ds : List PyData) : Prop := ∀ g s, V.I g s → wpAny (model W.prog W.w) V.A (eval e V.env)
  (fun v s' => ∃ g' a vs n, Ext g s g' s' ∧ v = .ref a ∧ s'.heap.get? a = some (lstO vs n) ∧ DenAll g' vs ds) noE s
/-- the test comes out so -/
def Ts (V : Vw W) (e : Expr) (b : Bool) : Prop := ∀ g s, V.I g s → wpAny (model W.prog W.w) V.A (isTrue e V.env (eval e V.env)) (fun c s' => c = b ∧ ∃ g', Ext g s g' s') noE s

theorem EvF.ev {V : Vw W} {e : Expr} {ds : List PyData} (h : EvF V e ds) : Ev V e (.list ds) := fun g s i =>
  wpAny_mono (h g s i) (fun v s' ⟨g', a, vs, n, x, e, ho, hd, hn, hg⟩ => ⟨frz g' a (lstO vs n), x.freeze hn ho hg, e ▸ .list frz_self (hd.mono (frz_le hg))⟩) fun _ _ e => e
theorem Ev.evL {V : Vw W} {e : Expr} {ds : List PyData} (h : Ev V e (.list ds)) : EvL V e ds := fun g s i =>
  wpAny_mono (h g s i) (fun v s' ⟨g', x, hd⟩ => by
    cases hd with
    | list hf r => exact ⟨g', _, _, _, x, rfl, x.fz _ _ hf, r⟩) fun _ _ e => e

theorem Ev_const_int {V : Vw W} {i : Int} {k : Nat} {p : Pos} : Ev V (.Constant (.int i) k p) (.int i) := fun g s i' =>
  wpAny_Constant_int ⟨g, Ext.toks (V.fz i') _, .int _ _⟩
theorem Ev_const_none {V : Vw W} {k : Nat} {p : Pos} : Ev V (.Constant .none k p) .none := fun g s i' =>
  wpAny_pure ⟨g, Ext.refl (V.fz i'), .none⟩
theorem Ev_const_bool {V : Vw W} {b : Bool} {k : Nat} {p : Pos} : Ev V (.Constant (.bool b) k p) (.bool b) := fun g s i' =>
  wpAny_pure ⟨g, Ext.refl (V.fz i'), .bool b⟩

/-- a binary operation on data -/
def Op2 (V : Vw W) (op : Operator) (a b d : PyData) : Prop := ∀ g s va vb, V.I g s → Den g va a → Den g vb b → wpAny (model W.prog W.w) V.A (binaryOp op va vb) (fun v s' => ∃ g', Ext g s g' s' ∧ Den g' v d) noE s
theorem Ev_bin {V : Vw W} {l r : Expr} {op : Operator} {p : Pos} {a b d : PyData} (hl : Ev V l a) (hr : Ev V r b) (ho : Op2 V op a b d) : Ev V (.BinOp l op r p) d := fun g s i =>
  wpAny_BinOp (wpAny_mono (hl g s i) (fun va s1 ⟨g1, x1, d1⟩ => wpAny_mono (hr g1 s1 (V.stable i x1)) (fun vb s2 ⟨g2, x2, d2⟩ =>
    wpAny_mono (ho g2 s2 va vb (V.stable (V.stable i x1) x2) (d1.mono x2.le) d2) (fun v s3 ⟨g3, x3, d3⟩ => ⟨g3, (x1.trans x2).trans x3, d3⟩) fun _ _ e => e) fun _ _ e => e) fun _ _ e => e)

section
variable {V : Vw W} {a b : Int}
theorem Op2_of_int {op : Operator} {c : Int} (h : ∀ t u (s : Shared) (Q : Value → Shared → Prop), Q (.int c s.toks) { s with toks := s.toks + 1 } → wpAny (model W.prog W.w) V.A (binaryOp op (.int a t) (.int b u)) Q noE s) :
    Op2 V op (.int a) (.int b) (.int c) := fun g s va vb i ha hb => by
  cases ha; cases hb
  exact h _ _ _ _ ⟨g, Ext.toks (V.fz i) _, .int _ _⟩
theorem op_add : Op2 V .Add (.int a) (.int b) (.int (a + b)) := Op2_of_int fun _ _ _ _ h => add_int h
theorem op_sub : Op2 V .Sub (.int a) (.int b) (.int (a - b)) := Op2_of_int fun _ _ _ _ h => sub_int h
theorem op_mul (hm : IntMulOk a b) : Op2 V .Mult (.int a) (.int b) (.int (a * b)) := Op2_of_int fun _ _ _ _ h => mul_int h hm
theorem op_and : Op2 V .BitAnd (.int a) (.int b) (.int (Builtin.bitAnd a b)) := Op2_of_int fun _ _ _ _ h => and_int h
theorem op_or : Op2 V .BitOr (.int a) (.int b) (.int (Builtin.bitOr a b)) := Op2_of_int fun _ _ _ _ h => or_int h
theorem op_rshift (hb : 0 ≤ b) : Op2 V .RShift (.int a) (.int b) (.int (a.fdiv (2 ^ b.toNat))) := Op2_of_int fun _ _ _ _ h => rshift_int hb h
theorem op_floordiv (hb : b ≠ 0) (hs : b.natAbs < 1073741824) : Op2 V .FloorDiv (.int a) (.int b) (.int (a.fdiv b)) := Op2_of_int fun _ _ _ _ h => floordiv_int hb h (Or.inl (PyProof.noPylong_small hs))
theorem op_mod (hb : b ≠ 0) : Op2 V .Mod (.int a) (.int b) (.int (a.fmod b)) := Op2_of_int fun _ _ _ _ h => mod_int' hb h
theorem op_pow (hn : 0 ≤ b) (hsz : (Builtin.Int.intBits a : Int) * b ≤ 2 ^ 27) : Op2 V .Pow (.int a) (.int b) (.int (a ^ b.toNat)) := Op2_of_int fun _ _ _ _ h => pow_int hn hsz h
end
end Mine
namespace Mine
open PySem PySem.W PyProof.Rows PySem.Calls
variable {W : Wld}

/-- a global name's value -/
def GlobIs (V : Vw W) (x : Str) (v : Value) : Prop := V.env.kindOf x = some .globalImplicit ∧ (W.mg x = some v ∨ (W.mg x = none ∧ W.mb x = some v))
theorem glob_name {V : Vw W} {x : Str} {v : Value} {p : Pos} (G : GlobIs V x v) {g : Frz} {s : Shared} (i : V.I g s) {Q : Value → Shared → Prop} {E : Value → Shared → Prop} (h : Q v s)
    (hd : (x == ("__debug__" : Str)) = false) : wpAny (model W.prog W.w) V.A (eval (.Name x p) V.env) Q E s := by
  obtain ⟨hk, hv⟩ := G
  refine Name_function_global V.kind hk ?_ hd
  have hg : s.heap.Ns V.env.globals W.mg := by rw [V.glb]; exact W.g.keeps (V.top i)
  rcases hv with hv | ⟨hm, hv⟩
  · exact loadGlobal_global hg hv h
  · exact loadGlobal_builtin hg hm (by rw [V.blt]; exact W.b.keeps (V.top i)) hv h

/-- expressions one behind the other -/
def EvAll (V : Vw W) (p : Pos) (es : List Expr) (ds : List PyData) : Prop := ∀ g s, V.I g s → wpAny (model W.prog W.w) V.A (spliced (backTo p (starEach es V.env))) (fun vs s' => ∃ g', Ext g s g' s' ∧ DenAll g' vs ds) noE s
theorem EvAll_nil {V : Vw W} {p : Pos} : EvAll V p [] [] := fun g s i => args_nil ⟨g, Ext.refl (V.fz i), .nil⟩
theorem EvAll_cons {V : Vw W} {p : Pos} {e : Expr} {es : List Expr} {d : PyData} {ds : List PyData} (h : Ev V e d) (hs : EvAll V p es ds)
    (he : starEach (e :: es) V.env = (false, eval e V.env) :: starEach es V.env := by rfl) : EvAll V p (e :: es) (d :: ds) := fun g s i =>
  args_cons (wpAny_mono (h g s i) (fun v s1 ⟨g1, x1, d1⟩ => wpAny_mono (hs g1 s1 (V.stable i x1)) (fun vs s2 ⟨g2, x2, d2⟩ => ⟨g2, x1.trans x2, .cons (d1.mono x2.le) d2⟩) fun _ _ e => e) fun _ _ e => e) he

theorem Ext.push {g : Frz} {s : Shared} (h : InH g s.heap) (o : Obj) {t : Nat} : Ext g s g { s with heap := s.heap.push o, toks := t } := Ext.heap h fun _ _ e => Heap.get?_push_of_some _ e
theorem InH.size {g : Frz} {h : Heap} (hs : InH g h) : g h.objs.size = none := by
  cases e : g h.objs.size with
  | none => rfl
  | some o => have := hs _ _ e; rw [get_size_none] at this; cases this

/-- the size lid -/
abbrev Small (n : Nat) : Prop := n ≤ sizeLine

theorem EvF_List {V : Vw W} {es : List Expr} {p : Pos} {ds : List PyData} (h : EvAll V p es ds) (hz : Small ds.length) : EvF V (.List es p) ds := fun g s i =>
  List_ (wpAny_mono (h g s i) (fun vs s1 ⟨g1, x1, d1⟩ => wpAny_newObj_type (by
    refine ⟨g1, s1.heap.objs.size, vs, 0, x1.trans (Ext.push x1.fz _ (t := s1.toks)), rfl, Heap.get?_push_size _ rfl, d1, ?_, x1.fz.size⟩
    cases e : s.heap.get? s1.heap.objs.size with
    | none => rfl
    | some o => have := x1.keep _ _ e; rw [get_size_none] at this; cases this) (by show vs.toArray.size ≤ sizeLine; rw [List.size_toArray, d1.length]; exact hz)) fun _ _ e => e)

theorem Ev_Tuple {V : Vw W} {es : List Expr} {k : Nat} {p : Pos} {ds : List PyData} (h : EvAll V p es ds) (hz : Small ds.length) : Ev V (.Tuple es k p) (.tuple ds) := fun g s i =>
  Tuple_ (wpAny_mono (h g s i) (fun vs s1 ⟨g1, x1, d1⟩ => wpAny_newObj_type (by
    have hn : s.heap.get? s1.heap.objs.size = none := by
      cases e : s.heap.get? s1.heap.objs.size with
      | none => rfl
      | some o => have := x1.keep _ _ e; rw [get_size_none] at this; cases this
    exact ⟨frz g1 s1.heap.objs.size (tupO vs 0), (x1.trans (Ext.push x1.fz _ (t := s1.toks))).freeze hn (Heap.get?_push_size _ rfl) x1.fz.size, .tuple frz_self (d1.mono (frz_le x1.fz.size))⟩)
    (by show vs.toArray.size ≤ sizeLine; rw [List.size_toArray, d1.length]; exact hz)) fun _ _ e => e)

theorem isL_of {h : Heap} {a : Addr} {vs : List Value} {n : Nat} (e : h.get? a = some (lstO vs n)) : h.IsList a vs.toArray := ⟨_, e, rfl, n, rfl⟩

/-- an item of a list -/
theorem Ev_item {V : Vw W} {value slice : Expr} {p : Pos} {ds : List PyData} {k : Int} {d : PyData} (hv : EvL V value ds) (hi : Ev V slice (.int k)) (h0 : 0 ≤ k) (h63 : k < 2 ^ 63) (hd : ds[k.toNat]? = some d)
    (hs : ∀ o i, subscripted slice false o i = operate [o, i] (getItem o i) := by intro _ _; rfl) : Ev V (.Subscript value slice p) d := fun g s i =>
  Subscript_ (wpAny_mono (hv g s i) (fun o s1 ⟨g1, a, vs, n, x1, eo, ho, d1⟩ => wpAny_mono (hi g1 s1 (V.stable i x1)) (fun iv s2 ⟨g2, x2, d2⟩ => by
    subst eo
    cases d2
    obtain ⟨v, hv', hd'⟩ := (d1.mono x2.le).get hd
    have hl := isL_of (x2.keep _ _ ho)
    exact tail_any hl.typeIs slot_list_getitem.lookup (wpAny_getItem_list hl h0 h63 (by simpa using hv') ⟨g2, x1.trans x2, hd'⟩) (hs _ _)) fun _ _ e => e) fun _ _ e => e)
theorem Ev_item_neg {V : Vw W} {value slice : Expr} {p : Pos} {ds : List PyData} {k : Int} {d : PyData} (hv : EvL V value ds) (hi : Ev V slice (.int k)) (h0 : k < 0) (h1 : -(ds.length : Int) ≤ k) (h63 : -(2 ^ 63) ≤ k) (hd : ds[(k + ds.length).toNat]? = some d)
    (hs : ∀ o i, subscripted slice false o i = operate [o, i] (getItem o i) := by intro _ _; rfl) : Ev V (.Subscript value slice p) d := fun g s i =>
  Subscript_ (wpAny_mono (hv g s i) (fun o s1 ⟨g1, a, vs, n, x1, eo, ho, d1⟩ => wpAny_mono (hi g1 s1 (V.stable i x1)) (fun iv s2 ⟨g2, x2, d2⟩ => by
    subst eo
    cases d2
    obtain ⟨v, hv', hd'⟩ := (d1.mono x2.le).get hd
    have hl := isL_of (x2.keep _ _ ho)
    have hz : vs.toArray.size = ds.length := by rw [List.size_toArray, d1.length]
    exact tail_any hl.typeIs slot_list_getitem.lookup (wpAny_getItem_list_neg hl h0 (by rw [hz]; exact h1) h63 (by rw [hz]; simpa using hv') ⟨g2, x1.trans x2, hd'⟩) (hs _ _)) fun _ _ e => e) fun _ _ e => e)

theorem Ev_neg {V : Vw W} {x : Expr} {p : Pos} {a : Int} (h : Ev V x (.int a)) : Ev V (.UnaryOp .USub x p) (.int (-a)) := fun g s i => by
  show wpAny _ _ (do let v ← eval x V.env; standAt p; holding [v] (unaryOp .USub v)) _ _ s
  refine wpAny_bind (wpAny_mono (h g s i) (fun v s1 ⟨g1, x1, d1⟩ => wpAny_bind (wpAny_standAt (wpAny_holding ?_))) fun _ _ e => e)
  cases d1
  exact neg_int ⟨g1, x1.trans (Ext.toks x1.fz _), .int _ _⟩

/-- a part of a slice -/
inductive EvPart (V : Vw W) : Option Expr → Option Int → Prop
  | none : EvPart V none none
  | some {e : Expr} {k : Int} : Ev V e (.int k) → EvPart V (some e) (some k)
theorem evPart_wp {V : Vw W} {e : Option Expr} {k : Option Int} (h : EvPart V e k) {g : Frz} {s : Shared} (i : V.I g s) : wpAny (model W.prog W.w) V.A (evalPart e V.env) (fun v s' => ∃ g', Ext g s g' s' ∧ IsPart v k) noE s := by
  cases h with
  | none => exact wpAny_pure ⟨g, Ext.refl (V.fz i), .none⟩
  | some h => exact wpAny_mono (h g s i) (fun v s' ⟨g', x, d⟩ => ⟨g', x, by cases d; exact .int _ _⟩) fun _ _ e => e

/-- a slice's bounds and the slice -/
def clipLo (lo : Option Int) (n : Nat) : Nat := match lo with
  | none => 0
  | some i => (max 0 (min (if i < 0 then i + n else i) n)).toNat
def clipHi (hi : Option Int) (n : Nat) : Nat := match hi with
  | none => n
  | some i => (max 0 (min (if i < 0 then i + n else i) n)).toNat
def slc {α : Type} (lo hi : Option Int) (l : List α) : List α := (l.drop (clipLo lo l.length)).take (clipHi hi l.length - clipLo lo l.length)
theorem slice_bounds (lo hi : Option Int) (n : Nat) : sliceBounds lo hi none n = ((clipLo lo n : Int), (clipHi hi n : Int), 1) := by
  simp only [sliceBounds, Option.getD_none, show (1 : Int) > 0 by decide, if_true, clipLo, clipHi]
  cases lo <;> cases hi <;> simp <;> omega
theorem clipHi_le (hi : Option Int) (n : Nat) : clipHi hi n ≤ n := by
  unfold clipHi; split
  · exact Nat.le_refl _
  · omega
theorem clipLo_le (hi : Option Int) (n : Nat) : clipLo hi n ≤ n := by
  unfold clipLo; split
  · exact Nat.zero_le _
  · omega
theorem slicePick_slc (vs : List Value) (lo hi : Option Int) : slicePick vs.toArray lo hi none = (slc lo hi vs).toArray := by
  have hb := clipHi_le hi vs.length
  by_cases hab : clipLo lo vs.length ≤ clipHi hi vs.length
  · have e := slicePick_run vs.toArray (clipLo lo vs.length) (clipHi hi vs.length) (by simpa using hb) hab
    have e2 : slicePick vs.toArray lo hi none = slicePick vs.toArray (some (clipLo lo vs.length : Int)) (some (clipHi hi vs.length : Int)) none := by
      unfold slicePick
      rw [slice_bounds, slice_bounds]
      have h1 : clipLo (some ((clipLo lo vs.length : Nat) : Int)) vs.toArray.size = clipLo lo vs.length := by
        have := clipLo_le lo vs.length
        unfold clipLo at this ⊢
        simp only [List.size_toArray]
        omega
      have h2 : clipHi (some ((clipHi hi vs.length : Nat) : Int)) vs.toArray.size = clipHi hi vs.length := by
        unfold clipHi at hb ⊢
        simp only [List.size_toArray]
        omega
      rw [h1, h2, List.size_toArray]
    rw [e2, e]
    simp [slc]
  · unfold slicePick
    rw [slice_bounds]
    have hz : clipHi hi vs.length - clipLo lo vs.length = 0 := by omega
    simp only [slc, List.size_toArray, hz, List.take_zero]
    have hr : sliceRange ((clipLo lo vs.length : Nat) : Int) ((clipHi hi vs.length : Nat) : Int) 1 = [] := by
      unfold sliceRange
      have : ¬ ((clipLo lo vs.length : Nat) : Int) < ((clipHi hi vs.length : Nat) : Int) := by omega
      simp [this]
    rw [hr]; rfl
theorem DenAll.slc {f : Frz} {vs : List Value} {ds : List PyData} (h : DenAll f vs ds) (lo hi : Option Int) : DenAll f (slc lo hi vs) (slc lo hi ds) := by
  unfold Mine.slc; rw [h.length]; exact (h.drop _).take _

theorem EvF_slice {V : Vw W} {value : Expr} {lo hi : Option Expr} {p p' : Pos} {ds : List PyData} {a b : Option Int} (hv : EvL V value ds) (hl : EvPart V lo a) (hh : EvPart V hi b) (hz : Small ds.length) :
    EvF V (.Subscript value (.Slice lo hi none p') p) (slc a b ds) := fun g s i =>
  Subscript_ (wpAny_mono (hv g s i) (fun o s1 ⟨g1, l, vs, n, x1, eo, ho, d1⟩ => wpAny_Slice (wpAny_mono (evPart_wp hl (V.stable i x1)) (fun v1 s2 ⟨g2, x2, p1⟩ => wpAny_mono (evPart_wp hh (V.stable (V.stable i x1) x2)) (fun v2 s3 ⟨g3, x3, p2⟩ => by
    refine wpAny_pure ?_
    subst eo
    have X := (x1.trans x2).trans x3
    have ho3 := x3.keep _ _ (x2.keep _ _ ho)
    have hl3 := isL_of ho3
    refine tail_any (ops := [.ref s3.heap.objs.size, .ref l]) (Heap.IsList.typeIs (s := { s3 with heap := s3.heap.push { cls := .type "slice", data := .fields #[v1, v2, .none] } }) (hl3.push _)) list_getitem_lookup
      (wpAny_getItem_list_slice (hl3.push _) (Heap.IsSliceOf.new ..) p1 p2 .none (by simp) ?_ (by rw [List.size_toArray, d1.length]; exact hz)) (by with_unfolding_all rfl)
    rw [slicePick_slc]
    have hn : s.heap.get? (s3.heap.push { cls := .type "slice", data := .fields #[v1, v2, .none] }).objs.size = none := by
      cases e : s.heap.get? (s3.heap.push { cls := .type "slice", data := .fields #[v1, v2, .none] }).objs.size with
      | none => rfl
      | some o => have := Heap.get?_push_of_some { cls := .type "slice", data := .fields #[v1, v2, .none] } (X.keep _ _ e); rw [get_size_none] at this; cases this
    have hg : g3 (s3.heap.push { cls := .type "slice", data := .fields #[v1, v2, .none] }).objs.size = none := by
      cases e : g3 (s3.heap.push { cls := .type "slice", data := .fields #[v1, v2, .none] }).objs.size with
      | none => rfl
      | some o => have := Heap.get?_push_of_some { cls := .type "slice", data := .fields #[v1, v2, .none] } (X.fz _ _ e); rw [get_size_none] at this; cases this
    refine ⟨g3, _, _, 0, X.trans (Ext.heap X.fz (t := s3.toks) fun b o e => Heap.get?_push_of_some _ (Heap.get?_push_of_some _ e)), rfl, Heap.get?_push_size _ rfl, ((d1.mono x2.le).mono x3.le).slc a b, hn, hg⟩) fun _ _ e => e) fun _ _ e => e)) fun _ _ e => e)

/-- list + list -/
theorem EvF_add {V : Vw W} {l r : Expr} {p : Pos} {ds es : List PyData} (hl : EvL V l ds) (hr : EvL V r es) (hz : Small (ds.length + es.length)) : EvF V (.BinOp l .Add r p) (ds ++ es) := fun g s i =>
  wpAny_BinOp (wpAny_mono (hl g s i) (fun va s1 ⟨g1, a, vs, n, x1, ea, ho, d1⟩ => wpAny_mono (hr g1 s1 (V.stable i x1)) (fun vb s2 ⟨g2, b, ws, k, x2, eb, hp, d2⟩ => by
    subst ea eb
    have X := x1.trans x2
    refine P.add_list (x2.keep _ _ ho) hp ?_ (by simp only [List.size_toArray, d1.length, d2.length]; exact hz)
    refine ⟨g2, _, vs ++ ws, 0, X.trans (Ext.push X.fz _ (t := s2.toks)), rfl, ?_, (d1.mono x2.le).append d2, ?_, X.fz.size⟩
    · rw [Heap.get?_push_size _ rfl]; simp
    · cases e : s.heap.get? s2.heap.objs.size with
      | none => rfl
      | some o => have := X.keep _ _ e; rw [get_size_none] at this; cases this) fun _ _ e => e) fun _ _ e => e)

/-- list * int -/
theorem foldl_rep {α : Type} (vs : List α) (k : Nat) : ∀ acc : Array α, List.foldl (fun x1 x2 => x1 ++ x2) acc (List.replicate k vs.toArray) = acc ++ (List.replicate k vs).flatten.toArray := by
  induction k with
  | zero => intro acc; simp
  | succ k ih => intro acc; rw [List.replicate_succ, List.foldl_cons, ih, List.replicate_succ]; simp [Array.append_assoc]
theorem DenAll.rep {f : Frz} {vs : List Value} {ds : List PyData} (h : DenAll f vs ds) (k : Nat) : DenAll f (List.replicate k vs).flatten (List.replicate k ds).flatten := by
  induction k with
  | zero => exact .nil
  | succ k ih => rw [List.replicate_succ, List.replicate_succ, List.flatten_cons, List.flatten_cons]; exact h.append ih
theorem EvF_mul {V : Vw W} {l r : Expr} {p : Pos} {ds : List PyData} {k : Int} (hl : EvL V l ds) (hr : Ev V r (.int k)) (h0 : -(2 ^ 63) ≤ k) (h1 : k < 2 ^ 63) (hz : ds.length * k.toNat ≤ 2 ^ 24) : EvF V (.BinOp l .Mult r p) (List.replicate k.toNat ds).flatten := fun g s i =>
  wpAny_BinOp (wpAny_mono (hl g s i) (fun va s1 ⟨g1, a, vs, n, x1, ea, ho, d1⟩ => wpAny_mono (hr g1 s1 (V.stable i x1)) (fun vb s2 ⟨g2, x2, d2⟩ => by
    subst ea
    obtain ⟨u, rfl⟩ := d2.int_inv
    have X := x1.trans x2
    have hl := x2.keep _ _ ho
    refine wpAny_binaryOp_repeat_ref (T := "list") (U := "int") (by decide) ⟨_, hl, rfl⟩ (fun s' => typeIs_int s' k u) noFill_list_mul F.fills_int_mul F.slot_int_rmul repeat_list F.slot_int_index.lookup
      (call_meets F.slot_int_rmul (typeIs_int s2 k u) F.entry_int_rmul (F.args_int_rmul_2 _ _) (int___rmul___int_list k u a vs.toArray n)
      ⟨hl, rfl, ⟨_, hl, rfl⟩, call_meets F.slot_list_mul ⟨_, hl, rfl⟩ F.entry_list_mul (F.args_list_mul_2 _ _)
        (AutoListH.list___mul___list_int_3 a vs.toArray n k u (by simp [Builtin.List.listFitsIndex]; omega) (by simp only [List.size_toArray, d1.length]; omega) (by simp [Builtin.List.listTooLong, sizeLine, d1.length]; omega))
        ⟨hl, ?_⟩⟩)
    have e : List.foldl (fun x1 x2 => x1 ++ x2) #[] (List.replicate (if vs.toArray.isEmpty = true then 0 else k.toNat) vs.toArray) = (List.replicate k.toNat vs).flatten.toArray := by
      by_cases hv : vs = []
      · subst hv; simp
      · rw [foldl_rep]; simp [hv]
    rw [e]
    refine ⟨g2, _, _, 0, X.trans (Ext.push X.fz _ (t := s2.toks)), rfl, Heap.get?_push_size _ rfl, (d1.mono x2.le).rep _, ?_, X.fz.size⟩
    cases e : s.heap.get? s2.heap.objs.size with
    | none => rfl
    | some o => have := X.keep _ _ e; rw [get_size_none] at this; cases this) fun _ _ e => e) fun _ _ e => e)
end Mine
namespace Mine
open PySem PySem.W PyProof.Rows PySem.Calls
variable {W : Wld}

theorem DenAll.ints {f : Frz} : ∀ {vs : List Value} {ns : List Int}, DenAll f vs (ns.map PyData.int) → IntsAre vs ns
  | _, [], h => by cases h; exact .nil
  | _, n :: ns, h => by
    cases h with
    | cons h r => obtain ⟨t, rfl⟩ := h.int_inv; exact .cons n t r.ints
theorem DenAll.ofInts {f : Frz} : ∀ {vs : List Value} {ns : List Int}, IntsAre vs ns → DenAll f vs (ns.map PyData.int)
  | _, _, .nil => .nil
  | _, _, .cons n t r => .cons (.int n t) (DenAll.ofInts r)

/-- a comparison's answer on data -/
def Cmp (V : Vw W) (op : CmpOp) (a b : PyData) (r : Bool) : Prop := ∀ g s va vb, V.I g s → Den g va a → Den g vb b → wpAny (model W.prog W.w) V.A (compareOp op va vb) (fun v s' => v = .bool r ∧ ∃ g', Ext g s g' s') noE s

theorem Ev_cmp {V : Vw W} {l r : Expr} {op : CmpOp} {p : Pos} {a b : PyData} {c : Bool} (hl : Ev V l a) (hr : Ev V r b) (ho : Cmp V op a b c) (hm : behindInMarks op r = false := by with_unfolding_all rfl) :
    Ev V (.Compare l [op] [r] p) (.bool c) := fun g s i =>
  wpAny_Compare1 (wpAny_mono (hl g s i) (fun va s1 ⟨g1, x1, d1⟩ => wpAny_mono (hr g1 s1 (V.stable i x1)) (fun vb s2 ⟨g2, x2, d2⟩ =>
    wpAny_mono (ho g2 s2 va vb (V.stable (V.stable i x1) x2) (d1.mono x2.le) d2) (fun v s3 ⟨e, g3, x3⟩ => ⟨g3, (x1.trans x2).trans x3, e ▸ .bool c⟩) fun _ _ e => e) fun _ _ e => e) fun _ _ e => e) hm
theorem Ts_cmp {V : Vw W} {l r : Expr} {op : CmpOp} {p : Pos} {a b : PyData} {c : Bool} (hl : Ev V l a) (hr : Ev V r b) (ho : Cmp V op a b c) (hm : behindInMarks op r = false := by with_unfolding_all rfl) :
    Ts V (.Compare l [op] [r] p) c := fun g s i =>
  wpAny_isTrue_Compare1 (wpAny_mono (hl g s i) (fun va s1 ⟨g1, x1, d1⟩ => wpAny_mono (hr g1 s1 (V.stable i x1)) (fun vb s2 ⟨g2, x2, d2⟩ =>
    wpAny_mono (ho g2 s2 va vb (V.stable (V.stable i x1) x2) (d1.mono x2.le) d2) (fun v s3 ⟨e, g3, x3⟩ => by
      subst e; exact wpAny_truthy_bool ⟨rfl, g3, (x1.trans x2).trans x3⟩) fun _ _ e => e) fun _ _ e => e) fun _ _ e => e) hm

theorem cmp_lt_int {V : Vw W} {a b : Int} : Cmp V .Lt (.int a) (.int b) (decide (a < b)) := fun g s va vb i ha hb => by
  cases ha; cases hb; exact lt_int ⟨rfl, g, Ext.refl (V.fz i)⟩
theorem cmp_gt_int {V : Vw W} {a b : Int} : Cmp V .Gt (.int a) (.int b) (decide (a > b)) := fun g s va vb i ha hb => by
  cases ha; cases hb; exact gt_int ⟨rfl, g, Ext.refl (V.fz i)⟩

/-- a pair of ints -/
abbrev pr (x : Int × Int) : PyData := .tuple [.int x.1, .int x.2]
def pairLt (x y : Int × Int) : Bool := if x.1 = y.1 then decide (x.2 < y.2) else decide (x.1 < y.1)
theorem isInst_tuple {M : Model} {A : Around} {E : Value → Shared → Prop} {s : Shared} {a : Addr} {vs : List Value} {n : Nat} {Q : Bool → Shared → Prop} (ho : s.heap.get? a = some (tupO vs n)) (h : Q true s) :
    wpAny M A (isInstance (.ref a) (.type "tuple")) Q E s :=
  wpAny_isInstance (T := "tuple") (b := true) ⟨_, ho, rfl⟩ (by rw [isSubtype_type]; kernel_rfl) h
theorem lt_pair {A : Around} {E : Value → Shared → Prop} {s : Shared} {a b : Addr} {n m : Nat} {x y : Int × Int} {t1 t2 u1 u2 : Tok} {Q : Value → Shared → Prop} (hu : A.units < cLine)
    (ha : s.heap.get? a = some (tupO [.int x.1 t1, .int x.2 t2] n)) (hb : s.heap.get? b = some (tupO [.int y.1 u1, .int y.2 u2] m)) (h : Q (.bool (pairLt x y)) s) :
    wpAny (model W.prog W.w) A (compareOp .Lt (.ref a) (.ref b)) Q E s := by
  show wpAny _ _ (richCompare .Lt (.ref a) (.ref b)) Q E s
  refine wpAny_richCompare_same_room (op := .Lt) (T := "tuple") ⟨_, ha, rfl⟩ ⟨_, hb, rfl⟩ F.slot_tuple_lt
    (wpAny_call_entry F.slot_tuple_lt ⟨_, ha, rfl⟩ F.entry_tuple_lt ?_ (F.args_tuple_lt_2 _ _)) hu
  show wpAny _ _ (do
    if !(← isInstance (.ref b) (.type "tuple")) then return ← ret .notImplemented
    let xs ← Builtin.Tuple.tupleItemsOf (.ref a)
    let ys ← Builtin.Tuple.tupleItemsOf (.ref b)
    for (x, y) in xs.toList.zip ys.toList do
      if !(← eqBool x y) then
        rule "tuple.compare.by-the-first-pair-that-differs"; return ← ret (← richCompare .Lt x y)
    ret (Builtin.Tuple.tupleCompareSizes .Lt xs.size ys.size)) _ _ _
  refine wpAny_bind (isInst_tuple hb ?_)
  have hti : ∀ {c : Addr} {vs : List Value} {k : Nat} {Q : Array Value → Shared → Prop}, s.heap.get? c = some (tupO vs k) → Q vs.toArray s → wpAny (model W.prog W.w) A.in1 (Builtin.Tuple.tupleItemsOf (.ref c)) Q E s := fun {c vs k Q} hc hq => by
    unfold Builtin.Tuple.tupleItemsOf
    exact wpAny_bind (wpAny_seqItems hc rfl (wpAny_pure hq))
  simp only [Bool.not_true, Bool.false_eq_true, if_false]
  refine wpAny_bind (hti ha (wpAny_bind (hti hb ?_)))
  simp only [List.zip_cons_cons, List.zip_nil_right, List.forIn_cons, List.forIn_nil]
  by_cases h1 : x.1 = y.1
  · by_cases h2 : x.2 = y.2
    · refine wpAny_bind (wpAny_bind (wpAny_bind (wpAny_eqBool_int ?_)))
      rw [beq_iff_eq.mpr h1]
      simp only [Bool.not_true, Bool.false_eq_true, if_false]
      refine wpAny_pure (wpAny_bind (wpAny_bind (wpAny_eqBool_int ?_)))
      rw [beq_iff_eq.mpr h2]
      simp only [Bool.not_true, Bool.false_eq_true, if_false]
      refine wpAny_pure (wpAny_pure ?_)
      refine wpAny_pure ⟨_, rfl, by simp [Builtin.Tuple.tupleCompareSizes], ?_⟩
      have e : pairLt x y = false := by unfold pairLt; rw [if_pos h1]; simp [h2]
      rw [e] at h
      exact h
    · refine wpAny_bind (wpAny_bind (wpAny_bind (wpAny_eqBool_int ?_)))
      rw [beq_iff_eq.mpr h1]
      simp only [Bool.not_true, Bool.false_eq_true, if_false]
      refine wpAny_pure (wpAny_bind (wpAny_bind (wpAny_eqBool_int ?_)))
      rw [beq_eq_false_iff_ne.mpr h2]
      simp only [Bool.not_false, if_true]
      refine wpAny_bind (wpAny_rule (wpAny_bind ?_))
      refine lt_int (wpAny_bind (wpAny_pure (wpAny_pure (wpAny_pure (wpAny_pure ⟨_, rfl, by simp, ?_⟩)))))
      have e : pairLt x y = decide (x.2 < y.2) := by unfold pairLt; rw [if_pos h1]
      rw [e] at h
      exact h
  · refine wpAny_bind (wpAny_bind (wpAny_bind (wpAny_eqBool_int ?_)))
    rw [beq_eq_false_iff_ne.mpr h1]
    simp only [Bool.not_false, if_true]
    refine wpAny_bind (wpAny_rule (wpAny_bind ?_))
    refine lt_int (wpAny_bind (wpAny_pure (wpAny_pure (wpAny_pure (wpAny_pure ⟨_, rfl, by simp, ?_⟩)))))
    have e : pairLt x y = decide (x.1 < y.1) := by unfold pairLt; rw [if_neg h1]
    rw [e] at h
    exact h
theorem cmp_lt_pair {V : Vw W} {x y : Int × Int} : Cmp V .Lt (pr x) (pr y) (pairLt x y) := fun g s va vb i ha hb => by
  obtain ⟨a, vs, n, rfl, ha, da⟩ := ha.tuple_inv
  obtain ⟨b, ws, m, rfl, hb, db⟩ := hb.tuple_inv
  cases da with | cons d1 r =>
  cases r with | cons d2 r =>
  cases r
  cases db with | cons e1 r =>
  cases r with | cons e2 r =>
  cases r
  obtain ⟨t1, rfl⟩ := d1.int_inv
  obtain ⟨t2, rfl⟩ := d2.int_inv
  obtain ⟨u1, rfl⟩ := e1.int_inv
  obtain ⟨u2, rfl⟩ := e2.int_inv
  have := V.uni
  exact lt_pair (by omega) (V.fz i _ _ ha) (V.fz i _ _ hb) ⟨rfl, g, Ext.refl (V.fz i)⟩

/-- data without dicts, not deep -/
def flat : Nat → PyData → Bool
  | _, .none => true
  | _, .bool _ => true
  | _, .int _ => true
  | n + 1, .tuple ds => ds.all (flat n)
  | n + 1, .list ds => ds.all (flat n)
  | _, _ => false
theorem flat_lay : ∀ (n : Nat) (d : PyData), flat n d = true → d.canLay0 = true ∧ d.depth ≤ n := by
  intro n
  induction n with
  | zero => intro d h; cases d <;> simp_all [flat, PyData.canLay0, PyData.depth]
  | succ n ih =>
    have all : ∀ ds : List PyData, (∀ d ∈ ds, flat n d = true) → PyData.canLayAll0 ds = true ∧ PyData.depthAll ds ≤ n := by
      intro ds
      induction ds with
      | nil => intro _; simp [PyData.canLayAll0, PyData.depthAll]
      | cons d ds hi =>
        intro h
        have h1 := ih d (h d (.head _))
        have h2 := hi fun e he => h e (.tail _ he)
        simp only [PyData.canLayAll0, PyData.depthAll, h1.1, h2.1, Bool.and_self, true_and]
        have a1 := h1.2
        have a2 := h2.2
        omega
    intro d h
    cases d with
    | none => simp [PyData.canLay0, PyData.depth]
    | bool b => simp [PyData.canLay0, PyData.depth]
    | int i => simp [PyData.canLay0, PyData.depth]
    | str x => simp [flat] at h
    | dict x => simp [flat] at h
    | tuple ds =>
      have q := all ds (by simpa [flat] using h)
      simp only [PyData.canLay0, PyData.depth, q.1, true_and]
      have := q.2; omega
    | list ds =>
      have q := all ds (by simpa [flat] using h)
      simp only [PyData.canLay0, PyData.depth, q.1, true_and]
      have := q.2; omega
theorem flat_shaped {n : Nat} {d : PyData} (hn : n ≤ 64) (h : flat n d = true) : SeqAt.shaped d = true := by
  have l := flat_lay n d h
  unfold SeqAt.shaped
  rw [l.1, Bool.true_and]
  exact decide_eq_true (Nat.le_trans l.2 hn)
theorem flat_all {n : Nat} {ds : List PyData} (h : ∀ d ∈ ds, flat n d = true) : PyData.canLayAll0 ds = true ∧ PyData.depthAll ds ≤ n + 1 := by
  have l := flat_lay (n + 1) (.list ds) (by simpa [flat] using h)
  simp only [PyData.canLay0, PyData.depth] at l
  exact ⟨l.1, by have := l.2; omega⟩

theorem cmp_eq {V : Vw W} {a b : PyData} (ha : flat 8 a = true) (hb : flat 8 b = true) : Cmp V .Eq a b (PyData.eqv a b) := fun g s va vb i da db => by
  obtain ⟨as, ra⟩ := da.reads (V.fz i)
  obtain ⟨bs, rb⟩ := db.reads (V.fz i)
  have := V.uni
  exact eq_dataH ra rb (flat_shaped (by decide) ha) (flat_shaped (by decide) hb) (by omega) ⟨rfl, g, Ext.refl (V.fz i)⟩
theorem cmp_ne {V : Vw W} {a b : PyData} (ha : flat 8 a = true) (hb : flat 8 b = true) : Cmp V .NotEq a b (!PyData.eqv a b) := fun g s va vb i da db => by
  obtain ⟨as, ra⟩ := da.reads (V.fz i)
  obtain ⟨bs, rb⟩ := db.reads (V.fz i)
  have := V.uni
  exact ne_dataH ra rb (flat_shaped (by decide) ha) (flat_shaped (by decide) hb) (by omega) ⟨rfl, g, Ext.refl (V.fz i)⟩
theorem cmp_isNot_none {V : Vw W} : Cmp V .IsNot .none .none false := fun g s va vb i da db => by
  cases da; cases db
  exact wpAny_isNot_self rfl ⟨rfl, g, Ext.refl (V.fz i)⟩

/-- x in a list that is read -/
theorem Ts_in {V : Vw W} {l r : Expr} {p : Pos} {d : PyData} {ds : List PyData} (hl : Ev V l d) (hr : EvL V r ds) (hd : flat 8 d = true) (hds : ∀ e ∈ ds, flat 8 e = true)
    (hm : behindInMarks .In r = false := by with_unfolding_all rfl) : Ts V (.Compare l [.In] [r] p) (ds.any fun y => PyData.eqv y d) := fun g s i =>
  wpAny_isTrue_Compare1 (wpAny_mono (hl g s i) (fun va s1 ⟨g1, x1, d1⟩ => wpAny_mono (hr g1 s1 (V.stable i x1)) (fun vb s2 ⟨g2, a, vs, n, x2, eb, ho, d2⟩ => by
    subst eb
    have X := x1.trans x2
    obtain ⟨as, ra⟩ := d2.reads X.fz
    obtain ⟨bs, rb⟩ := (d1.mono x2.le).reads X.fz
    have h1 := flat_all hds
    have h2 := flat_lay 8 d hd
    have := V.uni
    have hmin := Nat.min_le_right (PyData.depthAll ds) d.depth
    refine SeqAt.in_list_reads (reads_list_at ho rfl rfl (by simpa using ra)) rb h1.1 h2.1 (by omega) ?_
    exact wpAny_truthy_bool ⟨rfl, g2, X⟩) fun _ _ e => e) fun _ _ e => e) hm

/-- and, or, not -/
theorem Ts_not {V : Vw W} {x : Expr} {p : Pos} {b : Bool} (h : Ts V x b) : Ts V (.UnaryOp .Not x p) (!b) := fun g s i => by
  show wpAny _ _ (do return !(← isTrue x V.env (eval x V.env))) _ _ s
  exact wpAny_bind (wpAny_mono (h g s i) (fun c s' ⟨e, x⟩ => wpAny_pure ⟨by rw [e], x⟩) fun _ _ e => e)
theorem Ts_and {V : Vw W} {x y : Expr} {p : Pos} {a b : Bool} (hx : Ts V x a) (hy : a = true → Ts V y b) : Ts V (.BoolOp .And [x, y] p) (a && b) := fun g s i => by
  show wpAny _ _ (allTrue .And [x, y] V.env) _ _ s
  simp only [allTrue]
  refine wpAny_bind (wpAny_mono (hx g s i) (fun c s1 ⟨e, g1, x1⟩ => ?_) fun _ _ e => e)
  subst e
  cases c with
  | false => exact wpAny_pure ⟨rfl, g1, x1⟩
  | true =>
    refine wpAny_bind (wpAny_mono (hy rfl g1 s1 (V.stable i x1)) (fun c s2 ⟨e, g2, x2⟩ => ?_) fun _ _ e => e)
    subst e
    cases c with
    | false => exact wpAny_pure ⟨rfl, g2, x1.trans x2⟩
    | true => exact wpAny_pure ⟨rfl, g2, x1.trans x2⟩
theorem Ts_or {V : Vw W} {x y : Expr} {p : Pos} {a b : Bool} (hx : Ts V x a) (hy : a = false → Ts V y b) : Ts V (.BoolOp .Or [x, y] p) (a || b) := fun g s i => by
  show wpAny _ _ (allTrue .Or [x, y] V.env) _ _ s
  simp only [allTrue]
  refine wpAny_bind (wpAny_mono (hx g s i) (fun c s1 ⟨e, g1, x1⟩ => ?_) fun _ _ e => e)
  subst e
  cases c with
  | true => exact wpAny_pure ⟨rfl, g1, x1⟩
  | false =>
    refine wpAny_bind (wpAny_mono (hy rfl g1 s1 (V.stable i x1)) (fun c s2 ⟨e, g2, x2⟩ => ?_) fun _ _ e => e)
    subst e
    cases c with
    | false => exact wpAny_pure ⟨rfl, g2, x1.trans x2⟩
    | true => exact wpAny_pure ⟨rfl, g2, x1.trans x2⟩
/-- the value of x and y where x is a bool -/
theorem Ev_and {V : Vw W} {x y : Expr} {p : Pos} {a b : Bool} (hx : Ev V x (.bool a)) (hy : a = true → Ev V y (.bool b)) : Ev V (.BoolOp .And [x, y] p) (.bool (a && b)) := fun g s i => by
  show wpAny _ _ (boolOp p .And [eval x V.env, eval y V.env]) _ _ s
  simp only [boolOp]
  refine wpAny_bind (wpAny_mono (hx g s i) (fun v s1 ⟨g1, x1, d1⟩ => wpAny_bind (wpAny_standAt ?_)) fun _ _ e => e)
  obtain rfl := d1.bool_inv
  refine wpAny_bind (wpAny_holding (wpAny_truthy_bool ?_))
  cases a with
  | false => exact wpAny_pure ⟨g1, x1, .bool _⟩
  | true => exact wpAny_mono (hy rfl g1 s1 (V.stable i x1)) (fun v s2 ⟨g2, x2, d2⟩ => ⟨g2, x1.trans x2, d2⟩) fun _ _ e => e
/-- the truth of a plain value -/
theorem Ts_plain {V : Vw W} {e : Expr} (h : ∀ g s, V.I g s → wpAny (model W.prog W.w) V.A (eval e V.env) (fun v s1 => wpAny (model W.prog W.w) V.A (truthy v) (fun c s' => c = b ∧ ∃ g', Ext g s g' s') noE s1) noE s)
    (he : isTrue e V.env (eval e V.env) = (do let v ← eval e V.env; standAt e.pos; holding [v] (truthy v)) := by rfl) : Ts V e b := fun g s i => by
  rw [he]
  exact wpAny_bind (wpAny_mono (h g s i) (fun v s1 h1 => wpAny_bind (wpAny_standAt (wpAny_holding h1))) fun _ _ e => e)
theorem Ts_int {V : Vw W} {e : Expr} {k : Int} (h : Ev V e (.int k)) (he : isTrue e V.env (eval e V.env) = (do let v ← eval e V.env; standAt e.pos; holding [v] (truthy v)) := by rfl) : Ts V e (k != 0) :=
  Ts_plain (fun g s i => wpAny_mono (h g s i) (fun v s1 ⟨g1, x1, d1⟩ => by
    cases d1; exact truthy_int ⟨rfl, g1, x1⟩) fun _ _ e => e) he
theorem Ts_list {V : Vw W} {e : Expr} {ds : List PyData} (h : EvL V e ds) (hz : Small ds.length) (he : isTrue e V.env (eval e V.env) = (do let v ← eval e V.env; standAt e.pos; holding [v] (truthy v)) := by rfl) : Ts V e (!ds.isEmpty) :=
  Ts_plain (fun g s i => wpAny_mono (h g s i) (fun v s1 ⟨g1, a, vs, n, x1, ev, ho, d1⟩ => by
    subst ev
    have hs := sizeLine_eq
    refine wpAny_truthy_list (isL_of ho) (by rw [List.size_toArray, d1.length]; unfold Small at hz; omega) ⟨?_, g1, x1.trans (Ext.toks x1.fz _)⟩
    have := d1.length
    cases vs <;> cases ds <;> simp_all) fun _ _ e => e) he
end Mine
namespace Mine
open PySem PySem.W PyProof.Rows PySem.Calls
variable {W : Wld}

/-- a call of a global name -/
theorem Ev_call {V : Vw W} {x : Str} {np p : Pos} {args : List Expr} {f : Value} {P : Frz → Shared → Value → Shared → Prop} (G : GlobIs V x f)
    (h : ∀ g s, V.I g s → wpAny (model W.prog W.w) V.A (callWith p f [] (backTo p (starEach args V.env)) []) (P g s) noE s) (hd : (x == ("__debug__" : Str)) = false := by decide) :
    ∀ g s, V.I g s → wpAny (model W.prog W.w) V.A (eval (.Call (.Name x np) args [] p) V.env) (P g s) noE s := fun g s i =>
  Call_ (glob_name G i (h g s i) hd)

/-- one argument, a list that is read, for a built-in -/
theorem call_b1 {V : Vw W} {x : Str} {np p : Pos} {e : Expr} {id : String} {ds : List PyData} {P : Frz → Shared → Value → Shared → Prop} (G : GlobIs V x (.builtin id)) (he : EvL V e ds)
    (h : ∀ g s, V.I g s → ∀ g1 s1 a vs n, Ext g s g1 s1 → s1.heap.get? a = some (lstO vs n) → DenAll g1 vs ds → wpAny (model W.prog W.w) V.A (call (.builtin id) [.ref a]) (P g s) noE s1)
    (hd : (x == ("__debug__" : Str)) = false := by decide) (hs : starEach [e] V.env = (false, eval e V.env) :: starEach [] V.env := by rfl) :
    ∀ g s, V.I g s → wpAny (model W.prog W.w) V.A (eval (.Call (.Name x np) [e] [] p) V.env) (P g s) noE s :=
  Ev_call G (fun g s i => callWith_builtin1 (args_cons (wpAny_mono (he g s i) (fun v s1 ⟨g1, a, vs, n, x1, ev, ho, d1⟩ => by
    subst ev
    exact args_nil (h g s i g1 s1 a vs n x1 ho d1)) fun _ _ e => e) hs) hs) hd

theorem Ev_len {V : Vw W} {x : Str} {np p : Pos} {e : Expr} {ds : List PyData} (G : GlobIs V x (.builtin "len")) (he : EvL V e ds) (hz : Small ds.length) (hd : (x == ("__debug__" : Str)) = false := by decide)
    (hs : starEach [e] V.env = (false, eval e V.env) :: starEach [] V.env := by rfl) : Ev V (.Call (.Name x np) [e] [] p) (.int ds.length) :=
  call_b1 G he (fun g s i g1 s1 a vs n x1 ho d1 => by
    have hsz := sizeLine_eq
    refine call_len_list (isL_of ho) (by rw [List.size_toArray, d1.length]; unfold Small at hz; omega) ⟨g1, x1.trans (Ext.toks x1.fz _), ?_⟩
    rw [List.size_toArray, d1.length]; exact .int _ _) hd hs

theorem getD_lt {α : Type} {l : List α} {j : Nat} {d : α} (h : j < l.length) : l.getD j d = l[j] := by simp [List.getD, h]
theorem argBest_min (ns : List Int) : ∀ k, argBest (fun i j => decide (ns.getD i 0 < ns.getD j 0)) k ≤ k ∧ ∀ j, j ≤ k → ns.getD (argBest (fun i j => decide (ns.getD i 0 < ns.getD j 0)) k) 0 ≤ ns.getD j 0 := by
  intro k
  induction k with
  | zero => exact ⟨Nat.le_refl _, fun j hj => by have : j = 0 := by omega
                                                 subst this; exact Int.le_refl _⟩
  | succ k ih =>
    obtain ⟨h1, h2⟩ := ih
    unfold argBest
    by_cases hb : ns.getD (k + 1) 0 < ns.getD (argBest (fun i j => decide (ns.getD i 0 < ns.getD j 0)) k) 0
    · rw [if_pos (decide_eq_true hb)]
      refine ⟨Nat.le_refl _, fun j hj => ?_⟩
      rcases Nat.lt_or_ge j (k + 1) with h | h
      · have := h2 j (by omega); omega
      · have : j = k + 1 := by omega
        subst this; exact Int.le_refl _
    · rw [if_neg (by simpa using hb)]
      refine ⟨by omega, fun j hj => ?_⟩
      rcases Nat.lt_or_ge j (k + 1) with h | h
      · exact h2 j (by omega)
      · have : j = k + 1 := by omega
        subst this; omega

theorem IntsAre.at' {vs : List Value} {ns : List Int} (h : IntsAre vs ns) {i : Nat} {v : Value} (hv : vs[i]? = some v) : ∃ t, v = .int (ns.getD i 0) t := by
  induction h generalizing i with
  | nil => simp at hv
  | cons n t r ih =>
    cases i with
    | zero => simp at hv; subst hv; exact ⟨t, rfl⟩
    | succ i => simpa using ih (by simpa using hv)

/-- min(xs) of ints -/
theorem Ev_min {V : Vw W} {x : Str} {np p : Pos} {e : Expr} {ns : List Int} {m : Int} (G : GlobIs V x (.builtin "min")) (he : EvL V e (ns.map .int)) (hm : m ∈ ns) (hle : ∀ n ∈ ns, m ≤ n)
    (hd : (x == ("__debug__" : Str)) = false := by decide) (hs : starEach [e] V.env = (false, eval e V.env) :: starEach [] V.env := by rfl) : Ev V (.Call (.Name x np) [e] [] p) (.int m) :=
  call_b1 G he (fun g s i g1 s1 a vs n x1 ho d1 => by
    have hI := d1.ints
    have hlen := hI.length
    have hpos : 0 < ns.length := List.length_pos_of_mem hm
    have hne : a ≠ s1.heap.objs.size := fun e => Nat.lt_irrefl _ (e ▸ Heap.lt_size ho)
    refine call_min_walk (wpAny_pyIter_list (isL_of ho) ?_)
    refine ⟨s1.heap.objs.size, _, _, vs.toArray.size, _, _, fun i j => decide (ns.getD i 0 < ns.getD j 0), rfl, Walks.list (A := V.A.in1) V.hnd _ a hne vs.toArray, ⟨⟨_, Heap.get?_push_size _ rfl, rfl, rfl⟩, (isL_of ho).push _⟩, ?_, by rw [List.size_toArray, hlen]; exact hpos, ?_, ?_⟩
    · intro b hb
      show b < (s1.heap.push _).objs.size
      rw [Heap.size_push]
      rcases List.mem_cons.mp hb with rfl | hb
      · exact Nat.lt_succ_self _
      · rcases List.mem_cons.mp hb with rfl | hb
        · exact Nat.lt_succ_of_lt (Heap.lt_size ho)
        · cases hb
    · intro i j vi vj s' Q E hi hj hQ
      obtain ⟨t, rfl⟩ := IntsAre.at' hI (by simpa using hi)
      obtain ⟨u, rfl⟩ := IntsAre.at' hI (by simpa using hj)
      exact lt_int hQ
    · intro v h' tk hv hk
      rw [List.size_toArray, hlen] at hv
      obtain ⟨t, rfl⟩ := IntsAre.at' hI (by rw [List.getElem?_toArray] at hv; exact hv)
      obtain ⟨b1, b2⟩ := argBest_min ns (ns.length - 1)
      have hlt : argBest (fun i j => decide (ns.getD i 0 < ns.getD j 0)) (ns.length - 1) < ns.length := by omega
      have e1 : ns.getD (argBest (fun i j => decide (ns.getD i 0 < ns.getD j 0)) (ns.length - 1)) 0 = m := by
        apply Int.le_antisymm
        · obtain ⟨j, hj, rfl⟩ := List.mem_iff_getElem.mp hm
          have := b2 j (by omega)
          rwa [getD_lt hj] at this
        · rw [getD_lt hlt]
          exact hle _ (List.getElem_mem hlt)
      rw [e1]
      refine ⟨g1, x1.trans (Ext.heap x1.fz (t := tk) fun b o e => hk b o ?_ (Heap.get?_push_of_some _ e)), .int _ _⟩
      intro hm
      rcases List.mem_cons.mp hm with rfl | hm
      · exact Nat.lt_irrefl _ (Heap.lt_size e)
      · cases hm) hd hs

theorem Ev_sorted {V : Vw W} {x : Str} {np p : Pos} {e : Expr} {ns : List Int} {ns' : List Int} (G : GlobIs V x (.builtin "sorted")) (he : EvL V e (ns.map .int)) (hz : ns.length < 64)
    (hu : ∀ l : List Int, l.Perm ns → l.Pairwise (· ≤ ·) → l = ns') (hd : (x == ("__debug__" : Str)) = false := by decide)
    (hs : starEach [e] V.env = (false, eval e V.env) :: starEach [] V.env := by rfl) : EvF V (.Call (.Name x np) [e] [] p) (ns'.map .int) :=
  call_b1 G he (fun g s i g1 s1 a vs n x1 ho d1 => by
    refine sorted_ints (isL_of ho) d1.ints (by rw [d1.length, List.length_map]; exact hz) fun out l hI hp hs => ?_
    obtain rfl := hu l hp hs
    obtain ⟨c, hc⟩ := sortedAll_at s1.heap vs out
    have hn : s.heap.get? (s1.heap.objs.size + 1) = none := by
      cases e : s.heap.get? (s1.heap.objs.size + 1) with
      | none => rfl
      | some o => exact absurd (Heap.lt_size (x1.keep _ _ e)) (Nat.not_lt.mpr (Nat.le_succ _))
    have hg : g1 (s1.heap.objs.size + 1) = none := by
      cases e : g1 (s1.heap.objs.size + 1) with
      | none => rfl
      | some o => exact absurd (Heap.lt_size (x1.fz _ _ e)) (Nat.not_lt.mpr (Nat.le_succ _))
    exact ⟨g1, _, out.toList, c, x1.trans (Ext.heap x1.fz (t := s1.toks) fun b o e => sortedAll_old e), rfl, by rw [hc], DenAll.ofInts hI, hn, hg⟩) hd hs

/-- list(xs) -/
theorem EvF_list {V : Vw W} {x : Str} {np p : Pos} {e : Expr} {ds : List PyData} (G : GlobIs V x (.type "list")) (he : EvL V e ds) (hz : Small ds.length) (hd : (x == ("__debug__" : Str)) = false := by decide)
    (hs : starEach [e] V.env = (false, eval e V.env) :: starEach [] V.env := by rfl) : EvF V (.Call (.Name x np) [e] [] p) ds :=
  Ev_call (P := fun g s v s' => ∃ g' a vs n, Ext g s g' s' ∧ v = .ref a ∧ s'.heap.get? a = some (lstO vs n) ∧ DenAll g' vs ds ∧ s.heap.get? a = none ∧ g' a = none) G (fun g s i => by
    refine PyProof.Rows.callWith_type1 (args_cons (wpAny_mono (he g s i) (fun v s1 ⟨g1, a, vs, n, x1, ev, ho, d1⟩ => by
      subst ev
      refine args_nil (call_list_seq a (.inl rfl) ho rfl rfl (fun h' c hk hn => ?_) (by rw [List.size_toArray, d1.length]; exact hz))
      have hs0 : s.heap.get? s1.heap.objs.size = none := by
        cases e : s.heap.get? s1.heap.objs.size with
        | none => rfl
        | some o => have := x1.keep _ _ e; rw [get_size_none] at this; cases this
      exact ⟨g1, _, vs, c, x1.trans (Ext.heap x1.fz (t := s1.toks) hk), rfl, hn, d1, hs0, x1.fz.size⟩) fun _ _ e => e) hs) hs) hd
end Mine
namespace Mine
open PySem PySem.W PyProof.Rows PySem.Calls
variable {W : Wld}

/-- what a mutable object holds: a list's items; a list's items and the iterator's place -/
inductive Mut where
  | lst (ds : List PyData)
  | itr (ds : List PyData) (i : Nat)
/-- what a name holds: a datum; an object of the activation's own -/
inductive Slot where
  | val (d : PyData)
  | own (a : Addr) (m : Mut)
abbrev Rho := Str → Option Slot
def Rho.set (ρ : Rho) (x : Str) (sl : Slot) : Rho := fun y => if y = x then some sl else ρ y
theorem Rho.set_self {ρ : Rho} {x : Str} {sl : Slot} : (ρ.set x sl) x = some sl := by simp [Rho.set]
theorem Rho.set_ne {ρ : Rho} {x y : Str} {sl : Slot} (h : y ≠ x) : (ρ.set x sl) y = ρ y := by simp [Rho.set, h]

def MutIs (g : Frz) (h : Heap) (a : Addr) : Mut → Prop
  | .lst ds => ∃ vs n, h.get? a = some (lstO vs n) ∧ DenAll g vs ds
  | .itr ds i => ∃ l vs n, h.IsListIter a l i ∧ g l = some (lstO vs n) ∧ DenAll g vs ds
def SlotIs (g : Frz) (h : Heap) (v : Value) : Slot → Prop
  | .val d => Den g v d
  | .own a m => v = .ref a ∧ MutIs g h a m
theorem MutIs.mono {g g' : Frz} {h h' : Heap} {a : Addr} {m : Mut} (x : MutIs g h a m) (hg : Le g g') (hh : ∀ o, h.get? a = some o → h'.get? a = some o) : MutIs g' h' a m := by
  cases m with
  | lst ds => obtain ⟨vs, n, ho, hd⟩ := x; exact ⟨vs, n, hh _ ho, hd.mono hg⟩
  | itr ds i => obtain ⟨l, vs, n, ⟨o, ho, r⟩, hl, hd⟩ := x; exact ⟨l, vs, n, ⟨o, hh _ ho, r⟩, hg _ _ hl, hd.mono hg⟩
theorem MutIs.live {g : Frz} {h : Heap} {a : Addr} {m : Mut} (x : MutIs g h a m) : ∃ o, h.get? a = some o := by
  cases m with
  | lst ds => obtain ⟨vs, n, ho, hd⟩ := x; exact ⟨_, ho⟩
  | itr ds i => obtain ⟨l, vs, n, ⟨o, ho, r⟩, hl, hd⟩ := x; exact ⟨o, ho⟩
theorem SlotIs.mono {g g' : Frz} {h h' : Heap} {v : Value} {sl : Slot} (x : SlotIs g h v sl) (hg : Le g g') (hh : ∀ a m, sl = .own a m → ∀ o, h.get? a = some o → h'.get? a = some o) : SlotIs g' h' v sl := by
  cases sl with
  | val d => exact Den.mono hg x
  | own a m => exact ⟨x.1, x.2.mono hg (hh a m rfl)⟩

/-- where the names stand -/
structure Vars (env : Env) (h : Heap) (V : Str → Option Value) : Prop where
  ns : ∃ m, h.Ns env.locals m ∧ ∀ x, env.kindOf x = some .local → V x = m x
  cell : ∀ x c, env.cells.lookup x = some c → h.IsCell c (V x)

/-- an activation -/
structure Act (W : Wld) where
  A : Around
  env : Env
  k : Nat
  hnd : A.handled = none
  dep : A.depth + k < recursionLimit
  uni : A.units + 4 * k + 80 < cLine
  kind : env.scope.kind = .function
  glb : env.globals = mainGlobals
  blt : env.builtins = builtinsNs
  lc : ∀ x, env.kindOf x = some .local → env.cells.lookup x = none
  apart : ∀ x y c, env.cells.lookup x = some c → env.cells.lookup y = some c → x = y
  cL : ∀ x c, env.cells.lookup x = some c → c ≠ env.locals

/-- the activation's state -/
structure Rel (a : Act W) (ρ : Rho) (B g : Frz) (s : Shared) : Prop where
  fz : InH g s.heap
  kb : InH B s.heap
  top : ∀ b o, W.H0.get? b = some o → B b = some o
  gL : g a.env.locals = none
  bL : B a.env.locals = none
  gC : ∀ x c, a.env.cells.lookup x = some c → g c = none ∧ B c = none
  own : ∀ x ad m, ρ x = some (.own ad m) → g ad = none ∧ B ad = none ∧ ad ≠ a.env.locals ∧ ∀ y c, a.env.cells.lookup y = some c → ad ≠ c
  oo : ∀ x y ad m m', ρ x = some (.own ad m) → ρ y = some (.own ad m') → x = y
  vars : ∃ V, Vars a.env s.heap V ∧ ∀ x sl, ρ x = some sl → ∃ v, V x = some v ∧ SlotIs g s.heap v sl

theorem Vars.keeps {env : Env} {h h' : Heap} {V : Str → Option Value} (x : Vars env h V) (hk : ∀ b o, h.get? b = some o → h'.get? b = some o) : Vars env h' V := by
  obtain ⟨m, hn, hm⟩ := x.ns
  exact ⟨⟨m, hn.keeps hk, hm⟩, fun n c hc => (x.cell n c hc).keeps hk⟩
theorem ns_live {h : Heap} {L : Addr} {m : Str → Option Value} (n : h.Ns L m) : ∃ o, h.get? L = some o := by obtain ⟨o, _, _, ho, _⟩ := n; exact ⟨o, ho⟩
theorem Rel.liveL {a : Act W} {ρ : Rho} {B g : Frz} {s : Shared} (r : Rel a ρ B g s) : ∃ o, s.heap.get? a.env.locals = some o := by
  obtain ⟨V, v, _⟩ := r.vars; obtain ⟨m, hn, _⟩ := v.ns; exact ns_live hn
theorem Rel.liveC {a : Act W} {ρ : Rho} {B g : Frz} {s : Shared} (r : Rel a ρ B g s) {x : Str} {c : Addr} (hc : a.env.cells.lookup x = some c) : ∃ o, s.heap.get? c = some o := by
  obtain ⟨V, v, _⟩ := r.vars; obtain ⟨o, ho, _⟩ := v.cell x c hc; exact ⟨o, ho⟩
theorem Rel.mutOf {a : Act W} {ρ : Rho} {B g : Frz} {s : Shared} (r : Rel a ρ B g s) {x : Str} {ad : Addr} {m : Mut} (hx : ρ x = some (.own ad m)) : MutIs g s.heap ad m := by
  obtain ⟨V, v, h⟩ := r.vars; obtain ⟨_, _, _, h2⟩ := h x _ hx; exact h2

theorem Rel.stable {a : Act W} {ρ : Rho} {B g g' : Frz} {s s' : Shared} (r : Rel a ρ B g s) (x : Ext g s g' s') : Rel a ρ B g' s' where
  fz := x.fz
  kb := fun b o e => x.keep b o (r.kb b o e)
  top := r.top
  gL := by obtain ⟨o, ho⟩ := r.liveL; rw [x.old _ _ ho]; exact r.gL
  bL := r.bL
  gC := fun n c hc => by obtain ⟨o, ho⟩ := r.liveC hc; rw [x.old _ _ ho]; exact r.gC n c hc
  own := fun n ad m hn => by
    obtain ⟨o, ho⟩ := (r.mutOf hn).live
    rw [x.old _ _ ho]; exact r.own n ad m hn
  oo := r.oo
  vars := by
    obtain ⟨V, v, h⟩ := r.vars
    refine ⟨V, v.keeps x.keep, fun n sl hn => ?_⟩
    obtain ⟨w, hw, hs⟩ := h n sl hn
    exact ⟨w, hw, hs.mono x.le fun ad m e o ho => x.keep _ _ ho⟩

/-- the activation's view -/
def Act.vw (a : Act W) (ρ : Rho) (B : Frz) : Vw W where
  A := a.A
  env := a.env
  k := a.k
  I := Rel a ρ B
  stable := Rel.stable
  fz := Rel.fz
  top := fun r b o e => r.kb b o (r.top b o e)
  hnd := a.hnd
  dep := a.dep
  uni := a.uni
  kind := a.kind
  glb := a.glb
  blt := a.blt

/-- the name can be stored and read -/
def Act.has (a : Act W) (x : Str) : Prop := a.env.kindOf x = some .local ∨ (a.env.kindOf x = some .cell ∧ ∃ c, a.env.cells.lookup x = some c)

theorem load_name {a : Act W} {ρ : Rho} {B g : Frz} {s : Shared} {x : Str} {sl : Slot} (r : Rel a ρ B g s) (hx : ρ x = some sl) (ha : a.has x) {Q : Value → Shared → Prop} {E : Value → Shared → Prop}
    (h : ∀ v, SlotIs g s.heap v sl → Q v s) : wpAny (model W.prog W.w) a.A (loadName a.env x) Q E s := by
  obtain ⟨V, v, hv⟩ := r.vars
  obtain ⟨u, hu, hs⟩ := hv x sl hx
  rcases ha with hk | ⟨hk, c, hc⟩
  · obtain ⟨m, hn, hm⟩ := v.ns
    exact wpAny_loadName_local a.kind hk hn ((hm x hk) ▸ hu) (h u hs)
  · exact wpAny_loadName_cell a.kind hk hc (hu ▸ v.cell x c hc) (h u hs)

theorem Ev_name {a : Act W} {ρ : Rho} {B : Frz} {x : Str} {p : Pos} {d : PyData} (hx : ρ x = some (.val d)) (ha : a.has x) (hd : (x == ("__debug__" : Str)) = false := by decide) : Ev (a.vw ρ B) (.Name x p) d := fun g s i =>
  wpAny_Name (load_name i hx ha fun v h => ⟨g, Ext.refl (Rel.fz i), h⟩) hd
theorem EvL_own {a : Act W} {ρ : Rho} {B : Frz} {x : Str} {p : Pos} {ad : Addr} {ds : List PyData} (hx : ρ x = some (.own ad (.lst ds))) (ha : a.has x) (hd : (x == ("__debug__" : Str)) = false := by decide) : EvL (a.vw ρ B) (.Name x p) ds := fun g s i =>
  wpAny_Name (load_name i hx ha fun v h => by
    obtain ⟨rfl, vs, n, ho, hd⟩ := h
    exact ⟨g, ad, vs, n, Ext.refl (Rel.fz i), rfl, ho, hd⟩) hd

/-- a name is stored -/
theorem store_name {a : Act W} {ρ : Rho} {B g : Frz} {s : Shared} {x : Str} {v : Value} {sl : Slot} (r : Rel a ρ B g s) (ha : a.has x) (hs : SlotIs g s.heap v sl)
    (ho : ∀ ad m, sl = .own ad m → g ad = none ∧ B ad = none ∧ ad ≠ a.env.locals ∧ (∀ y c, a.env.cells.lookup y = some c → ad ≠ c) ∧ ∀ y m', ρ y = some (.own ad m') → y = x)
    {Q : Unit → Shared → Prop} {E : Value → Shared → Prop}
    (h : ∀ h' tk, Rel a (ρ.set x sl) B g { s with heap := h', toks := tk } → Q () { s with heap := h', toks := tk }) : wpAny (model W.prog W.w) a.A (storeName a.env x v) Q E s := by
  obtain ⟨V, vv, hv⟩ := r.vars
  obtain ⟨m, hn, hm⟩ := vv.ns
  -- the new state, the heap the same but for one address
  have done : ∀ (z : Addr) (h' : Heap) (tk : Nat), Heap.SameBut z s.heap h' → g z = none → B z = none → (∀ y ad m, (ρ.set x sl) y = some (.own ad m) → ad ≠ z) →
      Vars a.env h' (fun y => if y = x then some v else V y) → Rel a (ρ.set x sl) B g { s with heap := h', toks := tk } := by
    intro z h' tk hsb hgz hbz hoz hvars
    refine ⟨fun b o e => ?_, fun b o e => ?_, r.top, r.gL, r.bL, r.gC, fun y ad m' hy => ?_, fun y y' ad m1 m2 h1 h2 => ?_, _, hvars, fun y sl' hy => ?_⟩
    · exact (hsb.2 b (fun q => by subst q; rw [hgz] at e; cases e)).trans (r.fz b o e)
    · exact (hsb.2 b (fun q => by subst q; rw [hbz] at e; cases e)).trans (r.kb b o e)
    · by_cases q : y = x
      · subst q; rw [Rho.set_self] at hy
        obtain ⟨h1, h2, h3, h4, _⟩ := ho ad m' (Option.some.inj hy)
        exact ⟨h1, h2, h3, h4⟩
      · rw [Rho.set_ne q] at hy; exact r.own y ad m' hy
    · by_cases q : y = x
      · subst q
        by_cases q' : y' = y
        · exact q'.symm
        · rw [Rho.set_self] at h1; rw [Rho.set_ne q'] at h2
          exact ((ho ad m1 (Option.some.inj h1)).2.2.2.2 y' m2 h2).symm
      · by_cases q' : y' = x
        · subst q'
          rw [Rho.set_self] at h2; rw [Rho.set_ne q] at h1
          exact (ho ad m2 (Option.some.inj h2)).2.2.2.2 y m1 h1
        · rw [Rho.set_ne q] at h1; rw [Rho.set_ne q'] at h2; exact r.oo y y' ad m1 m2 h1 h2
    · by_cases q : y = x
      · subst q; rw [Rho.set_self] at hy; cases hy
        exact ⟨v, by simp, hs.mono .refl fun ad m' e o h => (hsb.2 _ (hoz y ad m' (by rw [Rho.set_self, e]))).trans h⟩
      · have hy' := hy
        rw [Rho.set_ne q] at hy'
        obtain ⟨u, hu, hsl⟩ := hv y sl' hy'
        exact ⟨u, by simp [q, hu], hsl.mono .refl fun ad m' e o h => (hsb.2 _ (hoz y ad m' (by rw [← e]; exact hy))).trans h⟩
  have ownz : ∀ y ad m, (ρ.set x sl) y = some (.own ad m) → ad ≠ a.env.locals ∧ ∀ y c, a.env.cells.lookup y = some c → ad ≠ c := fun y ad m' hy => by
    by_cases q : y = x
    · subst q; rw [Rho.set_self] at hy
      obtain ⟨h1, h2, h3, h4, _⟩ := ho ad m' (Option.some.inj hy)
      exact ⟨h3, h4⟩
    · rw [Rho.set_ne q] at hy
      have := r.own y ad m' hy
      exact ⟨this.2.2.1, this.2.2.2⟩
  rcases ha with hk | ⟨hk, c, hc⟩
  · refine wpAny_storeName_local hk hn (fun h' hn' hs' => ?_) (by rw [a.kind]; rfl)
    refine h h' _ (done a.env.locals h' _ hs' r.gL r.bL (fun y ad m' hy => (ownz y ad m' hy).1) ⟨⟨_, hn', fun y hy => ?_⟩, fun y c hc => ?_⟩)
    · by_cases q : y = x <;> simp [q, hm y hy]
    · have hyx : y ≠ x := fun q => by subst q; rw [a.lc _ hk] at hc; cases hc
      simp only [hyx, if_false]
      exact (vv.cell y c hc).sameBut hs' (a.cL y c hc)
  · have hcL := a.cL x c hc
    refine wpAny_storeName_cell a.kind hk hc (vv.cell x c hc) fun h' hc' hs' => ?_
    refine h h' s.toks (done c h' _ hs' (r.gC x c hc).1 (r.gC x c hc).2 (fun y ad m' hy => (ownz y ad m' hy).2 x c hc) ⟨⟨m, hn.sameBut hs' (Ne.symm hcL), fun y hy => ?_⟩, fun y c' hy => ?_⟩)
    · have hyx : y ≠ x := fun q => by subst q; rw [hk] at hy; cases hy
      simp [hyx, hm y hy]
    · by_cases q : y = x
      · subst q; rw [hc] at hy; cases hy; simpa using hc'
      · simp only [q, if_false]
        exact (vv.cell y c' hy).sameBut hs' fun e => q (a.apart y x c (e ▸ hy) hc)

/-- a statement's step -/
structure StepTo (B g : Frz) (s : Shared) (g' : Frz) (s' : Shared) : Prop where
  same : ∃ h tk, s' = { s with heap := h, toks := tk }
  le : Le g g'
  agree : ∀ b o, B b = some o → g' b = g b
theorem StepTo.refl {B g : Frz} {s : Shared} : StepTo B g s g s := ⟨⟨_, _, rfl⟩, .refl, fun _ _ _ => rfl⟩
theorem StepTo.trans {B g g1 g2 : Frz} {s s1 s2 : Shared} (x : StepTo B g s g1 s1) (y : StepTo B g1 s1 g2 s2) : StepTo B g s g2 s2 := by
  obtain ⟨h1, t1, e1⟩ := x.same
  obtain ⟨h2, t2, e2⟩ := y.same
  exact ⟨⟨h2, t2, by rw [e2, e1]⟩, x.le.trans y.le, fun b o e => (y.agree b o e).trans (x.agree b o e)⟩
theorem Ext.step {B g g' : Frz} {s s' : Shared} (x : Ext g s g' s') (kb : InH B s.heap) : StepTo B g s g' s' := ⟨x.same, x.le, fun b o e => x.old b o (kb b o e)⟩
theorem StepTo.heap {B g : Frz} {s : Shared} {h : Heap} {t : Nat} : StepTo B g s g { s with heap := h, toks := t } := ⟨⟨_, _, rfl⟩, .refl, fun _ _ _ => rfl⟩

inductive FlowD where
  | nxt | brk | cnt
  | ret (d : PyData)
def FlowIs (g : Frz) : Flow → FlowD → Prop
  | .next, .nxt => True
  | .brk, .brk => True
  | .cont, .cnt => True
  | .ret v, .ret d => Den g v d
  | _, _ => False

/-- an evaluation that may turn the activation's objects -/
def EvX (a : Act W) (e : Expr) (ρ : Rho) (Q : PyData → Rho → Prop) : Prop := ∀ B g s, Rel a ρ B g s → wpAny (model W.prog W.w) a.A (eval e a.env)
  (fun v s' => ∃ g' d ρ', StepTo B g s g' s' ∧ Rel a ρ' B g' s' ∧ Den g' v d ∧ Q d ρ') noE s
/-- a statement's tree -/
def Tr (a : Act W) (t : Sem Flow) (ρ : Rho) (Q : FlowD → Rho → Prop) : Prop := ∀ B g s, Rel a ρ B g s → wpAny (model W.prog W.w) a.A t
  (fun f s' => ∃ g' fd ρ', StepTo B g s g' s' ∧ Rel a ρ' B g' s' ∧ FlowIs g' f fd ∧ Q fd ρ') noE s

section
variable {a : Act W} {ρ : Rho} {Q : FlowD → Rho → Prop}
theorem EvX_pure {e : Expr} {d : PyData} {P : PyData → Rho → Prop} (h : ∀ B, Ev (a.vw ρ B) e d) (hq : P d ρ) : EvX a e ρ P := fun B g s r =>
  wpAny_mono (h B g s r) (fun v s' ⟨g', x, hd⟩ => ⟨g', d, ρ, x.step r.kb, r.stable x, hd, hq⟩) fun _ _ e => e
theorem EvX_mono {e : Expr} {P P' : PyData → Rho → Prop} (h : EvX a e ρ P) (hq : ∀ d ρ', P d ρ' → P' d ρ') : EvX a e ρ P' := fun B g s r =>
  wpAny_mono (h B g s r) (fun v s' ⟨g', d, ρ', x, r', hd, p⟩ => ⟨g', d, ρ', x, r', hd, hq d ρ' p⟩) fun _ _ e => e
theorem Tr_mono {t : Sem Flow} {Q' : FlowD → Rho → Prop} (h : Tr a t ρ Q) (hq : ∀ d ρ', Q d ρ' → Q' d ρ') : Tr a t ρ Q' := fun B g s r =>
  wpAny_mono (h B g s r) (fun v s' ⟨g', d, ρ', x, r', hd, p⟩ => ⟨g', d, ρ', x, r', hd, hq d ρ' p⟩) fun _ _ e => e
theorem Tr_nil (h : Q .nxt ρ) : Tr a (execs [] a.env) ρ Q := fun B g s r => wpAny_execs_nil ⟨g, .nxt, ρ, .refl, r, trivial, h⟩
theorem Tr_cons {st : Stmt} {rest : List Stmt} (h : Tr a (exec st a.env) ρ (fun fd ρ' => match fd with | .nxt => Tr a (execs rest a.env) ρ' Q | fd => Q fd ρ')) : Tr a (execs (st :: rest) a.env) ρ Q := fun B g s r =>
  wpAny_execs_cons (wpAny_mono (h B g s r) (fun f s1 ⟨g1, fd, ρ1, x1, r1, hf, hq⟩ => by
    cases f <;> cases fd <;> simp only [FlowIs] at hf
    · exact wpAny_mono (hq B g1 s1 r1) (fun f s2 ⟨g2, fd, ρ2, x2, r2, hf, hq⟩ => ⟨g2, fd, ρ2, x1.trans x2, r2, hf, hq⟩) fun _ _ e => e
    · exact ⟨g1, .brk, ρ1, x1, r1, trivial, hq⟩
    · exact ⟨g1, .cnt, ρ1, x1, r1, trivial, hq⟩
    · exact ⟨g1, .ret _, ρ1, x1, r1, hf, hq⟩) fun _ _ e => e)

theorem Tr_assign {x : Str} {p p' : Pos} {e : Expr} (h : EvX a e ρ (fun d ρ' => Q .nxt (ρ'.set x (.val d)))) (ha : a.has x)
    (hs : swapsWith e (some (.Name x p')) p.line a.env = pure false := by rfl) : Tr a (exec (.Assign [.Name x p'] e p) a.env) ρ Q := fun B g s r =>
  wpAny_Assign_Name (wpAny_mono (h B g s r) (fun v s1 ⟨g1, d, ρ1, x1, r1, hd, hq⟩ =>
    store_name r1 ha (sl := .val d) hd (fun ad m e => nomatch e) fun h' tk r2 => ⟨g1, .nxt, _, x1.trans .heap, r2, trivial, hq⟩) fun _ _ e => e) hs

theorem Tr_assign_own {x : Str} {p p' : Pos} {e : Expr} {ds : List PyData} (h : ∀ B, EvF (a.vw ρ B) e ds) (hq : ∀ ad, Q .nxt (ρ.set x (.own ad (.lst ds)))) (ha : a.has x)
    (hs : swapsWith e (some (.Name x p')) p.line a.env = pure false := by rfl) : Tr a (exec (.Assign [.Name x p'] e p) a.env) ρ Q := fun B g s r =>
  wpAny_Assign_Name (wpAny_mono (h B g s r) (fun v s1 ⟨g1, ad, vs, n, x1, ev, ho, hd, hn, hg⟩ => by
    have r1 := r.stable x1
    have new : ∀ b o, s.heap.get? b = some o → ad ≠ b := fun b o e q => by subst q; rw [hn] at e; cases e
    refine store_name r1 ha (sl := .own ad (.lst ds)) ⟨ev, vs, n, ho, hd⟩ (fun ad' m e => ?_) fun h' tk r2 => ⟨g1, .nxt, _, (x1.step r.kb).trans .heap, r2, trivial, hq ad⟩
    cases e
    refine ⟨hg, ?_, ?_, fun y c hc => ?_, fun y m' hy => ?_⟩
    · cases e : B ad with
      | none => rfl
      | some o => exact absurd rfl (new _ _ (r.kb _ _ e))
    · obtain ⟨o, hL⟩ := r.liveL; exact new _ _ hL
    · obtain ⟨o, hL⟩ := r.liveC hc; exact new _ _ hL
    · obtain ⟨o, hL⟩ := (r.mutOf hy).live; exact absurd rfl (new _ _ hL)) fun _ _ e => e) hs

theorem Tr_return {e : Expr} {p : Pos} (h : EvX a e ρ (fun d ρ' => Q (.ret d) ρ')) : Tr a (exec (.Return (some e) p) a.env) ρ Q := fun B g s r =>
  wpAny_Return_some (wpAny_mono (h B g s r) (fun v s1 ⟨g1, d, ρ1, x1, r1, hd, hq⟩ => ⟨g1, .ret d, ρ1, x1, r1, hd, hq⟩) fun _ _ e => e)
theorem Tr_continue {p : Pos} (h : Q .cnt ρ) : Tr a (exec (.Continue p) a.env) ρ Q := fun B g s r => by
  show wpAny _ _ (do standAt p; pure Flow.cont) _ _ s
  exact wpAny_bind (wpAny_standAt (wpAny_pure ⟨g, .cnt, ρ, .refl, r, trivial, h⟩))
theorem Tr_break {p : Pos} (h : Q .brk ρ) : Tr a (exec (.Break p) a.env) ρ Q := fun B g s r => by
  show wpAny _ _ (do standAt p; pure Flow.brk) _ _ s
  exact wpAny_bind (wpAny_standAt (wpAny_pure ⟨g, .brk, ρ, .refl, r, trivial, h⟩))
theorem Tr_if {test : Expr} {body orelse : List Stmt} {p : Pos} {b : Bool} (ht : ∀ B, Ts (a.vw ρ B) test b) (h1 : b = true → Tr a (execs body a.env) ρ Q) (h2 : b = false → Tr a (execs orelse a.env) ρ Q) :
    Tr a (exec (.If test body orelse p) a.env) ρ Q := fun B g s r =>
  wpAny_If (wpAny_mono (ht B g s r) (fun c s1 ⟨e, g1, x1⟩ => by
    subst e
    have fin : ∀ {t : Sem Flow}, Tr a t ρ Q → wpAny (model W.prog W.w) a.A t (fun f s' => ∃ g' fd ρ', StepTo B g s g' s' ∧ Rel a ρ' B g' s' ∧ FlowIs g' f fd ∧ Q fd ρ') noE s1 := fun h =>
      wpAny_mono (h B g1 s1 (r.stable x1)) (fun f s2 ⟨g2, fd, ρ2, x2, r2, hf, hq⟩ => ⟨g2, fd, ρ2, (x1.step r.kb).trans x2, r2, hf, hq⟩) fun _ _ e => e
    cases c with
    | true => exact fin (h1 rfl)
    | false => exact fin (h2 rfl)) fun _ _ e => e)

/-- a while: an invariant with a measure -/
theorem Tr_while {test : Expr} {body : List Stmt} {p : Pos} (J : Nat → Rho → Prop) {n₀ : Nat} (h0 : J n₀ ρ)
    (turn : ∀ n ρ, J n ρ → ∃ b, (∀ B, Ts (a.vw ρ B) test b) ∧ (b = true → Tr a (execs body a.env) ρ (fun fd ρ' => match fd with
      | .nxt | .cnt => ∃ m, m < n ∧ J m ρ'
      | .brk => Q .nxt ρ'
      | .ret d => Q (.ret d) ρ')) ∧ (b = false → Q .nxt ρ)) : Tr a (exec (.While test body [] p) a.env) ρ Q := fun B g s r => by
  refine wpAny_While ?_
  refine codeAny_whileLoop (fun n s' => ∃ g' ρ', J n ρ' ∧ StepTo B g s g' s' ∧ Rel a ρ' B g' s') (fun n s1 ⟨g1, ρ1, hj, x1, r1⟩ => ?_) n₀ ⟨g, ρ, h0, .refl, r⟩
  obtain ⟨b, ht, h1, h2⟩ := turn n ρ1 hj
  refine wpAny_mono (ht B g1 s1 r1) (fun c s2 ⟨e, g2, x2⟩ => ?_) fun _ _ e => e.elim
  subst e
  cases c with
  | false =>
    simp only [Bool.false_eq_true, if_false]
    exact wpAny_execs_nil ⟨g2, .nxt, ρ1, x1.trans (x2.step r1.kb), r1.stable x2, trivial, h2 rfl⟩
  | true =>
    simp only [if_true]
    refine wpAny_mono (h1 rfl B g2 s2 (r1.stable x2)) (fun f s3 ⟨g3, fd, ρ3, x3, r3, hf, hq⟩ => ?_) fun _ _ e => e.elim
    have X := (x1.trans (x2.step r1.kb)).trans x3
    cases f <;> cases fd <;> simp only [FlowIs] at hf
    · obtain ⟨m, hm, hj⟩ := hq; exact ⟨m, hm, g3, ρ3, hj, X, r3⟩
    · exact ⟨g3, .nxt, ρ3, X, r3, trivial, hq⟩
    · obtain ⟨m, hm, hj⟩ := hq; exact ⟨m, hm, g3, ρ3, hj, X, r3⟩
    · exact ⟨g3, .ret _, ρ3, X, r3, hf, hq⟩

/-- an own list becomes data -/
theorem Rel.freeze {B g : Frz} {s : Shared} {x : Str} {ad : Addr} {ds : List PyData} (r : Rel a ρ B g s) (hx : ρ x = some (.own ad (.lst ds))) :
    ∃ g', StepTo B g s g' s ∧ Rel a (ρ.set x (.val (.list ds))) B g' s := by
  obtain ⟨vs, n, ho, hd⟩ := r.mutOf hx
  obtain ⟨h1, h2, h3, h4⟩ := r.own x ad _ hx
  have hle : Le g (frz g ad (lstO vs n)) := frz_le h1
  refine ⟨frz g ad (lstO vs n), ⟨⟨_, _, rfl⟩, hle, fun b o e => frz_ne fun q => by subst q; rw [h2] at e; cases e⟩, ?_⟩
  refine ⟨fun b o e => ?_, r.kb, r.top, ?_, r.bL, fun y c hc => ?_, fun y ad' m hy => ?_, fun y y' ad' m m' hy hy' => ?_, ?_⟩
  · by_cases q : b = ad
    · subst q; rw [frz_self] at e; cases e; exact ho
    · rw [frz_ne q] at e; exact r.fz b o e
  · rw [frz_ne (Ne.symm h3)]; exact r.gL
  · rw [frz_ne (Ne.symm (h4 y c hc))]; exact r.gC y c hc
  · by_cases q : y = x
    · subst q; rw [Rho.set_self] at hy; cases hy
    · rw [Rho.set_ne q] at hy
      have := r.own y ad' m hy
      rw [frz_ne (fun e => q (r.oo y x ad _ _ (e ▸ hy) hx))]
      exact this
  · by_cases q : y = x
    · subst q; rw [Rho.set_self] at hy; cases hy
    · by_cases q' : y' = x
      · subst q'; rw [Rho.set_self] at hy'; cases hy'
      · rw [Rho.set_ne q] at hy; rw [Rho.set_ne q'] at hy'; exact r.oo y y' ad' m m' hy hy'
  · obtain ⟨V, vv, hv⟩ := r.vars
    refine ⟨V, vv, fun y sl hy => ?_⟩
    by_cases q : y = x
    · subst q; rw [Rho.set_self] at hy; cases hy
      obtain ⟨u, hu, rfl, _⟩ := hv y _ hx
      exact ⟨_, hu, .list frz_self (hd.mono hle)⟩
    · rw [Rho.set_ne q] at hy
      obtain ⟨u, hu, hs⟩ := hv y sl hy
      exact ⟨u, hu, hs.mono hle fun _ _ _ _ h => h⟩
theorem Tr_freeze {t : Sem Flow} {x : Str} {ad : Addr} {ds : List PyData} (hx : ρ x = some (.own ad (.lst ds))) (h : Tr a t (ρ.set x (.val (.list ds))) Q) : Tr a t ρ Q := fun B g s r => by
  obtain ⟨g1, x1, r1⟩ := r.freeze hx
  exact wpAny_mono (h B g1 s r1) (fun f s2 ⟨g2, fd, ρ2, x2, r2, hf, hq⟩ => ⟨g2, fd, ρ2, x1.trans x2, r2, hf, hq⟩) fun _ _ e => e
end
end Mine
namespace Mine
open PySem PySem.W PyProof.Rows PySem.Calls
variable {W : Wld}

/-- a def of the text stands at a global name -/
structure FnAt (W : Wld) (name : Str) (params : Arguments) (body : List Stmt) (scope : Scope) (fa : Addr) (o : Obj) (fd : FuncData) : Prop where
  glob : W.mg name = some (.ref fa)
  get : W.H0.get? fa = some o
  data : o.data = .func fd
  qual : fd.qualname = name
  par : fd.params = params
  bod : fd.body = .stmts body
  sco : fd.scope = scope
  glb : fd.globals = mainGlobals
  clo : fd.closure = []
  dfl : fd.defaults = .none
  blt : fd.builtins = builtinsNs
  crec : W.H0.CodeRec fd.code fd.qualname

theorem cells_mem : ∀ (names : List (Str × NameKind)) (n : Nat) (acc : List (Str × Addr)) (x : Str) (c : Addr), (x, c) ∈ cellsFrom n names acc → (x, c) ∈ acc ∨ (x, NameKind.cell) ∈ names
  | [], _, _, _, _, h => .inl h
  | (y, k) :: r, n, acc, x, c, h => by
    unfold cellsFrom at h
    split at h
    · rename_i hk
      rcases cells_mem r _ _ x c h with h | h
      · rcases List.mem_cons.mp h with e | h
        · cases e
          exact .inr (by rw [beq_iff_eq.mp hk]; exact .head _)
        · exact .inl h
      · exact .inr (.tail _ h)
    · rcases cells_mem r _ _ x c h with h | h
      · exact .inl h
      · exact .inr (.tail _ h)
theorem lookup_of_mem {α : Type} : ∀ {l : List (Str × α)} {x : Str} {v : α}, (l.map (·.1)).Nodup → (x, v) ∈ l → l.lookup x = some v
  | (y, w) :: r, x, v, hn, h => by
    rw [List.map_cons, List.nodup_cons] at hn
    rcases List.mem_cons.mp h with e | h
    · cases e; simp [List.lookup]
    · have hne : (x == y) = false := by
        cases hb : x == y with
        | false => rfl
        | true => exact absurd (List.mem_map.mpr ⟨(x, v), h, beq_iff_eq.mp hb⟩) hn.1
      rw [List.lookup_cons, hne]
      exact lookup_of_mem hn.2 h
theorem bindL_not {kindOf : Str → Option NameKind} : ∀ (b : List (Str × Value)) (m : Str → Option Value) (x : Str), x ∉ b.map (·.1) → bindL kindOf b m x = m x
  | [], _, _, _ => rfl
  | (n, v) :: r, m, x, h => by
    unfold bindL
    rw [bindL_not r _ x fun q => h (.tail _ q)]
    split
    · show (if x = n then some v else m x) = m x
      exact if_neg fun (e : x = n) => h (by rw [e]; exact .head _)
    · rfl
theorem bindC_not {kindOf : Str → Option NameKind} : ∀ (b : List (Str × Value)) (m : Str → Option Value) (x : Str), x ∉ b.map (·.1) → bindC kindOf b m x = m x
  | [], _, _, _ => rfl
  | (n, v) :: r, m, x, h => by
    unfold bindC
    rw [bindC_not r _ x fun q => h (.tail _ q)]
    split
    · rfl
    · show (if x = n then some v else m x) = m x
      exact if_neg fun (e : x = n) => h (by rw [e]; exact .head _)
theorem bindL_mem {kindOf : Str → Option NameKind} : ∀ (b : List (Str × Value)) (m : Str → Option Value) (x : Str) (v : Value), (b.map (·.1)).Nodup → (x, v) ∈ b → kindOf x = some .local → bindL kindOf b m x = some v
  | (n, w) :: r, m, x, v, hn, h, hk => by
    rw [List.map_cons, List.nodup_cons] at hn
    unfold bindL
    rcases List.mem_cons.mp h with e | h
    · cases e; rw [bindL_not r _ _ hn.1, if_pos hk]; exact if_pos rfl
    · exact bindL_mem r _ x v hn.2 h hk
theorem bindC_mem {kindOf : Str → Option NameKind} : ∀ (b : List (Str × Value)) (m : Str → Option Value) (x : Str) (v : Value), (b.map (·.1)).Nodup → (x, v) ∈ b → kindOf x ≠ some .local → bindC kindOf b m x = some v
  | (n, w) :: r, m, x, v, hn, h, hk => by
    rw [List.map_cons, List.nodup_cons] at hn
    unfold bindC
    rcases List.mem_cons.mp h with e | h
    · cases e; rw [bindC_not r _ _ hn.1, if_neg hk]; exact if_pos rfl
    · exact bindC_mem r _ x v hn.2 h hk

/-- names, what they are bound to, what that holds -/
inductive Bound (g : Frz) (h : Heap) : List Str → List Value → List Slot → Prop
  | nil : Bound g h [] [] []
  | cons {x : Str} {v : Value} {sl : Slot} {xs : List Str} {vs : List Value} {sls : List Slot} : SlotIs g h v sl → Bound g h xs vs sls → Bound g h (x :: xs) (v :: vs) (sl :: sls)
theorem Bound.of_den {g : Frz} {h : Heap} : ∀ {xs : List Str} {vs : List Value} {ds : List PyData}, DenAll g vs ds → xs.length = ds.length → Bound g h xs vs (ds.map .val)
  | [], _, _, .nil, _ => .nil
  | x :: xs, _, _, .cons hd r, hl => .cons hd (Bound.of_den r (by simpa using hl))
  | [], _, _, .cons _ _, hl => by simp at hl
  | _ :: _, _, _, .nil, hl => by simp at hl
theorem Bound.get {g : Frz} {h : Heap} {xs : List Str} {vs : List Value} {sls : List Slot} (b : Bound g h xs vs sls) {x : Str} {sl : Slot} (hx : (xs.zip sls).lookup x = some sl) : ∃ v, (x, v) ∈ xs.zip vs ∧ SlotIs g h v sl := by
  induction b with
  | nil => simp at hx
  | cons hs r ih =>
    rename_i y v sl' xs vs sls
    rw [List.zip_cons_cons, List.lookup_cons] at hx
    cases hb : x == y with
    | true => rw [hb] at hx; cases hx; rw [beq_iff_eq.mp hb]; exact ⟨v, .head _, hs⟩
    | false => rw [hb] at hx; obtain ⟨u, hu, hsu⟩ := ih hx; exact ⟨u, .tail _ hu, hsu⟩
theorem Bound.len {g : Frz} {h : Heap} {xs : List Str} {vs : List Value} {sls : List Slot} (b : Bound g h xs vs sls) : (xs.zip vs).map (·.1) = xs := by
  induction b with
  | nil => rfl
  | cons hs r ih => rw [List.zip_cons_cons, List.map_cons, ih]

/-- the step of a call that may turn the lent object -/
structure ExtB (B g : Frz) (s : Shared) (g' : Frz) (s' : Shared) : Prop where
  same : ∃ h tk, s' = { s with heap := h, toks := tk }
  keep : InH B s'.heap
  old : ∀ b o, s.heap.get? b = some o → g' b = g b
  le : Le g g'
  fz : InH g' s'.heap

/-- where a call stands -/
structure Room (A : Around) (k : Nat) : Prop where
  hnd : A.handled = none
  dep : A.depth + k < recursionLimit
  uni : A.units + 4 * k + 80 < cLine
theorem Room.dep' {A : Around} {k : Nat} (R : Room A (k + 1)) : A.depth < recursionLimit := by have := R.dep; omega

/-- the activation that a call makes -/
def actOf {params : Arguments} {body : List Stmt} {scope : Scope} {name : Str} {fa : Addr} {o : Obj} {fd : FuncData} (F : FnAt W name params body scope fa o fd) {A : Around} {k : Nat} (R : Room A (k + 1)) (L : Addr)
    (hnd : (scope.names.map (·.1)).Nodup) (hk : scope.kind = .function) (hap : (cellsFrom (L + 1) scope.names []).Pairwise fun x y => x.2 ≠ y.2) (hab : ∀ n c, (n, c) ∈ cellsFrom (L + 1) scope.names [] → L < c) : Act W where
  A := A.deeper (callEnvC fd L fa)
  env := callEnvC fd L fa
  k := k
  hnd := R.hnd
  dep := by have := R.dep; show A.depth + 1 + k < _; omega
  uni := by have := R.uni; show A.units + 3 + 4 * k + 80 < _; omega
  kind := by show fd.scope.kind = _; rw [F.sco]; exact hk
  glb := F.glb
  blt := F.blt
  lc := fun x hx => by
    have hx : scope.names.lookup x = some .local := by rw [← F.sco]; exact hx
    show (cellsFrom (L + 1) fd.scope.names []).lookup x = none
    rw [F.sco]
    cases e : (cellsFrom (L + 1) scope.names []).lookup x with
    | none => rfl
    | some c =>
      rcases cells_mem _ _ _ x c (mem_of_lookup e) with h | h
      · cases h
      · rw [lookup_of_mem hnd h] at hx; cases hx
  apart := fun x y c hx hy => by
    have hx : (cellsFrom (L + 1) scope.names []).lookup x = some c := by rw [← F.sco]; exact hx
    have hy : (cellsFrom (L + 1) scope.names []).lookup y = some c := by rw [← F.sco]; exact hy
    exact name_of_addr hap (mem_of_lookup hx) (mem_of_lookup hy)
  cL := fun x c hx => by
    have hx : (cellsFrom (L + 1) scope.names []).lookup x = some c := by rw [← F.sco]; exact hx
    exact Nat.ne_of_gt (hab x c (mem_of_lookup hx))

theorem isSome_cells : ∀ (names : List (Str × NameKind)) (n : Nat) (acc : List (Str × Addr)) (x : Str), (x, NameKind.cell) ∈ names ∨ (acc.lookup x).isSome = true → ((cellsFrom n names acc).lookup x).isSome = true
  | [], _, _, _, h => by
    rcases h with h | h
    · cases h
    · exact h
  | (y, k) :: r, n, acc, x, h => by
    unfold cellsFrom
    split
    · rename_i hk
      refine isSome_cells r _ _ x ?_
      rcases h with h | h
      · rcases List.mem_cons.mp h with e | h
        · cases e; exact .inr (by simp [List.lookup])
        · exact .inl h
      · refine .inr ?_
        rw [List.lookup_cons]
        cases hb : x == y with
        | true => rfl
        | false => exact h
    · rename_i hk
      refine isSome_cells r _ _ x ?_
      rcases h with h | h
      · rcases List.mem_cons.mp h with e | h
        · cases e; simp at hk
        · exact .inl h
      · exact .inr h

/-- a call from its body's tree -/
theorem call_of {params : Arguments} {body : List Stmt} {scope : Scope} {name : Str} {fa : Addr} {o : Obj} {fd : FuncData} (F : FnAt W name params body scope fa o fd) {k : Nat} {pn : List Str} {sls : List Slot} {P : PyData → Rho → Prop}
    (hnd : (scope.names.map (·.1)).Nodup) (hk : scope.kind = .function) (hco : scope.isCoroutine = false) (hgen : scope.isGenerator = false) (hpn : pn.Nodup)
    (hpk : ∀ x ∈ pn, scope.names.lookup x = some .local ∨ scope.names.lookup x = some .cell)
    (hbind : ∀ vals : List Value, vals.length = pn.length → bindArgs fd ⟨vals, []⟩ = pure (pn.zip vals))
    (hown : ∀ x y ad m m', (pn.zip sls).lookup x = some (.own ad m) → (pn.zip sls).lookup y = some (.own ad m') → x = y)
    (tree : ∀ a : Act W, a.k = k → (∀ x, a.env.kindOf x = scope.names.lookup x) → (∀ x, scope.names.lookup x = some .local ∨ scope.names.lookup x = some .cell → a.has x) → a.env.scope = scope →
      Tr a (execs body a.env) (fun x => (pn.zip sls).lookup x) (fun fd ρ' => match fd with | .ret d => P d ρ' | .nxt => P .none ρ' | _ => False))
    (hfin : ∀ d ρ', P d ρ' → ∀ x ad m, (pn.zip sls).lookup x = some (.own ad m) → ∃ y m', ρ' y = some (.own ad m'))
    {A : Around} (R : Room A (k + 1)) {g B : Frz} {s : Shared} {vals : List Value} (fz : InH g s.heap) (kb : InH B s.heap) (top : ∀ b o, W.H0.get? b = some o → B b = some o)
    (hb : Bound g s.heap pn vals sls) (hlen : vals.length = pn.length) (hlent : ∀ x ad m, (pn.zip sls).lookup x = some (.own ad m) → g ad = none ∧ B ad = none)
    (hB : ∀ b o, s.heap.get? b = some o → B b = some o ∨ ∃ x m, (pn.zip sls).lookup x = some (.own b m)) :
    codeAny (model W.prog W.w) A (.call (.ref fa) ⟨vals, []⟩) (fun r s' => ∃ v g' d ρ', r = .ok (.ret v) ∧ ExtB B g s g' s' ∧ Den g' v d ∧ P d ρ' ∧ (∀ x ad m, ρ' x = some (.own ad m) → MutIs g' s'.heap ad m ∧ g' ad = none)
      ) s := by
  have H0s : ∀ b o, W.H0.get? b = some o → s.heap.get? b = some o := fun b o e => kb b o (top b o e)
  have hzl : (pn.zip vals).map (·.1) = pn := hb.len
  have hkind : ∀ x ∈ pn.zip vals, fd.scope.names.lookup x.1 = some .local ∨ (fd.scope.names.lookup x.1 = some .cell ∧ ((cellsFrom (s.heap.objs.size + 1) fd.scope.names []).lookup x.1).isSome = true) := by
    intro x hx
    have hm : x.1 ∈ pn := by rw [← hzl]; exact List.mem_map_of_mem hx
    rw [F.sco]
    rcases hpk _ hm with h | h
    · exact .inl h
    · exact .inr ⟨h, isSome_cells _ _ _ _ (.inl (mem_of_lookup h))⟩
  refine codeAny_mono (codeAny_call_cells R.dep' (H0s _ _ F.get) F.data (W.lim.keeps H0s) (F.crec.keeps H0s) F.bod (hbind vals hlen) F.clo hkind (fun s1 x1 => ?_) (by rw [F.sco]; exact hco) (by rw [F.sco]; exact hgen) (by rw [F.sco]; exact hk)
    (R := fun r s' => ∃ v g' d ρ', r = .ok (.ret v) ∧ ExtB B g s g' s' ∧ Den g' v d ∧ P d ρ' ∧ (∀ x ad m, ρ' x = some (.own ad m) → MutIs g' s'.heap ad m ∧ g' ad = none))) fun _ _ h => h
  have keepS : ∀ b o, s.heap.get? b = some o → s1.heap.get? b = some o := x1.toInCall.keep
  have fresh : s.heap.objs.size ≤ (callEnvC fd s.heap.objs.size fa).locals := x1.toInCall.fresh
  have e0 : (callEnvC fd s.heap.objs.size fa).cells = cellsFrom (s.heap.objs.size + 1) scope.names [] := by show cellsFrom _ fd.scope.names [] = _; rw [F.sco]
  let a : Act W := actOf F R s.heap.objs.size hnd hk (e0 ▸ x1.apart) (fun n c h => x1.above n c (e0 ▸ h))
  have newL : ∀ b o, s.heap.get? b = some o → b < (callEnvC fd s.heap.objs.size fa).locals := fun b o e => Nat.lt_of_lt_of_le (Heap.lt_size e) fresh
  have newC : ∀ x c, (callEnvC fd s.heap.objs.size fa).cells.lookup x = some c → ∀ b o, s.heap.get? b = some o → b < c := fun x c hc b o e => Nat.lt_trans (newL b o e) (x1.above x c (mem_of_lookup hc))
  have none_of : ∀ {f : Frz} {z : Addr}, InH f s.heap → (∀ b o, s.heap.get? b = some o → b < z) → f z = none := fun {f z} hf hz => by
    cases e : f z with
    | none => rfl
    | some o => exact absurd (hz _ _ (hf _ _ e)) (Nat.lt_irrefl _)
  have hkk : ∀ x, a.env.kindOf x = scope.names.lookup x := fun x => by show fd.scope.names.lookup x = _; rw [F.sco]
  have hhas : ∀ x, scope.names.lookup x = some .local ∨ scope.names.lookup x = some .cell → a.has x := fun x hx => by
    rcases hx with h | h
    · exact .inl ((hkk x).trans h)
    · refine .inr ⟨(hkk x).trans h, ?_⟩
      have := isSome_cells scope.names (s.heap.objs.size + 1) [] x (.inl (mem_of_lookup h))
      rw [← e0] at this
      exact Option.isSome_iff_exists.mp this
  have hrel : Rel a (fun x => (pn.zip sls).lookup x) B g s1 := by
    refine ⟨fun b o e => keepS b o (fz b o e), fun b o e => keepS b o (kb b o e), top, none_of fz newL, none_of kb newL, fun x c hc => ⟨none_of fz (newC x c hc), none_of kb (newC x c hc)⟩, fun x ad m hx => ?_, hown, ?_⟩
    · obtain ⟨v, hv, hs⟩ := hb.get hx
      obtain ⟨o, ho⟩ := hs.2.live
      exact ⟨(hlent x ad m hx).1, (hlent x ad m hx).2, Nat.ne_of_lt (newL _ _ ho), fun y c hc => Nat.ne_of_lt (newC y c hc _ _ ho)⟩
    · refine ⟨fun x => if ((callEnvC fd s.heap.objs.size fa).cells.lookup x).isSome then bindC (callEnvC fd s.heap.objs.size fa).kindOf (pn.zip vals) (fun _ => none) x else bindL (callEnvC fd s.heap.objs.size fa).kindOf (pn.zip vals) (fun _ => none) x, ⟨⟨_, x1.toInCall.ns, fun x hx => ?_⟩, fun x c hc => ?_⟩, fun x sl hx => ?_⟩
      · have := a.lc x hx
        have e : (callEnvC fd s.heap.objs.size fa).cells.lookup x = none := this
        simp only [e, Option.isSome_none, Bool.false_eq_true, if_false]
      · have hc' : (callEnvC fd s.heap.objs.size fa).cells.lookup x = some c := hc
        simp only [hc', Option.isSome_some, if_true]
        exact x1.cell x c hc
      · obtain ⟨v, hv, hs⟩ := hb.get hx
        refine ⟨v, ?_, hs.mono .refl fun ad m e o h => keepS _ _ h⟩
        have hpx : x ∈ pn := by rw [← hzl]; exact List.mem_map_of_mem hv
        rcases hpk x hpx with h | h
        · have hl : (callEnvC fd s.heap.objs.size fa).kindOf x = some .local := (hkk x).trans h
          have e : (callEnvC fd s.heap.objs.size fa).cells.lookup x = none := a.lc x hl
          simp only [e, Option.isSome_none, Bool.false_eq_true, if_false]
          exact bindL_mem _ _ x v (by rw [hzl]; exact hpn) hv hl
        · have hl : (callEnvC fd s.heap.objs.size fa).kindOf x = some .cell := (hkk x).trans h
          obtain ⟨c, hc⟩ : ∃ c, (callEnvC fd s.heap.objs.size fa).cells.lookup x = some c := by
            rcases hhas x (.inr h) with q | q
            · rw [show (callEnvC fd s.heap.objs.size fa).kindOf x = some .local from q] at hl; cases hl
            · exact q.2
          simp only [hc, Option.isSome_some, if_true]
          exact bindC_mem _ _ x v (by rw [hzl]; exact hpn) hv (by rw [hl]; simp)
  refine wpAny_mono (tree a rfl hkk hhas F.sco B g s1 hrel) (fun f s2 ⟨g2, fl, ρ2, st, r2, hf, hq⟩ => ?_) fun _ _ e => e.elim
  obtain ⟨h1, t1, e1⟩ := x1.toInCall.same
  obtain ⟨h2, t2, e2⟩ := st.same
  have hsame : ∃ h tk, s2 = { s with heap := h, toks := tk } := ⟨h2, t2, by rw [e2, e1]⟩
  have hold : ∀ d, P d ρ2 → ∀ b o, s.heap.get? b = some o → g2 b = g b := fun d hp b o hb => by
    rcases hB b o hb with h | ⟨x, m, h⟩
    · exact st.agree b o h
    · obtain ⟨y, m', hy⟩ := hfin d ρ2 hp x b m h
      rw [(r2.own y b m' hy).1, (hlent x b m h).1]
  have X : ∀ d, P d ρ2 → ExtB B g s g2 s2 := fun d hp => ⟨hsame, r2.kb, hold d hp, st.le, r2.fz⟩
  have M : ∀ x ad m, ρ2 x = some (.own ad m) → MutIs g2 s2.heap ad m ∧ g2 ad = none := fun x ad m hx => ⟨r2.mutOf hx, (r2.own x ad m hx).1⟩
  cases f <;> cases fl <;> simp only [FlowIs] at hf
  · exact ⟨.none, g2, .none, ρ2, rfl, X _ hq, .none, hq, M⟩
  · exact hq.elim
  · exact hq.elim
  · exact ⟨_, g2, _, ρ2, rfl, X _ hq, hf, hq, M⟩

/-- a def that turns nothing: its datum -/
def FnPure (W : Wld) (name : Str) (k : Nat) (args : List PyData) (d : PyData) : Prop := ∀ fa, W.mg name = some (.ref fa) → ∀ (A : Around), Room A k → ∀ g s vals, InH g s.heap → (∀ b o, W.H0.get? b = some o → s.heap.get? b = some o) →
  DenAll g vals args → codeAny (model W.prog W.w) A (.call (.ref fa) ⟨vals, []⟩) (fun r s' => ∃ v g', r = .ok (.ret v) ∧ Ext g s g' s' ∧ Den g' v d) s
/-- a def that turns its first argument's object alone -/
def FnLent (W : Wld) (name : Str) (k : Nat) (m : Mut) (args : List PyData) (d : PyData) (m' : Mut) : Prop := ∀ fa, W.mg name = some (.ref fa) → ∀ (A : Around), Room A k → ∀ g s ad vals, InH g s.heap →
  (∀ b o, W.H0.get? b = some o → s.heap.get? b = some o) → W.H0.get? ad = none → g ad = none → MutIs g s.heap ad m → DenAll g vals args →
  codeAny (model W.prog W.w) A (.call (.ref fa) ⟨.ref ad :: vals, []⟩) (fun r s' => ∃ v g', r = .ok (.ret v) ∧ ExtB (fun b => if b = ad then none else s.heap.get? b) g s g' s' ∧ Den g' v d ∧ MutIs g' s'.heap ad m' ∧ g' ad = none) s

theorem Room.le {A : Around} {k k' : Nat} (R : Room A k) (h : k' ≤ k) : Room A k' := ⟨R.hnd, by have := R.dep; omega, by have := R.uni; omega⟩
theorem FnPure.le {name : Str} {k k' : Nat} {args : List PyData} {d : PyData} (h : FnPure W name k args d) (hk : k ≤ k') : FnPure W name k' args d := fun fa hf A R => h fa hf A (R.le hk)
theorem FnLent.le {name : Str} {k k' : Nat} {m m' : Mut} {args : List PyData} {d : PyData} (h : FnLent W name k m args d m') (hk : k ≤ k') : FnLent W name k' m args d m' := fun fa hf A R => h fa hf A (R.le hk)

theorem no_own {pn : List Str} {args : List PyData} {x : Str} {ad : Addr} {m : Mut} : ¬ (pn.zip (args.map Slot.val)).lookup x = some (.own ad m) := fun h => by
  obtain ⟨_, h2⟩ := List.of_mem_zip (mem_of_lookup h)
  obtain ⟨d, _, e⟩ := List.mem_map.mp h2
  cases e

theorem FnPure.of {params : Arguments} {body : List Stmt} {scope : Scope} {name : Str} {fa : Addr} {o : Obj} {fd : FuncData} (F : FnAt W name params body scope fa o fd) {k : Nat} {pn : List Str} {args : List PyData} {d : PyData}
    (hbind : ∀ vals : List Value, vals.length = pn.length → bindArgs fd ⟨vals, []⟩ = pure (pn.zip vals))
    (tree : ∀ a : Act W, a.k = k → (∀ x, a.env.kindOf x = scope.names.lookup x) → (∀ x, scope.names.lookup x = some .local ∨ scope.names.lookup x = some .cell → a.has x) → a.env.scope = scope →
      Tr a (execs body a.env) (fun x => (pn.zip (args.map .val)).lookup x) (fun fd ρ' => match fd with | .ret d' => d' = d | .nxt => PyData.none = d | _ => False))
    (hl : pn.length = args.length := by rfl)
    (hnd : (scope.names.map (·.1)).Nodup := by decide) (hpn : pn.Nodup := by decide)
    (hpk : ∀ x ∈ pn, scope.names.lookup x = some .local ∨ scope.names.lookup x = some .cell := by decide)
    (hk : scope.kind = .function := by rfl) (hco : scope.isCoroutine = false := by rfl) (hgen : scope.isGenerator = false := by rfl) : FnPure W name (k + 1) args d := by
  intro fa' hf A R g s vals fz H0 hd
  have e : fa' = fa := by have := F.glob; rw [hf] at this; cases this; rfl
  subst e
  have hv : vals.length = pn.length := hd.length.trans hl.symm
  refine codeAny_mono (call_of F (sls := args.map .val) (P := fun d' _ => d' = d) hnd hk hco hgen hpn hpk hbind (fun x y ad m m' h => absurd h no_own)
    (fun a h1 h2 h3 h4 => Tr_mono (tree a h1 h2 h3 h4) fun fl ρ' q => by cases fl <;> exact q) (fun d ρ' _ x ad m h => absurd h no_own) R (B := fun b => s.heap.get? b) fz (fun _ _ e => e) H0 (Bound.of_den hd (by simpa using hl)) hv (fun x ad m h => absurd h no_own) fun b o h => .inl h) ?_
  rintro r s' ⟨v, g', d', ρ', rfl, x, hd', rfl, _⟩
  exact ⟨v, g', rfl, ⟨x.same, x.keep, x.old, x.le, x.fz⟩, hd'⟩

theorem FnLent.of {params : Arguments} {body : List Stmt} {scope : Scope} {name : Str} {fa : Addr} {o : Obj} {fd : FuncData} (F : FnAt W name params body scope fa o fd) {k : Nat} {p0 : Str} {pn : List Str} {m m' : Mut} {args : List PyData} {d : PyData}
    (hbind : ∀ vals : List Value, vals.length = (p0 :: pn).length → bindArgs fd ⟨vals, []⟩ = pure ((p0 :: pn).zip vals))
    (tree : ∀ (a : Act W) (ad : Addr), a.k = k → (∀ x, a.env.kindOf x = scope.names.lookup x) → (∀ x, scope.names.lookup x = some .local ∨ scope.names.lookup x = some .cell → a.has x) → a.env.scope = scope →
      Tr a (execs body a.env) (fun x => ((p0 :: pn).zip (.own ad m :: args.map .val)).lookup x) (fun fd ρ' => ρ' p0 = some (.own ad m') ∧ match fd with | .ret d' => d' = d | .nxt => PyData.none = d | _ => False))
    (hl : pn.length = args.length := by rfl)
    (hnd : (scope.names.map (·.1)).Nodup := by decide) (hpn : (p0 :: pn).Nodup := by decide)
    (hpk : ∀ x ∈ p0 :: pn, scope.names.lookup x = some .local ∨ scope.names.lookup x = some .cell := by decide)
    (hk : scope.kind = .function := by rfl) (hco : scope.isCoroutine = false := by rfl) (hgen : scope.isGenerator = false := by rfl) : FnLent W name (k + 1) m args d m' := by
  intro fa' hf A R g s ad vals fz H0 hH0 hgad hm hd
  have e : fa' = fa := by have := F.glob; rw [hf] at this; cases this; rfl
  subst e
  have hv : (Value.ref ad :: vals).length = (p0 :: pn).length := by simp [hd.length, hl]
  have own0 : ∀ {x : Str} {a' : Addr} {m1 : Mut}, ((p0 :: pn).zip (Slot.own ad m :: args.map .val)).lookup x = some (.own a' m1) → x = p0 ∧ a' = ad := fun {x a' m1} h => by
    rw [List.zip_cons_cons, List.lookup_cons] at h
    cases hb : x == p0 with
    | true => rw [hb] at h; cases h; exact ⟨beq_iff_eq.mp hb, rfl⟩
    | false => rw [hb] at h; exact absurd h no_own
  refine codeAny_mono (call_of F (sls := .own ad m :: args.map .val) (P := fun d' ρ' => d' = d ∧ ρ' p0 = some (.own ad m')) hnd hk hco hgen hpn hpk hbind (fun x y a' m1 m2 h1 h2 => by rw [(own0 h1).1, (own0 h2).1])
    (fun a h1 h2 h3 h4 => Tr_mono (tree a ad h1 h2 h3 h4) fun fl ρ' q => by
      cases fl with
      | ret d' => exact ⟨q.2, q.1⟩
      | nxt => exact ⟨q.2, q.1⟩
      | brk => exact q.2
      | cnt => exact q.2) (fun d' ρ' hp x a' m1 h => ⟨p0, m', by rw [(own0 h).2]; exact hp.2⟩) R (B := fun b => if b = ad then none else s.heap.get? b) fz (fun b o e => by
        by_cases q : b = ad
        · simp [q] at e
        · simpa [q] using e) (fun b o e => by
        by_cases q : b = ad
        · subst q; rw [hH0] at e; cases e
        · simp only [q, if_false]; exact H0 b o e) (.cons ⟨rfl, hm⟩ (Bound.of_den hd (by simpa using hl))) hv (fun x a' m1 h => by
        obtain ⟨_, rfl⟩ := own0 h
        exact ⟨hgad, by simp⟩) fun b o h => ?_) ?_
  · by_cases q : b = ad
    · subst q
      exact .inr ⟨p0, m, by simp [List.lookup]⟩
    · exact .inl (by simp only [q, if_false]; exact h)
  · rintro r s' ⟨v, g', d', ρ', rfl, x, hd', ⟨rfl, hp⟩, hM⟩
    obtain ⟨h1, h2⟩ := hM _ _ _ hp
    exact ⟨v, g', rfl, x, hd', h1, h2⟩
end Mine
namespace Mine
open PySem PySem.W PyProof.Rows PySem.Calls
variable {W : Wld}

section
variable {a : Act W} {ρ : Rho} {Q : FlowD → Rho → Prop} {P : PyData → Rho → Prop}
theorem Rel.mutate {B g : Frz} {s : Shared} {x : Str} {ad : Addr} {m m' : Mut} (r : Rel a ρ B g s) (hx : ρ x = some (.own ad m)) {h' : Heap} {tk : Nat} (hs : Heap.ExtBut ad s.heap h') (hm : MutIs g h' ad m') :
    Rel a (ρ.set x (.own ad m')) B g { s with heap := h', toks := tk } := by
  obtain ⟨h1, h2, h3, h4⟩ := r.own x ad m hx
  obtain ⟨V, vv, hv⟩ := r.vars
  refine ⟨fun b o e => ?_, fun b o e => ?_, r.top, r.gL, r.bL, r.gC, fun y ad' m1 hy => ?_, fun y y' ad' m1 m2 hy hy' => ?_, V, ⟨?_, fun y c hc => ?_⟩, fun y sl hy => ?_⟩
  · exact hs b o (fun q => by subst q; rw [h1] at e; cases e) (r.fz b o e)
  · exact hs b o (fun q => by subst q; rw [h2] at e; cases e) (r.kb b o e)
  · by_cases q : y = x
    · subst q; rw [Rho.set_self] at hy; cases hy; exact ⟨h1, h2, h3, h4⟩
    · rw [Rho.set_ne q] at hy; exact r.own y ad' m1 hy
  · by_cases q : y = x
    · subst q
      by_cases q' : y' = y
      · exact q'.symm
      · rw [Rho.set_self] at hy; cases hy; rw [Rho.set_ne q'] at hy'; exact r.oo y y' ad m m2 hx hy'
    · by_cases q' : y' = x
      · subst q'; rw [Rho.set_self] at hy'; cases hy'; rw [Rho.set_ne q] at hy; exact r.oo y y' ad m1 m hy hx
      · rw [Rho.set_ne q] at hy; rw [Rho.set_ne q'] at hy'; exact r.oo y y' ad' m1 m2 hy hy'
  · obtain ⟨mm, hn, hmm⟩ := vv.ns
    exact ⟨mm, hn.extBut hs (Ne.symm h3), hmm⟩
  · obtain ⟨o, ho, hd⟩ := vv.cell y c hc
    exact ⟨o, hs c o (Ne.symm (h4 y c hc)) ho, hd⟩
  · by_cases q : y = x
    · subst q; rw [Rho.set_self] at hy; cases hy
      obtain ⟨u, hu, e, _⟩ := hv y _ hx
      exact ⟨u, hu, e, hm⟩
    · rw [Rho.set_ne q] at hy
      obtain ⟨u, hu, hsl⟩ := hv y sl hy
      refine ⟨u, hu, hsl.mono .refl fun ad' m1 e o h => hs _ o (fun e' => q ?_) h⟩
      exact r.oo y x ad' m1 m (e ▸ hy) (e' ▸ hx)

/-- a pure call of a def -/
theorem Ev_fn {V : Vw W} {x : Str} {np p : Pos} {e : Expr} {es : List Expr} {fa : Addr} {o : Obj} {fd : FuncData} {k : Nat} {ds : List PyData} {d : PyData} (G : GlobIs V x (.ref fa)) (hg : W.mg x = some (.ref fa)) (ho : W.H0.get? fa = some o) (hd : o.data = .func fd)
    (hf : FnPure W x k ds d) (hk : k ≤ V.k) (ha : EvAll V p (e :: es) ds) (hdb : (x == ("__debug__" : Str)) = false := by decide) (hs : starEach (e :: es) V.env = (false, eval e V.env) :: starEach es V.env := by rfl) :
    Ev V (.Call (.Name x np) (e :: es) [] p) d :=
  Ev_call (P := fun g s v s' => ∃ g', Ext g s g' s' ∧ Den g' v d) G (fun g s i => callWith_def hd (wpAny_mono (ha g s i) (fun vs s1 ⟨g1, x1, d1⟩ => by
    have i1 := V.stable i x1
    refine ⟨V.top i1 _ _ ho, wpAny_call ?_⟩
    refine codeAny_mono (hf fa hg V.A (Room.le ⟨V.hnd, V.dep, V.uni⟩ hk) g1 s1 vs (V.fz i1) (V.top i1) d1) ?_
    rintro r s2 ⟨v, g2, rfl, x2, d2⟩
    exact ⟨g2, x1.trans x2, d2⟩) fun _ _ e => e) hs) hdb

/-- a call that turns the object of its first argument -/
theorem EvX_fn {x y : Str} {np yp p : Pos} {es : List Expr} {fa ad : Addr} {o : Obj} {fd : FuncData} {k : Nat} {m m' : Mut} {ds : List PyData} {d : PyData} (hkx : a.env.kindOf x = some .globalImplicit) (hg : W.mg x = some (.ref fa)) (ho : W.H0.get? fa = some o) (hd : o.data = .func fd)
    (hy : ρ y = some (.own ad m)) (hay : a.has y) (hf : FnLent W x k m ds d m') (hk : k ≤ a.k) (ha : ∀ B, EvAll (a.vw ρ B) p es ds) (hq : P d (ρ.set y (.own ad m')))
    (hdb : (x == ("__debug__" : Str)) = false := by decide) (hyb : (y == ("__debug__" : Str)) = false := by decide) (hs : starEach (.Name y yp :: es) a.env = (false, eval (.Name y yp) a.env) :: starEach es a.env := by rfl) :
    EvX a (.Call (.Name x np) (.Name y yp :: es) [] p) ρ P := fun B g s r => by
  have G : GlobIs (a.vw ρ B) x (.ref fa) := ⟨hkx, .inl hg⟩
  refine Call_ (glob_name G r ?_ hdb)
  refine callWith_def hd (args_cons (wpAny_Name (load_name r hy hay fun v hv => ?_) hyb) hs) hs
  obtain ⟨rfl, _⟩ := hv
  refine wpAny_mono (ha B g s r) (fun vs s1 ⟨g1, x1, d1⟩ => ?_) fun _ _ e => e
  have r1 := r.stable x1
  obtain ⟨h1, h2, h3, h4⟩ := r1.own y ad m hy
  have H0 : ∀ b o, W.H0.get? b = some o → s1.heap.get? b = some o := fun b o e => r1.kb b o (r1.top b o e)
  refine ⟨H0 _ _ ho, wpAny_call ?_⟩
  have hH0 : W.H0.get? ad = none := by
    cases e : W.H0.get? ad with
    | none => rfl
    | some o => rw [r.top _ _ e] at h2; cases h2
  refine codeAny_mono (hf fa hg a.A (Room.le ⟨a.hnd, a.dep, a.uni⟩ hk) g1 s1 ad vs r1.fz H0 hH0 h1 (r1.mutOf hy) d1) ?_
  rintro rr s2 ⟨v, g2, rfl, x2, d2, hM, hgn⟩
  have keep : ∀ b o, b ≠ ad → s1.heap.get? b = some o → s2.heap.get? b = some o := fun b o hb e => x2.keep b o (by simp only [hb, if_false]; exact e)
  have st2 : StepTo B g1 s1 g2 s2 := ⟨x2.same, x2.le, fun b o e => x2.old b o (r1.kb b o e)⟩
  refine ⟨g2, d, _, (x1.step r.kb).trans st2, ?_, d2, hq⟩
  obtain ⟨V, vv, hv⟩ := r1.vars
  refine ⟨x2.fz, fun b o e => keep b o (fun q => by subst q; rw [h2] at e; cases e) (r1.kb b o e), r1.top, ?_, r1.bL, fun z c hc => ⟨?_, (r1.gC z c hc).2⟩, fun z ad' m1 hz => ?_, fun z z' ad' m1 m2 hz hz' => ?_, V, ⟨?_, fun z c hc => ?_⟩, fun z sl hz => ?_⟩
  · obtain ⟨oL, hL⟩ := r1.liveL; rw [x2.old _ _ hL]; exact r1.gL
  · obtain ⟨oL, hL⟩ := r1.liveC hc; rw [x2.old _ _ hL]; exact (r1.gC z c hc).1
  · by_cases q : z = y
    · subst q; rw [Rho.set_self] at hz; cases hz; exact ⟨hgn, h2, h3, h4⟩
    · rw [Rho.set_ne q] at hz
      obtain ⟨oL, hL⟩ := (r1.mutOf hz).live
      rw [x2.old _ _ hL]; exact r1.own z ad' m1 hz
  · by_cases q : z = y
    · subst q
      by_cases q' : z' = z
      · exact q'.symm
      · rw [Rho.set_self] at hz; cases hz; rw [Rho.set_ne q'] at hz'; exact r1.oo z z' ad m m2 hy hz'
    · by_cases q' : z' = y
      · subst q'; rw [Rho.set_self] at hz'; cases hz'; rw [Rho.set_ne q] at hz; exact r1.oo z z' ad m1 m hz hy
      · rw [Rho.set_ne q] at hz; rw [Rho.set_ne q'] at hz'; exact r1.oo z z' ad' m1 m2 hz hz'
  · obtain ⟨mm, hn, hmm⟩ := vv.ns
    exact ⟨mm, hn.extBut (fun b o hb e => keep b o hb e) (Ne.symm h3), hmm⟩
  · obtain ⟨oc, hoc, hdc⟩ := vv.cell z c hc
    exact ⟨oc, keep c oc (Ne.symm (h4 z c hc)) hoc, hdc⟩
  · by_cases q : z = y
    · subst q; rw [Rho.set_self] at hz; cases hz
      obtain ⟨u, hu, e, _⟩ := hv z _ hy
      exact ⟨u, hu, e, hM⟩
    · rw [Rho.set_ne q] at hz
      obtain ⟨u, hu, hsl⟩ := hv z sl hz
      exact ⟨u, hu, hsl.mono x2.le fun ad' m1 e o h => keep _ o (fun e' => q (r1.oo z y ad' m1 m (e ▸ hz) (e' ▸ hy))) h⟩

theorem MutIs.upd {g : Frz} {h : Heap} {ad : Addr} {vs ws : List Value} {n : Nat} {ds : List PyData} {f : Array Value → Array Value} (h1 : h.get? ad = some (lstO vs n)) (e : f vs.toArray = ws.toArray) (h2 : DenAll g ws ds) :
    MutIs g (h.update ad (Obj.mapSeq f)) ad (.lst ds) := ⟨ws, _, by rw [IsL.update h1, e], h2⟩
theorem upd_ext {h : Heap} {l : Addr} (f : Obj → Obj) : Heap.ExtBut l h (h.update l f) := (Heap.SameBut.update ..).extBut

/-- a method of an own list: its head -/
theorem method_own {x name : Str} {id : String} {xp ap p : Pos} {es : List Expr} {ad : Addr} {ds : List PyData} (hx : ρ x = some (.own ad (.lst ds))) (hax : a.has x) (slot : PySem.Slot "list" name id) (hty : typeOf (.builtin id) = pure (.type "method_descriptor"))
    (hline : (ap.endLine == p.line) = true)
    (hfew : ((backTo p (starEach es a.env)).all (fun x => !x.1) && (backToKw p (keywordEach [] a.env)).all (fun x => x.1.isSome) && decide (es.length + ([] : List Keyword).length + (if ([] : List Keyword).isEmpty then 0 else 1) < 30)) = true)
    (h : ∀ B g s, Rel a ρ B g s → wpAny (model W.prog W.w) a.A (callWith p (.builtin id) [.ref ad] (backTo p (starEach es a.env)) []) (fun v s' => ∃ g' d ρ', StepTo B g s g' s' ∧ Rel a ρ' B g' s' ∧ Den g' v d ∧ P d ρ') noE s)
    (hxb : (x == ("__debug__" : Str)) = false := by decide) : EvX a (.Call (.Attribute (.Name x xp) name ap) es [] p) ρ P := fun B g s r => by
  refine wpAny_Call_method_late rfl hfew hline rfl (wpAny_Name (load_name r hx hax fun v hv => ?_) hxb)
  obtain ⟨rfl, vs, n, ho, hd⟩ := hv
  exact ⟨"list", id, F.plainAttrs_list, slot, hty, ⟨_, ho, rfl⟩, fun b e => by cases e; exact ⟨_, ho, rfl⟩, h B g s r⟩

/-- x.append(e) -/
theorem EvX_append {x : Str} {e : Expr} {xp ap p : Pos} {ad : Addr} {ds0 : List PyData} (hx : ρ x = some (.own ad (.lst ds0))) (hax : a.has x)
    (he : EvX a e ρ (fun d ρ1 => ∃ ds, ρ1 x = some (.own ad (.lst ds)) ∧ Small ds.length ∧ P .none (ρ1.set x (.own ad (.lst (ds ++ [d]))))))
    (hline : (ap.endLine == p.line) = true := by rfl) (hs : backTo p (starEach [e] a.env) = [(false, eval e a.env)] := by rfl) (hxb : (x == ("__debug__" : Str)) = false := by decide) :
    EvX a (.Call (.Attribute (.Name x xp) "append" ap) [e] [] p) ρ P :=
  method_own hx hax F.slot_list_append F.type_list_append hline (by rw [hs]; rfl) (fun B g s r => by
    rw [hs]
    refine PySem.P.append_list (wpAny_mono (he B g s r) (fun v s1 ⟨g1, d, ρ1, st, r1, hd, ds, h1, hz, hp⟩ => ?_) fun _ _ e => e)
    obtain ⟨vs, n, ho, hds⟩ := r1.mutOf h1
    refine ⟨vs.toArray, n, by rw [List.size_toArray, hds.length]; exact hz, ho, ?_⟩
    refine ⟨g1, .none, _, st.trans (.heap (t := s1.toks)), Rel.mutate r1 h1 (upd_ext _) (MutIs.upd (ws := vs ++ [v]) ho (by simp) (hds.append (.one hd))), .none, hp⟩) hxb

/-- x.pop() -/
theorem EvX_pop {x : Str} {xp ap p : Pos} {ad : Addr} {ds : List PyData} {d : PyData} (hx : ρ x = some (.own ad (.lst (ds ++ [d])))) (hax : a.has x) (hz : Small (ds.length + 1)) (hp : P d (ρ.set x (.own ad (.lst ds))))
    (hline : (ap.endLine == p.line) = true := by rfl) (hxb : (x == ("__debug__" : Str)) = false := by decide) :
    EvX a (.Call (.Attribute (.Name x xp) "pop" ap) [] [] p) ρ P :=
  method_own hx hax F.slot_list_pop F.type_list_pop hline rfl (fun B g s r => by
    obtain ⟨vs, n, ho, hds⟩ := r.mutOf hx
    have hlen := hds.length
    rw [List.length_append, List.length_singleton] at hlen
    obtain ⟨v, hv, hd⟩ := hds.get (k := ds.length) (d := d) (by simp)
    refine PySem.P.pop_list ho (y := v) (by rw [List.size_toArray, hlen]; simpa using hv) ?_ (by rw [List.size_toArray, hlen]; exact hz)
    refine ⟨g, d, _, .heap (t := s.toks), Rel.mutate r hx (upd_ext _) (MutIs.upd (ws := vs.take ds.length) ho ?_ (by simpa using hds.take ds.length)), hd, hp⟩
    rw [List.size_toArray, hlen]
    simp only [Nat.add_sub_cancel]
    apply Array.toList_inj.mp
    rw [Array.toList_eraseIdxIfInBounds]
    simp only
    rw [List.eraseIdx_eq_take_drop_succ]
    have : vs.drop (ds.length + 1) = [] := List.drop_eq_nil_of_le (by omega)
    rw [this, List.append_nil]) hxb

/-- x.pop(i) -/
theorem EvX_pop_at {x : Str} {e : Expr} {xp ap p : Pos} {ad : Addr} {ds : List PyData} {i : Int} {d : PyData} (hx : ρ x = some (.own ad (.lst ds))) (hax : a.has x) (hz : Small ds.length) (he : ∀ B, Ev (a.vw ρ B) e (.int i))
    (h0 : 0 ≤ i) (hd : ds[i.toNat]? = some d) (hp : P d (ρ.set x (.own ad (.lst (ds.eraseIdx i.toNat)))))
    (hline : (ap.endLine == p.line) = true := by rfl) (hs : backTo p (starEach [e] a.env) = [(false, eval e a.env)] := by rfl) (hxb : (x == ("__debug__" : Str)) = false := by decide) :
    EvX a (.Call (.Attribute (.Name x xp) "pop" ap) [e] [] p) ρ P :=
  method_own hx hax F.slot_list_pop F.type_list_pop hline (by rw [hs]; rfl) (fun B g s r => by
    rw [hs]
    refine PySem.P.pop_at_list (wpAny_mono (he B g s r) (fun v s1 ⟨g1, x1, hi⟩ => ?_) fun _ _ e => e)
    obtain ⟨u, rfl⟩ := hi.int_inv
    have r1 := r.stable x1
    obtain ⟨vs, n, ho, hds⟩ := r1.mutOf hx
    have hlen := hds.length
    obtain ⟨w, hw, hdw⟩ := hds.get hd
    have hlt : i.toNat < ds.length := by
      rcases Nat.lt_or_ge i.toNat ds.length with h | h
      · exact h
      · rw [List.getElem?_eq_none h] at hd; cases hd
    have hs' := sizeLine_eq
    have hfit : i < 2 ^ 63 := by unfold Small at hz; omega
    refine ⟨vs.toArray, n, i, u, i.toNat, w, by rw [List.size_toArray, hlen]; exact hz, rfl, ho, fitsIndex_of h0 hfit, seqIndex_of h0 (by rw [List.size_toArray, hlen]; omega), by simpa using hw, ?_⟩
    refine ⟨g1, d, _, (x1.step r.kb).trans (.heap (t := s1.toks)), Rel.mutate r1 hx (upd_ext _) (MutIs.upd (ws := vs.eraseIdx i.toNat) ho ?_ (hds.eraseIdx _)), hdw, hp⟩
    apply Array.toList_inj.mp
    rw [Array.toList_eraseIdxIfInBounds]) hxb

/-- x.extend(e) -/
theorem EvX_extend {x : Str} {e : Expr} {xp ap p : Pos} {ad : Addr} {ds es : List PyData} (hx : ρ x = some (.own ad (.lst ds))) (hax : a.has x) (he : ∀ B, EvL (a.vw ρ B) e es) (hz : Small (ds.length + es.length))
    (hp : P .none (ρ.set x (.own ad (.lst (ds ++ es)))))
    (hline : (ap.endLine == p.line) = true := by rfl) (hs : backTo p (starEach [e] a.env) = [(false, eval e a.env)] := by rfl) (hxb : (x == ("__debug__" : Str)) = false := by decide) :
    EvX a (.Call (.Attribute (.Name x xp) "extend" ap) [e] [] p) ρ P :=
  method_own hx hax F.slot_list_extend F.type_list_extend hline (by rw [hs]; rfl) (fun B g s r => by
    rw [hs]
    refine PySem.P.extend_list (wpAny_mono (he B g s r) (fun v s1 ⟨g1, b, ws, m, x1, ev, hb, hes⟩ => ?_) fun _ _ e => e)
    have r1 := r.stable x1
    obtain ⟨vs, n, ho, hds⟩ := r1.mutOf hx
    have h1 := hds.length
    have h2 := hes.length
    have hs' := sizeLine_eq
    unfold Small at hz
    refine ⟨b, vs.toArray, ws.toArray, n, m, by rw [List.size_toArray]; omega, by rw [List.size_toArray, List.size_toArray]; omega, ?_, ev, ho, hb, ?_⟩
    · simp only [Builtin.List.listTooLong, List.size_toArray, h1, h2]
      simp
      intro _
      omega
    · exact ⟨g1, .none, _, (x1.step r.kb).trans (.heap (t := s1.toks)), Rel.mutate r1 hx (upd_ext _) (MutIs.upd (ws := vs ++ ws) ho (by simp) (hds.append hes)), .none, hp⟩) hxb

/-- next(x) of an own iterator -/
theorem call_next_iter {prog : Program} {w : World} {A : Around} {E : Value → Shared → Prop} {s : Shared} {it l : Addr} {i : Nat} {items : Array Value} {x : Value} {Q : Value → Shared → Prop} (hit : s.heap.IsListIter it l i) (hl : s.heap.IsList l items) (hx : items[i]? = some x)
    (hQ : ∀ h', h'.IsListIter it l (i + 1) → Heap.SameBut it s.heap h' → Q x { s with heap := h' }) : wpAny (model prog w) A (call (.builtin "next") [.ref it]) Q E s := by
  refine call_function_entry (by decide +kernel) (by decide +kernel) kdk_entry_next (kdk_args_next _) ?_
  unfold Builtin.«next»
  refine wpAny_bind (m := someArgs "next" 1 2 _) (wpAny_of_eq (a := [Value.ref it]) (by first | rfl | kernel_rfl!) ?_)
  dsimp only
  refine wpAny_bind (wpAny_specialOf (name := Str.ofString "__next__") hit.typeIs slot_listiter_next.lookup ?_)
  refine wpAny_ite_split (fun hab => absurd hab (by decide)) (fun _ => ?_)
  obtain ⟨o, ho, hc, hd⟩ := id hit
  obtain ⟨ol, hol, _, nl, hdl⟩ := hl
  refine wpAny_bind (wpAny_callSpecial?_slot (name := Str.ofString "__next__") hit.typeIs slot_listiter_next
    (wpAny_call_entry slot_listiter_next hit.typeIs entry_listiter_next ?_ (args_listiter_next _)))
  show wpAny _ _ (field (.ref it) 0 >>= _) _ _ s
  refine wpAny_bind (wpAny_field ho hd (x := .ref l) rfl ?_)
  show wpAny _ _ (if (Value.ref l == Value.none) = true then _ else _) _ _ s
  rw [if_neg (show ¬ ((Value.ref l == Value.none) = true) from Bool.false_ne_true)]
  show wpAny _ _ (field (.ref it) 1 >>= _) _ _ s
  refine wpAny_bind (wpAny_field ho hd (x := .int i 0) rfl ?_)
  show wpAny _ _ (seqItems? (.ref l) >>= _) _ _ s
  refine wpAny_bind (wpAny_seqItems hol hdl ?_)
  simp only [Int.toNat_natCast, hx]
  refine wpAny_bind (wpAny_setField ho hd (by simp) (wpAny_pure ⟨x, rfl, wpAny_pure ⟨_, rfl, hQ _ ?_ (Heap.SameBut.update ..)⟩⟩))
  exact ⟨_, Heap.get?_update_self _ ho (Obj.isFreed_of_fields (Obj.data_mapFields hd _)), (Obj.cls_mapFields ..).trans hc, by
    rw [Obj.data_mapFields hd]; simp [rawInt]⟩
theorem EvX_next {x y : Str} {np yp p : Pos} {ad : Addr} {ds : List PyData} {i : Nat} {d : PyData} (hkx : a.env.kindOf x = some .globalImplicit) (hg : W.mg x = none ∧ W.mb x = some (.builtin "next")) (hy : ρ y = some (.own ad (.itr ds i))) (hay : a.has y)
    (hd : ds[i]? = some d) (hq : P d (ρ.set y (.own ad (.itr ds (i + 1)))))
    (hdb : (x == ("__debug__" : Str)) = false := by decide) (hyb : (y == ("__debug__" : Str)) = false := by decide) (hs : starEach [.Name y yp] a.env = (false, eval (.Name y yp) a.env) :: starEach [] a.env := by rfl) :
    EvX a (.Call (.Name x np) [.Name y yp] [] p) ρ P := fun B g s r => by
  have G : GlobIs (a.vw ρ B) x (.builtin "next") := ⟨hkx, .inr hg⟩
  refine Call_ (glob_name G r ?_ hdb)
  refine callWith_builtin1 (args_cons (wpAny_Name (load_name r hy hay fun v hv => ?_) hyb) hs) hs
  obtain ⟨rfl, l, vs, n, hit, hl, hds⟩ := hv
  obtain ⟨w, hw, hdw⟩ := hds.get hd
  refine args_nil (call_next_iter hit (isL_of (r.fz _ _ hl)) (by simpa using hw) fun h' hit' hs' => ?_)
  exact ⟨g, d, _, .heap (t := s.toks), Rel.mutate r hy hs'.extBut (show MutIs g h' ad (.itr ds (i + 1)) from ⟨l, vs, n, hit', hl, hds⟩), hdw, hq⟩

/-- x = iter(e) of data -/
theorem call_iter_list {prog : Program} {w : World} {A : Around} {E : Value → Shared → Prop} {s : Shared} {l : Addr} {items : Array Value} {Q : Value → Shared → Prop} (hl : s.heap.IsList l items)
    (hQ : Q (.ref s.heap.objs.size) { s with heap := s.heap.push { cls := .type "list_iterator", data := .fields #[.ref l, .int 0 0] } }) : wpAny (model prog w) A (call (.builtin "iter") [.ref l]) Q E s := by
  refine call_function_entry (by decide +kernel) (by decide +kernel) kdk_entry_iter (kdk_args_iter _) ?_
  unfold Builtin.«iter»
  refine wpAny_bind (m := someArgs "iter" 1 2 _) (wpAny_of_eq (a := [Value.ref l]) (by first | rfl | kernel_rfl!) ?_)
  show wpAny _ _ (pyIter (.ref l) >>= _) _ _ _
  exact wpAny_bind (wpAny_pyIter_list hl (wpAny_pure ⟨_, rfl, hQ⟩))
theorem Tr_assign_iter {x y : Str} {e : Expr} {np xp cp p : Pos} {ds : List PyData} (hky : a.env.kindOf y = some .globalImplicit) (hg : W.mg y = none ∧ W.mb y = some (.builtin "iter")) (he : ∀ B, Ev (a.vw ρ B) e (.list ds)) (ha : a.has x)
    (hq : ∀ ad, Q .nxt (ρ.set x (.own ad (.itr ds 0)))) (hsw : swapsWith (.Call (.Name y np) [e] [] cp) (some (.Name x xp)) p.line a.env = pure false := by rfl)
    (hdb : (y == ("__debug__" : Str)) = false := by decide) (hs : starEach [e] a.env = (false, eval e a.env) :: starEach [] a.env := by rfl) :
    Tr a (exec (.Assign [.Name x xp] (.Call (.Name y np) [e] [] cp) p) a.env) ρ Q := fun B g s r => by
  refine wpAny_Assign_Name ?_ hsw
  have G : GlobIs (a.vw ρ B) y (.builtin "iter") := ⟨hky, .inr hg⟩
  refine Call_ (glob_name G r ?_ hdb)
  refine callWith_builtin1 (args_cons (wpAny_mono (he B g s r) (fun v s1 ⟨g1, x1, hd⟩ => ?_) fun _ _ e => e) hs) hs
  obtain ⟨l, vs, n, rfl, hl, hds⟩ := hd.list_inv
  refine args_nil (call_iter_list (isL_of (x1.fz _ _ hl)) ?_)
  have X := x1.trans (Ext.push x1.fz { cls := .type "list_iterator", data := .fields #[.ref l, .int 0 0] } (t := s1.toks))
  have r2 := r.stable X
  have hn := get_size_none s1.heap
  have r1 := r.stable x1
  refine store_name r2 ha (sl := .own s1.heap.objs.size (.itr ds 0)) ⟨rfl, l, vs, n, ⟨_, Heap.get?_push_size _ rfl, rfl, rfl⟩, hl, hds⟩ (fun ad m e => ?_) fun h' tk r3 => ⟨g1, .nxt, _, (X.step r.kb).trans .heap, r3, trivial, hq _⟩
  cases e
  have new : ∀ b o, s1.heap.get? b = some o → s1.heap.objs.size ≠ b := fun b o e q => by rw [← q, hn] at e; cases e
  refine ⟨x1.fz.size, ?_, ?_, fun z c hc => ?_, fun z m' hz => ?_⟩
  · cases e : B s1.heap.objs.size with
    | none => rfl
    | some o => exact absurd rfl (new _ _ (r1.kb _ _ e))
  · obtain ⟨o, hL⟩ := r1.liveL; exact new _ _ hL
  · obtain ⟨o, hL⟩ := r1.liveC hc; exact new _ _ hL
  · obtain ⟨o, hL⟩ := (r1.mutOf hz).live; exact absurd rfl (new _ _ hL)

theorem wpAny_setItem_listP {prog : Program} {w : World} {A : Around} {E : Value → Shared → Prop} {s : Shared} {l : Addr} {items : Array Value} {ne : Nat} {k : Int} {t : Tok} {v : Value} {Q : Unit → Shared → Prop} (ho : IsL s.heap l items ne)
    (h0 : 0 ≤ k) (hfit : k < 2 ^ 63) (hn : k < items.size)
    (hQ : Q () { s with heap := s.heap.update l (Obj.mapSeq (·.setIfInBounds k.toNat v)) }) :
    wpAny (model prog w) A (setItem (.ref l) (.int k t) v) Q E s := by
  have hl : s.heap.IsList l items := ⟨_, ho, rfl, _, rfl⟩
  unfold setItem
  try with_reducible refine wpAny_holding ?_
  first | refine wpAny_bind (wpAny_pure ?_) | skip
  refine wpAny_bind (wpAny_sequenceKey hl.typeIs (by decide) ?_)
  refine wpAny_bind (wpAny_callSpecial?_slot (name := Str.ofString "__setitem__") hl.typeIs slot_list_setitem
    (wpAny_call_entry slot_list_setitem hl.typeIs entry_list_setitem ?_ (args_list_setitem _ _ _)))
  show wpAny _ _ (Builtin.List.listSubscript? (.int k t) >>= _) _ _ s
  refine wpAny_bind (wpAny_listSubscript_int (fitsIndex_of h0 hfit) ?_)
  clear hfit
  obtain ⟨j, rfl⟩ := Int.eq_ofNat_of_zero_le h0
  have hj : j < items.size := by omega
  have hx' : items[j]? = some items[j] := Array.getElem?_eq_getElem hj
  show wpAny _ _ ((seqItemAt l j >>= fun r => pure (r.map (j, ·))) >>= _) _ _ s
  refine wpAny_bind (wpAny_bind (wpAny_seqItemAt ho rfl (wpAny_pure ?_)))
  rw [hx']
  show wpAny _ _ (setSeqItemAt l j v >>= _) _ _ s
  refine wpAny_bind (wpAny_setSeqItemAt ho rfl ?_)
  first
    | exact wpAny_bind (wpAny_pure (wpAny_pure ⟨.none, rfl, wpAny_pure hQ⟩))
    | exact wpAny_pure ⟨.none, rfl, wpAny_pure hQ⟩

/-- x[i] = e of an own list -/
theorem Tr_setitem {x : Str} {xp sp p : Pos} {i e : Expr} {ad : Addr} {ds : List PyData} {k : Int} {d : PyData} (hx : ρ x = some (.own ad (.lst ds))) (hax : a.has x) (he : ∀ B, Ev (a.vw ρ B) e d) (hi : ∀ B, Ev (a.vw ρ B) i (.int k))
    (h0 : 0 ≤ k) (hk : k < ds.length) (hz : Small ds.length) (hq : Q .nxt (ρ.set x (.own ad (.lst (ds.set k.toNat d)))))
    (hsw : swapsWith e (some (.Subscript (.Name x xp) i sp)) p.line a.env = pure false := by rfl) (hxb : (x == ("__debug__" : Str)) = false := by decide) :
    Tr a (exec (.Assign [.Subscript (.Name x xp) i sp] e p) a.env) ρ Q := fun B g s r => by
  refine wpAny_Assign_Subscript (wpAny_mono (he B g s r) (fun v s1 ⟨g1, x1, hd⟩ => ?_) fun _ _ e => e) hsw
  have r1 := r.stable x1
  refine wpAny_Name (load_name r1 hx hax fun ov hov => ?_) hxb
  obtain ⟨rfl, _⟩ := hov
  refine wpAny_mono (hi B g1 s1 r1) (fun iv s2 ⟨g2, x2, hi⟩ => ?_) fun _ _ e => e
  obtain ⟨u, rfl⟩ := hi.int_inv
  have r2 := r1.stable x2
  obtain ⟨vs, n, ho, hds⟩ := r2.mutOf hx
  have hlen := hds.length
  have hs' := sizeLine_eq
  refine wpAny_setItem_listP ho h0 (by unfold Small at hz; omega) (by rw [List.size_toArray, hlen]; exact hk) ?_
  exact ⟨g2, .nxt, _, ((x1.trans x2).step r.kb).trans (.heap (t := s2.toks)), Rel.mutate r2 hx (upd_ext _) (MutIs.upd (ws := vs.set k.toNat v) ho (by simp) (hds.set (hd.mono x2.le) _)), trivial, hq⟩

theorem wpAny_setItem_negP {prog : Program} {w : World} {A : Around} {E : Value → Shared → Prop} {s : Shared} {l : Addr} {items : Array Value} {ne : Nat} {k : Int} {t : Tok} {v : Value} {Q : Unit → Shared → Prop} (ho : IsL s.heap l items ne)
    (h0 : k < 0) (h1 : -(items.size : Int) ≤ k) (hfit : -(2 ^ 63) ≤ k)
    (hQ : Q () { s with heap := s.heap.update l (Obj.mapSeq (·.setIfInBounds (k + items.size).toNat v)) }) :
    wpAny (model prog w) A (setItem (.ref l) (.int k t) v) Q E s := by
  have hl : s.heap.IsList l items := ⟨_, ho, rfl, _, rfl⟩
  unfold setItem
  try with_reducible refine wpAny_holding ?_
  first | refine wpAny_bind (wpAny_pure ?_) | skip
  refine wpAny_bind (wpAny_sequenceKey hl.typeIs (by decide) ?_)
  refine wpAny_bind (wpAny_callSpecial?_slot (name := Str.ofString "__setitem__") hl.typeIs slot_list_setitem
    (wpAny_call_entry slot_list_setitem hl.typeIs entry_list_setitem ?_ (args_list_setitem _ _ _)))
  show wpAny _ _ (Builtin.List.listSubscript? (.int k t) >>= _) _ _ s
  refine wpAny_bind (wpAny_listSubscript_int (fitsIndex_neg h0 hfit) ?_)
  clear hfit
  have hidx := PySem.seqIndex_neg h0 h1
  have hj : (k + items.size).toNat < items.size := by omega
  have hx : items[(k + items.size).toNat]? = some items[(k + items.size).toNat] := Array.getElem?_eq_getElem hj
  obtain ⟨j, rfl⟩ : ∃ j : Nat, k = Int.negSucc j := by
    cases k with
    | ofNat n => exact absurd h0 (Int.not_lt.mpr (Int.ofNat_nonneg n))
    | negSucc n => exact ⟨n, rfl⟩
  show wpAny _ _ ((Builtin.List.listItems (.ref l) >>= fun xs => pure ((seqIndex? (Int.negSucc j) xs.size).bind fun i => xs[i]?.map (i, ·))) >>= _) _ _ s
  refine wpAny_bind (wpAny_bind ?_)
  show wpAny _ _ (seqItems? (.ref l) >>= _) _ _ s
  refine wpAny_bind (wpAny_seqItems ho rfl (wpAny_pure (wpAny_pure ?_)))
  rw [hidx]
  simp only [Option.bind_some, hx, Option.map_some]
  show wpAny _ _ (setSeqItemAt l _ v >>= _) _ _ s
  refine wpAny_bind (wpAny_setSeqItemAt ho rfl ?_)
  first
    | exact wpAny_bind (wpAny_pure (wpAny_pure ⟨.none, rfl, wpAny_pure hQ⟩))
    | exact wpAny_pure ⟨.none, rfl, wpAny_pure hQ⟩
theorem Tr_setitem_neg {x : Str} {xp sp p : Pos} {i e : Expr} {ad : Addr} {ds : List PyData} {k : Int} {d : PyData} (hx : ρ x = some (.own ad (.lst ds))) (hax : a.has x) (he : ∀ B, Ev (a.vw ρ B) e d) (hi : ∀ B, Ev (a.vw ρ B) i (.int k))
    (h0 : k < 0) (hk : -(ds.length : Int) ≤ k) (h63 : -(2 ^ 63) ≤ k) (hq : Q .nxt (ρ.set x (.own ad (.lst (ds.set (k + ds.length).toNat d)))))
    (hsw : swapsWith e (some (.Subscript (.Name x xp) i sp)) p.line a.env = pure false := by rfl) (hxb : (x == ("__debug__" : Str)) = false := by decide) :
    Tr a (exec (.Assign [.Subscript (.Name x xp) i sp] e p) a.env) ρ Q := fun B g s r => by
  refine wpAny_Assign_Subscript (wpAny_mono (he B g s r) (fun v s1 ⟨g1, x1, hd⟩ => ?_) fun _ _ e => e) hsw
  have r1 := r.stable x1
  refine wpAny_Name (load_name r1 hx hax fun ov hov => ?_) hxb
  obtain ⟨rfl, _⟩ := hov
  refine wpAny_mono (hi B g1 s1 r1) (fun iv s2 ⟨g2, x2, hi⟩ => ?_) fun _ _ e => e
  obtain ⟨u, rfl⟩ := hi.int_inv
  have r2 := r1.stable x2
  obtain ⟨vs, n, ho, hds⟩ := r2.mutOf hx
  have hlen := hds.length
  have e : ((vs.toArray.size : Nat) : Int) = ds.length := by rw [List.size_toArray, hlen]
  refine wpAny_setItem_negP ho h0 (by rw [e]; exact hk) h63 ?_
  rw [e]
  exact ⟨g2, .nxt, _, ((x1.trans x2).step r.kb).trans (.heap (t := s2.toks)), Rel.mutate r2 hx (upd_ext _) (MutIs.upd (ws := vs.set (k + ds.length).toNat v) ho (by simp) (hds.set (hd.mono x2.le) _)), trivial, hq⟩

/-- x op= e -/
theorem Tr_aug {x : Str} {xp p : Pos} {op : Operator} {e : Expr} {d0 d1 d : PyData} (hx : ρ x = some (.val d0)) (hax : a.has x) (he : ∀ B, Ev (a.vw ρ B) e d1)
    (ho : ∀ B g s va vb, Rel a ρ B g s → Den g va d0 → Den g vb d1 → wpAny (model W.prog W.w) a.A (inplaceOp op va vb) (fun v s' => ∃ g', Ext g s g' s' ∧ Den g' v d) noE s)
    (hq : Q .nxt (ρ.set x (.val d))) : Tr a (exec (.AugAssign (.Name x xp) op e p) a.env) ρ Q := fun B g s r => by
  refine wpAny_AugAssign_Name (load_name r hx hax fun v hv => ?_)
  refine wpAny_mono (he B g s r) (fun w s1 ⟨g1, x1, hw⟩ => ?_) fun _ _ e => e
  have r1 := r.stable x1
  refine wpAny_mono (ho B g1 s1 v w r1 (Den.mono x1.le hv) hw) (fun u s2 ⟨g2, x2, hu⟩ => ?_) fun _ _ e => e
  have r2 := r1.stable x2
  exact store_name r2 hax (sl := .val d) hu (fun ad m e => nomatch e) fun h' tk r3 => ⟨g2, .nxt, _, ((x1.trans x2).step r.kb).trans .heap, r3, trivial, hq⟩

/-- a statement that is an expression -/
theorem Tr_expr {e : Expr} {p : Pos} (h : EvX a e ρ (fun _ ρ' => Q .nxt ρ')) (hi : interactive a.env = false) (hs : swapsWith e none p.line a.env = pure false := by rfl) : Tr a (exec (.Expr e p) a.env) ρ Q := fun B g s r =>
  wpAny_Expr_any (wpAny_mono (h B g s r) (fun v s1 ⟨g1, d, ρ1, x1, r1, hd, hq⟩ => ⟨g1, .nxt, ρ1, x1, r1, trivial, hq⟩) fun _ _ e => e) hi hs
theorem not_interactive : interactive a.env = false := by unfold interactive; rw [a.kind]; rfl

/-- x, y = e : a tuple or list of two -/
theorem Tr_assign2 {x y : Str} {xp yp tp p : Pos} {k : Nat} {e : Expr} {d1 d2 : PyData} (he : ∀ B, Ev (a.vw ρ B) e (.tuple [d1, d2]) ∨ Ev (a.vw ρ B) e (.list [d1, d2])) (hax : a.has x) (hay : a.has y)
    (hq : Q .nxt ((ρ.set x (.val d1)).set y (.val d2)))
    (hs : swapsWithSole [.Tuple [.Name x xp, .Name y yp] k tp] e p.line a.env = pure false := by rfl) (hw : swappedStores [.Tuple [.Name x xp, .Name y yp] k tp] e a.env = pure none := by rfl) :
    Tr a (exec (.Assign [.Tuple [.Name x xp, .Name y yp] k tp] e p) a.env) ρ Q := fun B g s r => by
  refine Assign_Tuple ?_ hs hw
  have fin : ∀ g1 s1 v w, Rel a ρ B g1 s1 → StepTo B g s g1 s1 → Den g1 v d1 → Den g1 w d2 → wpAny (model W.prog W.w) a.A (assignInOrder ((assignEach [.Name x xp, .Name y yp] a.env).map (·.2)) [v, w])
      (fun _ s' => ∃ g' fd ρ', StepTo B g s g' s' ∧ Rel a ρ' B g' s' ∧ FlowIs g' .next fd ∧ Q fd ρ') noE s1 := by
    intro g1 s1 v w r1 st hv hw
    show wpAny _ _ (do holding [w] (assign (.Name x xp) a.env v); do holding [] (assign (.Name y yp) a.env w); pure ()) _ _ _
    refine wpAny_bind (wpAny_holding (wpAny_assign_Name (store_name r1 hax (sl := .val d1) hv (fun ad m e => nomatch e) fun h' tk r2 => ?_)))
    refine wpAny_bind (wpAny_holding (wpAny_assign_Name (store_name r2 hay (sl := .val d2) hw (fun ad m e => nomatch e) fun h'' tk' r3 => wpAny_pure ?_)))
    exact ⟨g1, .nxt, _, (st.trans .heap).trans .heap, r3, trivial, hq⟩
  rcases he B with he | he
  · refine wpAny_mono (he g s r) (fun v s1 ⟨g1, x1, hd⟩ => ?_) fun _ _ e => e
    obtain ⟨t, vs, n, rfl, ht, hds⟩ := hd.tuple_inv
    cases hds with | cons h1 hr =>
    cases hr with | cons h2 hr =>
    cases hr
    have r1 := r.stable x1
    refine wpAny_assign_Tuple a.hnd (items := #[_, _]) ⟨_, x1.fz _ _ ht, rfl, n, rfl⟩ rfl rfl fun h' hx' => ?_
    have X : Ext g1 s1 g1 { s1 with heap := h', toks := s1.toks } := Ext.heap x1.fz fun b o e => hx' b o (fun q => by subst q; rw [get_size_none] at e; cases e) e
    exact fin g1 _ _ _ (r1.stable X) ((x1.trans X).step r.kb) h1 h2
  · refine wpAny_mono (he g s r) (fun v s1 ⟨g1, x1, hd⟩ => ?_) fun _ _ e => e
    obtain ⟨t, vs, n, rfl, ht, hds⟩ := hd.list_inv
    cases hds with | cons h1 hr =>
    cases hr with | cons h2 hr =>
    cases hr
    have r1 := r.stable x1
    rw [PySem.arm_assign_Tuple]
    refine wpAny_bind (wpAny_standAt ?_)
    unfold unpack
    show wpAny _ _ (holding [.ref t] (unpackItems (.ref t) 2 none) >>= _) _ _ _
    refine wpAny_bind (wpAny_holding (kun_itemsOf (items := #[_, _]) a.hnd ⟨_, x1.fz _ _ ht, rfl, n, rfl⟩ fun h' hx' => ?_))
    have X : Ext g1 s1 g1 { s1 with heap := h', toks := s1.toks } := Ext.heap x1.fz fun b o e => hx' b o (fun q => by subst q; rw [get_size_none] at e; cases e) e
    exact fin g1 _ _ _ (r1.stable X) ((x1.trans X).step r.kb) h1 h2
end
end Mine
namespace Mine
open PySem PySem.W PyProof.Rows PySem.Calls
variable {W : Wld}

/-- an iterator of the loop's own: n turns, the i-th datum is D i -/
structure It (W : Wld) (A : Around) (g : Frz) (s : Shared) (I : Addr) (fp wr : List Addr) (n : Nat) (D : Nat → PyData) (Pv : Nat → Value → Prop) (St : Nat → Heap → Prop) : Prop where
  walks : Walks W.prog W.w A I fp wr n Pv St
  st : St 0 s.heap
  live : ∀ i h, St i h → ∀ b ∈ wr, ∃ o, h.get? b = some o
  off : ∀ b ∈ wr, g b = none
  fro : ∀ b ∈ fp, b ∈ wr ∨ ∃ o, g b = some o
  den : ∀ i v g', Le g g' → i < n → Pv i v → Den g' v (D i)

/-- the source of a loop -/
def Src (V : Vw W) (iter : Expr) (n : Nat) (D : Nat → PyData) : Prop := ∀ g s, V.I g s → wpAny (model W.prog W.w) V.A (eval iter V.env) (fun xv s1 => wpAny (model W.prog W.w) V.A (pyIter xv) (fun it s2 =>
  ∃ g2 I fp wr Pv St, it = .ref I ∧ Ext g s g2 s2 ∧ It W V.A g2 s2 I fp wr n D Pv St ∧ ∀ b ∈ wr, s.heap.get? b = none) noE s1) noE s

theorem none_ext {g g1 : Frz} {s s1 : Shared} (x : Ext g s g1 s1) : s.heap.get? s1.heap.objs.size = none := by
  cases e : s.heap.get? s1.heap.objs.size with
  | none => rfl
  | some o => have := x.keep _ _ e; rw [get_size_none] at this; cases this

theorem Src_list {V : Vw W} {iter : Expr} {ds : List PyData} (h : Ev V iter (.list ds)) : Src V iter ds.length (fun i => ds.getD i .none) := fun g s i =>
  wpAny_mono (h g s i) (fun xv s1 ⟨g1, x1, hd⟩ => by
    obtain ⟨l, vs, n, rfl, hl, hds⟩ := hd.list_inv
    have ho := x1.fz _ _ hl
    have hne : l ≠ s1.heap.objs.size := fun e => Nat.lt_irrefl _ (e ▸ Heap.lt_size ho)
    have hlen := hds.length
    have hW := Walks.list (prog := W.prog) (w := W.w) (A := V.A) V.hnd s1.heap.objs.size l hne vs.toArray
    have hz : vs.toArray.size = ds.length := by rw [List.size_toArray, hlen]
    rw [hz] at hW
    refine wpAny_pyIter_list (isL_of ho) ?_
    refine ⟨g1, s1.heap.objs.size, [s1.heap.objs.size, l], [s1.heap.objs.size], _, _, rfl, x1.trans (Ext.push x1.fz _ (t := s1.toks)), ⟨hW, ⟨⟨_, Heap.get?_push_size _ rfl, rfl, rfl⟩, (isL_of ho).push _⟩, ?_, ?_, ?_, ?_⟩, ?_⟩
    · rintro i h ⟨⟨o, h1, _⟩, _⟩ b hb
      rw [List.mem_singleton.mp hb]; exact ⟨o, h1⟩
    · intro b hb
      rw [List.mem_singleton.mp hb]; exact x1.fz.size
    · intro b hb
      rcases List.mem_cons.mp hb with rfl | hb
      · exact .inl (by simp)
      · rw [List.mem_singleton.mp hb]; exact .inr ⟨_, hl⟩
    · intro i v g' hle hi hv
      rw [List.getElem?_toArray] at hv
      obtain ⟨w, hw, hdw⟩ := hds.get (k := i) (d := ds.getD i .none) (by simp [List.getD, hi])
      rw [hv] at hw; cases hw
      exact hdw.mono hle
    · intro b hb
      rw [List.mem_singleton.mp hb]; exact none_ext x1) fun _ _ e => e

theorem src_range {A : Around} (hh : A.handled = none) {g g1 : Frz} {s s1 : Shared} {r : Addr} {a b : Int} {t u v : Tok} {n : Nat} (x1 : Ext g s g1 s1) (hr : IsRange s1.heap r a b 1 t u v) (hn : b - a = (n : Int) ∨ (b ≤ a ∧ n = 0)) (ha : -(2 ^ 62) ≤ a) (ha' : a < 2 ^ 62) (hb : -(2 ^ 62) ≤ b) (hb' : b < 2 ^ 62) :
    wpAny (model W.prog W.w) A (pyIter (.ref r)) (fun it s2 => ∃ g2 I fp wr Pv St, it = .ref I ∧ Ext g s g2 s2 ∧ It W A g2 s2 I fp wr n (fun i => .int (a + i)) Pv St ∧ ∀ b ∈ wr, s.heap.get? b = none) noE s1 := by
  refine wpAny_pyIter_range hr (small_one ha ha' hb hb') ?_
  have hsz : Builtin.Range.rangeSize a b 1 = (n : Int) := by rw [rangeSize_one]; split <;> omega
  refine ⟨g1, s1.heap.objs.size, [s1.heap.objs.size], [s1.heap.objs.size], _, _, rfl, x1.trans (Ext.push x1.fz _ (t := s1.toks)), ⟨Walks.range hh _ a 1 n, ?_, ?_, ?_, ?_, ?_⟩, ?_⟩
  · show IsRangeIter _ _ _ _ _
    rw [hsz]
    simpa using Heap.get?_push_size _ rfl
  · intro i h hi b hb
    rw [List.mem_singleton.mp hb]; exact ⟨_, hi⟩
  · intro b hb
    rw [List.mem_singleton.mp hb]; exact x1.fz.size
  · intro b hb; exact .inl hb
  · rintro i v g' hle hi ⟨t, rfl⟩
    have : a + (i : Int) * 1 = a + i := by omega
    rw [this]; exact .int _ _
  · intro b hb
    rw [List.mem_singleton.mp hb]; exact none_ext x1
theorem Src_range1 {V : Vw W} {x : Str} {np p : Pos} {e : Expr} {n : Nat} {b : Int} (G : GlobIs V x (.type "range")) (h : Ev V e (.int b)) (hn : b = (n : Int) ∨ (b ≤ 0 ∧ n = 0)) (hb : -(2 ^ 62) ≤ b) (hb' : b < 2 ^ 62) (hd : (x == ("__debug__" : Str)) = false := by decide)
    (hs : starEach [e] V.env = (false, eval e V.env) :: starEach [] V.env := by rfl) : Src V (.Call (.Name x np) [e] [] p) n (fun i => .int (0 + i)) := fun g s i =>
  Ev_call (P := fun g s xv s1 => wpAny (model W.prog W.w) V.A (pyIter xv) (fun it s2 => ∃ g2 I fp wr Pv St, it = .ref I ∧ Ext g s g2 s2 ∧ It W V.A g2 s2 I fp wr n (fun i => .int (0 + i)) Pv St ∧ ∀ b ∈ wr, s.heap.get? b = none) noE s1) G (fun g s i => by
    refine PyProof.Rows.callWith_type1 (args_cons (wpAny_mono (h g s i) (fun v s1 ⟨g1, x1, hv⟩ => ?_) fun _ _ e => e) hs) hs
    obtain ⟨t, rfl⟩ := hv.int_inv
    refine args_nil (call_range_1 ?_)
    exact src_range V.hnd (x1.trans (Ext.push x1.fz _ (t := s1.toks + 1 + 1))) (IsRange.new ..) (by omega) (by decide) (by decide) hb hb') hd g s i
theorem Src_range2 {V : Vw W} {x : Str} {np p : Pos} {e f : Expr} {n : Nat} {a b : Int} (G : GlobIs V x (.type "range")) (h : Ev V e (.int a)) (h2 : Ev V f (.int b)) (hn : b - a = (n : Int) ∨ (b ≤ a ∧ n = 0)) (ha : -(2 ^ 62) ≤ a) (ha' : a < 2 ^ 62) (hb : -(2 ^ 62) ≤ b) (hb' : b < 2 ^ 62)
    (hd : (x == ("__debug__" : Str)) = false := by decide) (hs : starEach [e, f] V.env = (false, eval e V.env) :: starEach [f] V.env := by rfl) (hs2 : starEach [f] V.env = (false, eval f V.env) :: starEach [] V.env := by rfl) : Src V (.Call (.Name x np) [e, f] [] p) n (fun i => .int (a + i)) := fun g s i =>
  Ev_call (P := fun g s xv s1 => wpAny (model W.prog W.w) V.A (pyIter xv) (fun it s2 => ∃ g2 I fp wr Pv St, it = .ref I ∧ Ext g s g2 s2 ∧ It W V.A g2 s2 I fp wr n (fun i => .int (a + i)) Pv St ∧ ∀ b ∈ wr, s.heap.get? b = none) noE s1) G (fun g s i => by
    refine PyProof.Rows.callWith_type1 (args_cons (wpAny_mono (h g s i) (fun v s1 ⟨g1, x1, hv⟩ => args_cons (wpAny_mono (h2 g1 s1 (V.stable i x1)) (fun w s2 ⟨g2, x2, hw⟩ => ?_) fun _ _ e => e) hs2) fun _ _ e => e) hs) hs (by rw [hs2]; rfl)
    obtain ⟨t, rfl⟩ := hv.int_inv
    obtain ⟨u, rfl⟩ := hw.int_inv
    have X := x1.trans x2
    refine args_nil (call_range_2 ?_)
    exact src_range V.hnd (X.trans (Ext.push X.fz _ (t := s2.toks + 1))) (IsRange.new ..) hn ha ha' hb hb') hd g s i

/-- B and what stands at the iterator's own addresses -/
def Bw (wr : List Addr) (B : Frz) (h : Heap) : Frz := fun b => if b ∈ wr then h.get? b else B b
theorem Bw_in {wr : List Addr} {B : Frz} {h : Heap} {b : Addr} (hb : b ∈ wr) : Bw wr B h b = h.get? b := if_pos hb
theorem Bw_off {wr : List Addr} {B : Frz} {h : Heap} {b : Addr} (hb : b ∉ wr) : Bw wr B h b = B b := if_neg hb

section
variable {a : Act W} {ρ : Rho} {Q : FlowD → Rho → Prop} {P : PyData → Rho → Prop}
theorem Rel.weaken {B B' g : Frz} {s : Shared} (r : Rel a ρ B g s) (h : ∀ b o, B' b = some o → B b = some o) (ht : ∀ b o, W.H0.get? b = some o → B' b = some o) : Rel a ρ B' g s := by
  have nn : ∀ {b}, B b = none → B' b = none := fun {b} hb => by
    cases e : B' b with
    | none => rfl
    | some o => rw [h b o e] at hb; cases hb
  exact ⟨r.fz, fun b o e => r.kb b o (h b o e), ht, r.gL, nn r.bL, fun x c hc => ⟨(r.gC x c hc).1, nn (r.gC x c hc).2⟩, fun x ad m hx => let ⟨h1, h2, h3⟩ := r.own x ad m hx; ⟨h1, nn h2, h3⟩, r.oo, r.vars⟩
/-- objects that the activation does not hold: taken under guard -/
theorem Rel.guard {B g : Frz} {s : Shared} {wr : List Addr} (r : Rel a ρ B g s) (h0 : ∀ b ∈ wr, B b = none) (hL : a.env.locals ∉ wr) (hC : ∀ x c, a.env.cells.lookup x = some c → c ∉ wr) (hO : ∀ x ad m, ρ x = some (.own ad m) → ad ∉ wr) : Rel a ρ (Bw wr B s.heap) g s :=
  ⟨r.fz, fun b o e => by
    by_cases hb : b ∈ wr
    · rw [Bw_in hb] at e; exact e
    · rw [Bw_off hb] at e; exact r.kb b o e, fun b o e => by
    have := r.top b o e
    by_cases hb : b ∈ wr
    · rw [h0 b hb] at this; cases this
    · rw [Bw_off hb]; exact this, r.gL, by rw [Bw_off hL]; exact r.bL, fun x c hc => ⟨(r.gC x c hc).1, by rw [Bw_off (hC x c hc)]; exact (r.gC x c hc).2⟩,
    fun x ad m hx => let ⟨h1, h2, h3⟩ := r.own x ad m hx; ⟨h1, by rw [Bw_off (hO x ad m hx)]; exact h2, h3⟩, r.oo, r.vars⟩
/-- the iterator turns -/
theorem Rel.turn {B g : Frz} {s : Shared} {wr : List Addr} (r : Rel a ρ (Bw wr B s.heap) g s) (hg : ∀ b ∈ wr, g b = none) (hl : ∀ b ∈ wr, ∃ o, s.heap.get? b = some o) (hT : ∀ b o, W.H0.get? b = some o → b ∉ wr) {h' : Heap} {t : Nat} (hk : ∀ b o, b ∉ wr → s.heap.get? b = some o → h'.get? b = some o) :
    Rel a ρ (Bw wr B h') g { s with heap := h', toks := t } := by
  have off : ∀ {b}, Bw wr B s.heap b = none → b ∉ wr := fun {b} hn hb => by
    obtain ⟨o, ho⟩ := hl b hb
    rw [Bw_in hb, ho] at hn; cases hn
  have hL := off r.bL
  have hC : ∀ x c, a.env.cells.lookup x = some c → c ∉ wr := fun x c hc => off (r.gC x c hc).2
  have hO : ∀ x ad m, ρ x = some (.own ad m) → ad ∉ wr := fun x ad m hx => off (r.own x ad m hx).2.1
  obtain ⟨V, vv, hv⟩ := r.vars
  refine ⟨fun b o e => ?_, fun b o e => ?_, fun b o e => ?_, r.gL, ?_, fun x c hc => ⟨(r.gC x c hc).1, ?_⟩, fun x ad m hx => ?_, r.oo, V, ⟨?_, fun x c hc => ?_⟩, fun x sl hx => ?_⟩
  · exact hk b o (fun hb => by rw [hg b hb] at e; cases e) (r.fz b o e)
  · by_cases hb : b ∈ wr
    · rw [Bw_in hb] at e; exact e
    · rw [Bw_off hb] at e; exact hk b o hb (r.kb b o (by rw [Bw_off hb]; exact e))
  · have := r.top b o e
    rw [Bw_off (hT b o e)] at this ⊢; exact this
  · rw [Bw_off hL]; have := r.bL; rwa [Bw_off hL] at this
  · rw [Bw_off (hC x c hc)]; have := (r.gC x c hc).2; rwa [Bw_off (hC x c hc)] at this
  · obtain ⟨h1, h2, h3⟩ := r.own x ad m hx
    rw [Bw_off (hO x ad m hx)] at h2
    exact ⟨h1, by rw [Bw_off (hO x ad m hx)]; exact h2, h3⟩
  · obtain ⟨m, hn, hm⟩ := vv.ns
    exact ⟨m, hn.at' fun o e => hk _ o hL e, hm⟩
  · obtain ⟨o, ho, hd⟩ := vv.cell x c hc
    exact ⟨o, hk c o (hC x c hc) ho, hd⟩
  · obtain ⟨u, hu, hs⟩ := hv x sl hx
    exact ⟨u, hu, hs.mono .refl fun ad m e o h => hk ad o (hO x ad m (e ▸ hx)) h⟩

theorem Tr_for {x : Str} {iter : Expr} {body : List Stmt} {xp p : Pos} {n : Nat} {D : Nat → PyData} (src : ∀ B, Src (a.vw ρ B) iter n D) (hax : a.has x) (J : Nat → Rho → Prop) (h0 : J 0 ρ)
    (turn : ∀ i ρ', i < n → J i ρ' → Tr a (execs body a.env) (ρ'.set x (.val (D i))) (fun fd ρ2 => match fd with
      | .nxt | .cnt => J (i + 1) ρ2
      | .brk => Q .nxt ρ2
      | .ret d => Q (.ret d) ρ2))
    (fin : ∀ ρ', J n ρ' → Q .nxt ρ') (hs : ∀ x, foldedSetIterable iter a.env x = pure x := by intro _; rfl) : Tr a (exec (.For (.Name x xp) iter body [] p) a.env) ρ Q := fun B g s r => by
  refine wpAny_For (wpAny_mono (src B g s r) (fun xv s1 h1 => wpAny_mono h1 (fun it s2 h2 => ?_) fun _ _ e => e) fun _ _ e => e) hs
  obtain ⟨g2, I, fp, wr, Pv, St, rfl, x2, it, hnew⟩ := h2
  have r2 := r.stable x2
  have W0 := it.walks
  have hT : ∀ b o, W.H0.get? b = some o → b ∉ wr := fun b o e hb => by
    have := r.kb b o (r.top b o e)
    rw [hnew b hb] at this; cases this
  have rg : Rel a ρ (Bw wr B s2.heap) g2 s2 := by
    refine r2.guard (fun b hb => ?_) (fun hb => ?_) (fun x c hc hb => ?_) (fun x ad m hx hb => ?_)
    · cases e : B b with
      | none => rfl
      | some o => have := r.kb b o e; rw [hnew b hb] at this; cases this
    · obtain ⟨o, ho⟩ := r.liveL; rw [hnew _ hb] at ho; cases ho
    · obtain ⟨o, ho⟩ := r.liveC hc; rw [hnew _ hb] at ho; cases ho
    · obtain ⟨o, ho⟩ := (r.mutOf hx).live; rw [hnew _ hb] at ho; cases ho
  have hBB : ∀ {h : Heap} b o, B b = some o → Bw wr B h b = some o := fun {h} b o e => by
    rw [Bw_off fun hb => by have := r.kb b o e; rw [hnew b hb] at this; cases this]; exact e
  have low : ∀ {ρ' : Rho} {h : Heap} {g' : Frz} {s' : Shared}, Rel a ρ' (Bw wr B h) g' s' → Rel a ρ' B g' s' := fun rr => rr.weaken hBB r.top
  refine codeAny_forLoop (fun k s' => ∃ ρ' g' i, i ≤ n ∧ k = n + 1 - i ∧ J i ρ' ∧ St i s'.heap ∧ Rel a ρ' (Bw wr B s'.heap) g' s' ∧ StepTo B g s g' s' ∧ Le g2 g' ∧ ∀ b ∈ wr, g' b = none) ?_ (n + 1)
    ⟨ρ, g2, 0, Nat.zero_le _, rfl, h0, it.st, rg, x2.step r.kb, .refl, it.off⟩
  rintro k s3 ⟨ρ3, g3, i, hi, rfl, hj, hst, r3, st3, hle, hoff⟩
  by_cases hlt : i < n
  · refine W0.item i _ _ _ hlt hst fun v h4 tk4 hv hst4 hk4 => ?_
    have r4 := r3.turn (t := tk4) hoff (it.live i _ hst) hT hk4
    have hd := it.den i v g3 hle hlt hv
    refine wpAny_assign_Name (store_name r4 hax (sl := .val (D i)) hd (fun ad m e => nomatch e) fun h5 tk5 r5 => ?_)
    -- the iterator's state lives on where the guard holds
    have go : ∀ {g' : Frz} {s' : Shared} {ρ' : Rho}, Rel a ρ' (Bw wr B h4) g' s' → Le g3 g' → St (i + 1) s'.heap ∧ (∀ b ∈ wr, s'.heap.get? b = h4.get? b) := fun {g' s' ρ'} rr hl => by
      have same : ∀ b ∈ wr, s'.heap.get? b = h4.get? b := fun b hb => by
        obtain ⟨o, ho⟩ := it.live (i + 1) _ hst4 b hb
        rw [ho]; exact rr.kb b o (by rw [Bw_in hb]; exact ho)
      refine ⟨W0.frame _ _ _ hst4 fun b hb o e => ?_, same⟩
      rcases it.fro b hb with hw | ⟨o', ho'⟩
      · rw [same b hw]; exact e
      · have e1 := rr.fz b o' (hl b o' (hle b o' ho'))
        have e2 := r4.fz b o' (hle b o' ho')
        have : o' = o := by
          have e2' : h4.get? b = some o' := e2
          rw [e] at e2'; exact (Option.some.inj e2').symm
        rw [← this]; exact e1
    refine wpAny_mono (turn i ρ3 hlt hj _ g3 _ r5) (fun f s6 ⟨g6, fd, ρ6, st6, r6, hf, hq⟩ => ?_) fun _ _ e => e.elim
    have ST : StepTo B g s g6 s6 := ((st3.trans .heap).trans .heap).trans ⟨st6.same, st6.le, fun b o e => st6.agree b o (hBB b o e)⟩
    have next : J (i + 1) ρ6 → ∃ m, m < n + 1 - i ∧ ∃ ρ' g' j, j ≤ n ∧ m = n + 1 - j ∧ J j ρ' ∧ St j s6.heap ∧ Rel a ρ' (Bw wr B s6.heap) g' s6 ∧ StepTo B g s g' s6 ∧ Le g2 g' ∧ ∀ b ∈ wr, g' b = none := fun hj' => by
      obtain ⟨q1, q2⟩ := go r6 st6.le
      refine ⟨n + 1 - (i + 1), by omega, ρ6, g6, i + 1, hlt, rfl, hj', q1, ?_, ST, hle.trans st6.le, fun b hb => ?_⟩
      · have e : Bw wr B s6.heap = Bw wr B h4 := by
          funext b
          by_cases hb : b ∈ wr
          · rw [Bw_in hb, Bw_in hb, q2 b hb]
          · rw [Bw_off hb, Bw_off hb]
        rw [e]; exact r6
      · obtain ⟨o, ho⟩ := it.live (i + 1) _ hst4 b hb
        rw [st6.agree b o (by rw [Bw_in hb]; exact ho)]; exact hoff b hb
    cases f <;> cases fd <;> simp only [FlowIs] at hf
    · exact next hq
    · exact ⟨g6, .nxt, ρ6, ST, low r6, trivial, hq⟩
    · exact next hq
    · exact ⟨g6, .ret _, ρ6, ST, low r6, hf, hq⟩
  · have hin : i = n := by omega
    subst hin
    refine W0.done _ _ _ hst fun h4 tk4 hk4 => wpAny_execs_nil ?_
    have r4 := r3.turn (t := tk4) hoff (it.live i _ hst) hT hk4
    exact ⟨g3, .nxt, ρ3, st3.trans .heap, low r4, trivial, fin ρ3 hj⟩
end
end Mine
namespace Mine
open PySem PySem.W PyProof.Rows PySem.Calls
variable {W : Wld}

/-- the cells that a comprehension's block holds -/
def clOf (sc : Scope) (env : Env) : List (Str × Addr) := (sc.names.filterMap fun x => if x.2 == .free then (env.cells.lookup x.1).map (x.1, ·) else none).reverse
theorem closureFor_of {sc : Scope} {env : Env} (h : ∀ n, (n, NameKind.free) ∈ sc.names → ∃ c, env.cells.lookup n = some c) : closureFor sc env = pure (clOf sc env) := by
  have go : ∀ (names : List (Str × NameKind)) (acc : List (Str × Addr)), (∀ n, (n, NameKind.free) ∈ names → ∃ c, env.cells.lookup n = some c) →
      forIn names acc (fun (x : Str × NameKind) (cs : List (Str × Addr)) => if (x.2 == .free) = true then (do let c ← cellOf env x.1; pure (ForInStep.yield ((x.1, c) :: cs))) else (pure (ForInStep.yield cs) : Sem _)) =
      (pure ((names.filterMap fun x => if x.2 == .free then (env.cells.lookup x.1).map (x.1, ·) else none).reverse ++ acc) : Sem _) := by
    intro names
    induction names with
    | nil => intro acc _; rfl
    | cons x r ih =>
      intro acc hx
      obtain ⟨n, k⟩ := x
      rw [List.forIn_cons]
      by_cases hk : (k == NameKind.free) = true
      · have e := beq_iff_eq.mp hk
        subst e
        obtain ⟨c, hc⟩ := hx n (.head _)
        simp only [hk, if_true]
        have e1 : cellOf env n = pure c := by unfold cellOf; rw [hc]
        rw [e1, pure_bind, pure_bind]
        show forIn r _ _ = _
        rw [ih _ fun m hm => hx m (.tail _ hm)]
        simp [hc]
      · simp only [hk, if_false, Bool.false_eq_true]
        rw [pure_bind]
        show forIn r _ _ = _
        rw [ih _ fun m hm => hx m (.tail _ hm)]
        have hk' : ¬ k = NameKind.free := by simpa using hk
        rw [List.filterMap_cons]
        simp [hk']
  have := go sc.names [] h
  rw [List.append_nil] at this
  show (forIn sc.names [] _ >>= fun cs => pure cs) = _
  rw [bind_pure]
  refine Eq.trans (congrArg (forIn sc.names []) (funext fun x => funext fun cs => ?_)) this
  obtain ⟨n, k⟩ := x
  rfl
theorem clOf_lookup {sc : Scope} {env : Env} {n : Str} {c : Addr} (hn : (sc.names.map (·.1)).Nodup) (hf : (n, NameKind.free) ∈ sc.names) (hc : env.cells.lookup n = some c) : (clOf sc env).lookup n = some c := by
  have hm : (n, c) ∈ clOf sc env := by
    unfold clOf
    rw [List.mem_reverse, List.mem_filterMap]
    exact ⟨(n, .free), hf, by simp [hc]⟩
  refine lookup_of_mem ?_ hm
  unfold clOf
  rw [List.map_reverse]
  refine ((List.reverse_perm _).nodup_iff).mpr ?_
  have : (List.map (·.1) (sc.names.filterMap fun x => if x.2 == .free then (env.cells.lookup x.1).map (x.1, ·) else none)).Sublist (sc.names.map (·.1)) := by
    generalize sc.names = l
    induction l with
    | nil => exact .slnil
    | cons x r ih =>
      rw [List.filterMap_cons]
      split
      · exact ih.cons _
      · rename_i p hp
        have : p.1 = x.1 := by
          split at hp
          · obtain ⟨c', _, e⟩ := Option.map_eq_some_iff.mp hp; rw [← e]
          · cases hp
        rw [List.map_cons, List.map_cons, this]
        exact ih.cons_cons _
  exact this.nodup hn

/-- what stands in a comprehension's block -/
structure RelC (a : Act W) (ρ : Rho) (B : Frz) (C : Addr) (κ : Str → Option PyData) (g : Frz) (s : Shared) : Prop where
  rel : Rel a ρ B g s
  loc : ∃ m, s.heap.Ns C m ∧ ∀ y d, κ y = some d → ∃ v, m y = some v ∧ Den g v d

/-- the view within a comprehension -/
def Act.vc (a : Act W) (ρ : Rho) (B : Frz) (sc : Scope) (C : Addr) (κ : Str → Option PyData) (hk : sc.kind = .function) : Vw W where
  A := a.A
  env := compEnvC sc (clOf sc a.env) C a.env
  k := a.k
  I := RelC a ρ B C κ
  stable := fun r x => ⟨r.rel.stable x, let ⟨m, hn, hm⟩ := r.loc; ⟨m, hn.keeps x.keep, fun y d hy => let ⟨v, hv, hd⟩ := hm y d hy; ⟨v, hv, hd.mono x.le⟩⟩⟩
  fz := fun r => r.rel.fz
  top := fun r b o e => r.rel.kb b o (r.rel.top b o e)
  hnd := a.hnd
  dep := a.dep
  uni := a.uni
  kind := hk
  glb := a.glb
  blt := a.blt

theorem lookup_relabel_free {env : Env} (hkf : env.scope.kind = .function) : ∀ {names : List (Str × NameKind)} {x : Str}, names.lookup x = some .free → env.kindOf x = some .cell →
    (names.map fun (n, k) => if (k == NameKind.free && env.scope.kind == .function && env.kindOf n == some .cell) then (n, NameKind.cell) else (n, k)).lookup x = some .cell
  | [], _, h, _ => by simp at h
  | (n, k) :: r, x, h, hc => by
    have ih := @lookup_relabel_free env hkf r x
    show List.lookup x ((if (k == NameKind.free && env.scope.kind == .function && env.kindOf n == some .cell) = true then (n, NameKind.cell) else (n, k)) :: _) = _
    cases hx : x == n with
    | true =>
      simp only [List.lookup_cons, hx] at h
      cases h
      have e := beq_iff_eq.mp hx
      subst e
      simp [List.lookup_cons, hkf, hc]
    | false =>
      simp only [List.lookup_cons, hx] at h
      split <;> simp only [List.lookup_cons, hx] <;> exact ih h hc
theorem lookup_relabel_glob {env : Env} : ∀ {names : List (Str × NameKind)} {x : Str}, names.lookup x = some .globalImplicit →
    (names.map fun (n, k) => if (k == NameKind.free && env.scope.kind == .function && env.kindOf n == some .cell) then (n, NameKind.cell) else (n, k)).lookup x = some .globalImplicit
  | [], _, h => by simp at h
  | (n, k) :: r, x, h => by
    have ih := @lookup_relabel_glob env r x
    show List.lookup x ((if (k == NameKind.free && env.scope.kind == .function && env.kindOf n == some .cell) = true then (n, NameKind.cell) else (n, k)) :: _) = _
    cases hx : x == n with
    | true =>
      simp only [List.lookup_cons, hx] at h
      cases h
      simp [List.lookup_cons, hx]
    | false =>
      simp only [List.lookup_cons, hx] at h
      split <;> simp only [List.lookup_cons, hx] <;> exact ih h

section
variable {a : Act W} {ρ : Rho} {B : Frz} {sc : Scope} {C : Addr} {κ : Str → Option PyData} {hk : sc.kind = .function}
/-- a name of the comprehension's own -/
theorem Ev_cname {x : Str} {p : Pos} {d : PyData} (hx : sc.names.lookup x = some .local) (hd : κ x = some d) (hb : (x == ("__debug__" : Str)) = false := by decide) : Ev (a.vc ρ B sc C κ hk) (.Name x p) d := fun g s i => by
  obtain ⟨m, hn, hm⟩ := i.loc
  obtain ⟨v, hv, hdv⟩ := hm x d hd
  exact wpAny_Name (wpAny_loadName_local hk (lookup_relabel_local hx) hn hv ⟨g, Ext.refl i.rel.fz, hdv⟩) hb
/-- a cell of the def around it -/
theorem cname_load (hk : sc.kind = .function) {x : Str} {p : Pos} {sl : Slot} (hx : sc.names.lookup x = some .free) (hn : (sc.names.map (·.1)).Nodup) (ha : a.env.kindOf x = some .cell) (hac : ∃ c, a.env.cells.lookup x = some c) (hr : ρ x = some sl) {g : Frz} {s : Shared} (i : RelC a ρ B C κ g s)
    {Q : Value → Shared → Prop} {E : Value → Shared → Prop} (h : ∀ v, SlotIs g s.heap v sl → Q v s) (hb : (x == ("__debug__" : Str)) = false := by decide) : wpAny (model W.prog W.w) a.A (eval (.Name x p) (compEnvC sc (clOf sc a.env) C a.env)) Q E s := by
  obtain ⟨V, vv, hv⟩ := i.rel.vars
  obtain ⟨u, hu, hs⟩ := hv x sl hr
  obtain ⟨c, hc⟩ := hac
  exact wpAny_Name (wpAny_loadName_cell hk (lookup_relabel_free a.kind hx ha) (clOf_lookup hn (mem_of_lookup hx) hc) (hu ▸ vv.cell x c hc) (h u hs)) hb
theorem Ev_fname {x : Str} {p : Pos} {d : PyData} (hx : sc.names.lookup x = some .free) (hn : (sc.names.map (·.1)).Nodup) (ha : a.env.kindOf x = some .cell) (hac : ∃ c, a.env.cells.lookup x = some c) (hr : ρ x = some (.val d)) (hb : (x == ("__debug__" : Str)) = false := by decide) :
    Ev (a.vc ρ B sc C κ hk) (.Name x p) d := fun g s i => cname_load hk hx hn ha hac hr i (fun v h => ⟨g, Ext.refl i.rel.fz, h⟩) hb
theorem EvL_fname {x : Str} {p : Pos} {ad : Addr} {ds : List PyData} (hx : sc.names.lookup x = some .free) (hn : (sc.names.map (·.1)).Nodup) (ha : a.env.kindOf x = some .cell) (hac : ∃ c, a.env.cells.lookup x = some c) (hr : ρ x = some (.own ad (.lst ds))) (hb : (x == ("__debug__" : Str)) = false := by decide) :
    EvL (a.vc ρ B sc C κ hk) (.Name x p) ds := fun g s i => cname_load hk hx hn ha hac hr i (fun v h => by
      obtain ⟨rfl, vs, n, ho, hd⟩ := h
      exact ⟨g, ad, vs, n, Ext.refl i.rel.fz, rfl, ho, hd⟩) hb
theorem glob_vc {x : Str} {v : Value} (hx : sc.names.lookup x = some .globalImplicit) (h : W.mg x = some v ∨ (W.mg x = none ∧ W.mb x = some v)) : GlobIs (a.vc ρ B sc C κ hk) x v := ⟨lookup_relabel_glob hx, h⟩
end

/-- addresses that the activation's state does not hold -/
structure Off (a : Act W) (ρ : Rho) (B : Frz) (pv : List Addr) : Prop where
  b : ∀ z ∈ pv, B z = none
  l : a.env.locals ∉ pv
  c : ∀ x c, a.env.cells.lookup x = some c → c ∉ pv
  o : ∀ x ad m, ρ x = some (.own ad m) → ad ∉ pv
theorem Rel.off {a : Act W} {ρ : Rho} {B g : Frz} {s : Shared} (r : Rel a ρ B g s) {pv : List Addr} (h : ∀ z ∈ pv, s.heap.get? z = none) : Off a ρ B pv where
  b := fun z hz => by
    cases e : B z with
    | none => rfl
    | some o => have := r.kb z o e; rw [h z hz] at this; cases this
  l := fun hz => by obtain ⟨o, ho⟩ := r.liveL; rw [h _ hz] at ho; cases ho
  c := fun x c hc hz => by obtain ⟨o, ho⟩ := r.liveC hc; rw [h _ hz] at ho; cases ho
  o := fun x ad m hx hz => by obtain ⟨o, ho⟩ := (r.mutOf hx).live; rw [h _ hz] at ho; cases ho
theorem Rel.moved {a : Act W} {ρ : Rho} {B g : Frz} {s : Shared} (r : Rel a ρ B g s) {pv : List Addr} (O : Off a ρ B pv) (hg : ∀ z ∈ pv, g z = none) {h' : Heap} {t : Nat} (hk : ∀ b o, b ∉ pv → s.heap.get? b = some o → h'.get? b = some o) :
    Rel a ρ B g { s with heap := h', toks := t } := by
  obtain ⟨V, vv, hv⟩ := r.vars
  refine ⟨fun b o e => hk b o (fun hb => by rw [hg b hb] at e; cases e) (r.fz b o e), fun b o e => hk b o (fun hb => by rw [O.b b hb] at e; cases e) (r.kb b o e), r.top, r.gL, r.bL, r.gC, r.own, r.oo, V, ⟨?_, fun x c hc => ?_⟩, fun x sl hx => ?_⟩
  · obtain ⟨m, hn, hm⟩ := vv.ns
    exact ⟨m, hn.at' fun o e => hk _ o O.l e, hm⟩
  · obtain ⟨o, ho, hd⟩ := vv.cell x c hc
    exact ⟨o, hk c o (O.c x c hc) ho, hd⟩
  · obtain ⟨u, hu, hs⟩ := hv x sl hx
    exact ⟨u, hu, hs.mono .refl fun ad m e o h => hk ad o (O.o x ad m (e ▸ hx)) h⟩

/-- what draws a comprehension's items and binds its names -/
structure Drw (W : Wld) (A : Around) (cenv : Env) (target : Expr) (it : Value) (g2 : Frz) (fp pv : List Addr) (n : Nat) (κ : Nat → Str → Option PyData) (St : Nat → Heap → Prop) : Prop where
  sub : ∀ b ∈ fp, b ∈ pv ∨ ∃ o, g2 b = some o
  frame : ∀ i h h', St i h → (∀ b ∈ fp, ∀ o, h.get? b = some o → h'.get? b = some o) → St i h'
  live : ∀ i h, St i h → ∀ b ∈ pv, ∃ o, h.get? b = some o
  next : ∀ i s g m, i < n → St i s.heap → s.heap.Ns cenv.locals m → InH g s.heap → Le g2 g → (∀ b ∈ pv, g b = none) → g cenv.locals = none → cenv.locals ∉ fp → wpAny (model W.prog W.w) A (pyNext it) (fun r s1 => match r with
    | none => False
    | some v => wpAny (model W.prog W.w) A (letOwnedTupleGo target it v) (fun _ s1 => wpAny (model W.prog W.w) A (assign target cenv v) (fun _ s2 => (∃ h tk, s2 = { s with heap := h, toks := tk }) ∧ St (i + 1) s2.heap ∧
        (∀ b o, b ∉ pv → b ≠ cenv.locals → s.heap.get? b = some o → s2.heap.get? b = some o) ∧ ∃ m', s2.heap.Ns cenv.locals m' ∧ ∀ y d, κ i y = some d → ∃ v, m' y = some v ∧ Den g v d) noE s1) noE s1) noE s
  done : ∀ s, St n s.heap → wpAny (model W.prog W.w) A (pyNext it) (fun r s1 => r = none ∧ (∃ h tk, s1 = { s with heap := h, toks := tk }) ∧ ∀ b o, b ∉ pv → s.heap.get? b = some o → s1.heap.get? b = some o) noE s

theorem codeAny_compLoop_own {prog : Program} {w : World} {A : Around} {R : Result → Shared → Prop} {s : Shared} {elt target iter : Expr} {ifs : List Expr} {scope : Scope} {pos : Pos} {it acc : Value} {env : Env} (I : Nat → Shared → Prop)
    (turn : ∀ n s, I n s → wpAny (model prog w) A (pyNext it) (fun r s₁ => match r with
      | none => R (.ok .next) s₁
      | some v => wpAny (model prog w) A (letOwnedTupleGo target it v) (fun _ s₁ => wpAny (model prog w) A (assign target env v) (fun _ s₂ =>
          wpAny (model prog w) A (forIn ifs true fun c r => if r = true then do let ok ← isTrue c env (eval c env); pure (ForInStep.yield ok) else pure (ForInStep.yield r)) (fun ok s₃ =>
            if ok = true then wpAny (model prog w) A (eval elt env) (fun x s₄ =>
              wpAny (model prog w) A (call (.builtin "list.append") [acc, x]) (fun _ s₅ => ∃ m, m < n ∧ I m s₅) noE s₄) noE s₃
            else ∃ m, m < n ∧ I m s₃) noE s₂) noE s₁) noE s₁) noE s)
    (n : Nat) (h : I n s) :
    codeAny (model prog w) A (.compLoop (.ListComp elt [⟨target, iter, ifs, 0⟩] scope pos) 0 it acc env) R s := by
  refine codeAny_loop rfl I (fun n s hI => ?_) n h
  show wpAny _ A ((compTurn (.ListComp elt [⟨target, iter, ifs, 0⟩] scope pos) 0 it acc env).onRaise (fun x => do noteFrame x env; theTreesLotGoes x)) _ _ s
  refine wpAny_noted ?_
  rw [compTurn_list]
  refine wpAny_bind (wpAny_standAt (wpAny_bind (wpAny_mono (turn n s hI) (fun r s₁ h₁ => ?_) fun _ _ h' => h'.elim)))
  cases r with
  | none => exact wpAny_pure h₁
  | some v =>
    refine wpAny_bind (wpAny_mono h₁ (fun _ s₁ h₁ => ?_) fun _ _ h' => h'.elim)
    refine wpAny_bind (wpAny_mono h₁ (fun _ s₂ h₂ => wpAny_bind (wpAny_mono h₂ (fun ok s₃ h₃ => ?_) fun _ _ h' => h'.elim)) fun _ _ h' => h'.elim)
    cases ok with
    | false =>
      simp only [Bool.false_eq_true, if_false] at h₃ ⊢
      first
        | exact wpAny_pure ⟨rfl, h₃⟩
        | exact wpAny_bind (wpAny_pure (wpAny_pure ⟨rfl, h₃⟩))
    | true =>
      simp only [if_true] at h₃ ⊢
      refine wpAny_bind ?_
      refine wpAny_bind (wpAny_mono h₃ (fun x s₄ h₄ => wpAny_bind (wpAny_mono h₄ (fun _ s₅ h₅ => ?_) fun _ _ h' => h'.elim)) fun _ _ h' => h'.elim)
      first
        | exact wpAny_pure (wpAny_pure ⟨rfl, h₅⟩)
        | exact wpAny_pure (wpAny_bind (wpAny_pure (wpAny_pure ⟨rfl, h₅⟩)))
end Mine
namespace Mine
open PySem PySem.W PyProof.Rows PySem.Calls
variable {W : Wld}

/-- a comprehension's tests -/
def TsL (V : Vw W) (ifs : List Expr) (b : Bool) : Prop := ∀ g s, V.I g s → wpAny (model W.prog W.w) V.A (forIn ifs true fun c r => if r = true then do let ok ← isTrue c V.env (eval c V.env); pure (ForInStep.yield ok) else pure (ForInStep.yield r)) (fun ok s' => ok = b ∧ ∃ g', Ext g s g' s') noE s
theorem TsL_nil {V : Vw W} : TsL V [] true := fun g s i => wpAny_tests_nil ⟨rfl, g, Ext.refl (V.fz i)⟩
theorem TsL_one {V : Vw W} {c : Expr} {b : Bool} (h : Ts V c b) : TsL V [c] b := fun g s i => wpAny_tests_one (h g s i)

/-- what the first i turns have made -/
def made (pz : Nat → Bool) (f : Nat → PyData) (i : Nat) : List PyData := ((List.range i).filter pz).map f
theorem made_succ {pz : Nat → Bool} {f : Nat → PyData} {i : Nat} : made pz f (i + 1) = made pz f i ++ (if pz i then [f i] else []) := by
  unfold made
  rw [List.range_succ, List.filter_append, List.map_append]
  cases h : pz i <;> simp [h]
theorem made_len {pz : Nat → Bool} {f : Nat → PyData} {i : Nat} : (made pz f i).length ≤ i := by
  unfold made
  rw [List.length_map]
  exact Nat.le_trans (List.length_filter_le _ _) (by simp)
theorem made_all {f : Nat → PyData} {n : Nat} : made (fun _ => true) f n = (List.range n).map f := by unfold made; rw [List.filter_eq_self.mpr (by intro _ _; rfl)]

section
variable {a : Act W} {ρ : Rho} {B : Frz} {sc : Scope}
theorem comp_core {elt target iter : Expr} {ifs : List Expr} {pos : Pos} {g2 : Frz} {s2 : Shared} {I : Addr} {fp pv : List Addr} {n : Nat} {κ : Nat → Str → Option PyData} {St : Nat → Heap → Prop} (hk : sc.kind = .function) (hcell : ∀ y ∈ sc.names, y.2 ≠ .cell)
    (Dr : ∀ C, Drw W a.A (compEnvC sc (clOf sc a.env) C a.env) target (.ref I) g2 fp pv n κ St) (hst : St 0 s2.heap) (r2 : Rel a ρ B g2 s2) (O : Off a ρ B pv) (hgp : ∀ z ∈ pv, g2 z = none) (hfp : ∀ b ∈ fp, b < s2.heap.objs.size)
    (hself : ∀ (s : Shared) (Q : Value → Shared → Prop) (E : Value → Shared → Prop), St 0 s.heap → Q (.ref I) s → wpAny (model W.prog W.w) a.A (pyIter (.ref I)) Q E s)
    {pz : Nat → Bool} {f : Nat → PyData} (tests : ∀ i, i < n → ∀ C, TsL (a.vc ρ B sc C (κ i) hk) ifs (pz i)) (elts : ∀ i, i < n → pz i = true → ∀ C, Ev (a.vc ρ B sc C (κ i) hk) elt (f i)) (hsz : Small n)
    {RR : Value → Addr → Result → Shared → Prop}
    (hRR : ∀ D0 C s' g' vs ep m, s2.heap.get? D0 = none → s2.heap.get? C = none → D0 ≠ C → s'.heap.Ns C m → s'.heap.get? D0 = some (lstO vs ep) → DenAll g' vs (made pz f n) → Rel a ρ B g' s' → (∃ h tk, s' = { s2 with heap := h, toks := tk }) → Le g2 g' →
      (∀ b o, s2.heap.get? b = some o → g' b = g2 b) → (∀ b o, b ∉ pv → s2.heap.get? b = some o → s'.heap.get? b = some o) → g' D0 = none → g' C = none → RR (.ref D0) C (.ok .next) s') :
    wpAny (model W.prog W.w) a.A (newList []) (fun acc s3 => wpAny (model W.prog W.w) a.A (newFunctionEnv sc a.env.globals (clOf sc a.env) [] a.env.qual none .none (some a.env)) (fun cenv s4 =>
      codeAny (model W.prog W.w) a.A (.compStart (.ListComp elt [⟨target, iter, ifs, 0⟩] sc pos) 0 (.ref I) acc { cenv with scope := relabel sc a.env }) (RR acc cenv.locals) s4) noE s3) noE s2 := by
  refine wpAny_newObj_type (wpAny_newFunctionEnv hcell (by intro y hy; simp at hy) (fun h₁ hns₁ hsb₁ => ?_) hk)
  dsimp only at hns₁ hsb₁ ⊢
  generalize hH2 : s2.heap.push { cls := .type "list", dict := none, data := .seq ([] : List Value).toArray } = H2 at hns₁ hsb₁ ⊢
  have hC : H2.objs.size = s2.heap.objs.size + 1 := by rw [← hH2, Heap.size_push]
  have hDC : s2.heap.objs.size ≠ H2.objs.size := by rw [hC]; exact Nat.ne_of_lt (Nat.lt_succ_self _)
  have below : ∀ b, b < s2.heap.objs.size → b ≠ H2.objs.size ∧ b ≠ s2.heap.objs.size := fun b hb => ⟨by rw [hC]; exact Nat.ne_of_lt (Nat.lt_succ_of_lt hb), Nat.ne_of_lt hb⟩
  have hDf : s2.heap.objs.size ∉ fp := fun hm => Nat.lt_irrefl _ (hfp _ hm)
  have hCf : H2.objs.size ∉ fp := fun hm => by have := hfp _ hm; rw [hC] at this; exact Nat.lt_irrefl _ (Nat.lt_of_succ_lt this)
  have old : ∀ b o, s2.heap.get? b = some o → h₁.get? b = some o := fun b o e => hsb₁.extBut b o (below b (Heap.lt_size e)).1 (Heap.get?_push_of_some _ (hH2 ▸ Heap.get?_push_of_some _ e))
  have hacc : h₁.get? s2.heap.objs.size = some (lstO [] 0) := hsb₁.extBut _ _ hDC (Heap.get?_push_of_some _ (hH2 ▸ Heap.get?_push_size _ rfl))
  have fresh : ∀ z, s2.heap.objs.size ≤ z → s2.heap.get? z = none := fun z hz => by
    cases e : s2.heap.get? z with
    | none => rfl
    | some o' => exact absurd (Heap.lt_size e) (Nat.not_lt.mpr hz)
  have hDn := fresh s2.heap.objs.size (Nat.le_refl _)
  have hCn := fresh H2.objs.size (by rw [hC]; exact Nat.le_succ _)
  have gno : ∀ z, s2.heap.get? z = none → g2 z = none := fun z hz => by
    cases e : g2 z with
    | none => rfl
    | some o => rw [r2.fz z o e] at hz; cases hz
  have hst₁ : St 0 h₁ := (Dr 0).frame _ _ _ hst fun b _ o e => old b o e
  have hpvl : ∀ i h, St i h → ∀ b ∈ pv, ∃ o, h.get? b = some o := (Dr 0).live
  have hDp : s2.heap.objs.size ∉ pv := fun hm => by obtain ⟨o, ho⟩ := hpvl 0 _ hst _ hm; rw [hDn] at ho; cases ho
  have hCp : H2.objs.size ∉ pv := fun hm => by obtain ⟨o, ho⟩ := hpvl 0 _ hst _ hm; rw [hCn] at ho; cases ho
  have O3 : Off a ρ B (s2.heap.objs.size :: H2.objs.size :: pv) := by
    have o2 := r2.off (pv := [s2.heap.objs.size, H2.objs.size]) (fun z hz => by
      rcases List.mem_cons.mp hz with rfl | hz
      · exact hDn
      · rw [List.mem_singleton.mp hz]; exact hCn)
    refine ⟨fun z hz => ?_, fun hz => ?_, fun x c hc hz => ?_, fun x ad m hx hz => ?_⟩
    · rcases List.mem_cons.mp hz with rfl | hz
      · exact o2.b _ (.head _)
      · rcases List.mem_cons.mp hz with rfl | hz
        · exact o2.b _ (.tail _ (.head _))
        · exact O.b z hz
    · rcases List.mem_cons.mp hz with e | hz
      · exact o2.l (by rw [e]; exact .head _)
      · rcases List.mem_cons.mp hz with e | hz
        · exact o2.l (by rw [e]; exact .tail _ (.head _))
        · exact O.l hz
    · rcases List.mem_cons.mp hz with e | hz
      · exact o2.c x c hc (by rw [e]; exact .head _)
      · rcases List.mem_cons.mp hz with e | hz
        · exact o2.c x c hc (by rw [e]; exact .tail _ (.head _))
        · exact O.c x c hc hz
    · rcases List.mem_cons.mp hz with e | hz
      · exact o2.o x ad m hx (by rw [e]; exact .head _)
      · rcases List.mem_cons.mp hz with e | hz
        · exact o2.o x ad m hx (by rw [e]; exact .tail _ (.head _))
        · exact O.o x ad m hx hz
  have hg3 : ∀ {g' : Frz}, (∀ b ∈ pv, g' b = none) → g' s2.heap.objs.size = none → g' H2.objs.size = none → ∀ z ∈ s2.heap.objs.size :: H2.objs.size :: pv, g' z = none := fun {g'} h1 h2 h3 z hz => by
    rcases List.mem_cons.mp hz with rfl | hz
    · exact h2
    · rcases List.mem_cons.mp hz with rfl | hz
      · exact h3
      · exact h1 z hz
  have rel₁ : Rel a ρ B g2 { s2 with heap := h₁, toks := s2.toks + ([] : List (Str × Value)).length } := r2.moved O3 (hg3 hgp (gno _ hDn) (gno _ hCn)) fun b o _ e => old b o e
  have loop : codeAny (model W.prog W.w) a.A (.compLoop (.ListComp elt [⟨target, iter, ifs, 0⟩] sc pos) 0 (.ref I) (.ref s2.heap.objs.size) (compEnvC sc (clOf sc a.env) H2.objs.size a.env)) (RR (.ref s2.heap.objs.size) H2.objs.size)
      { s2 with heap := h₁, toks := s2.toks + ([] : List (Str × Value)).length } := by
    refine codeAny_compLoop_own (fun k s' => ∃ i g' vs ep m, i ≤ n ∧ k = n + 1 - i ∧ St i s'.heap ∧ s'.heap.get? s2.heap.objs.size = some (lstO vs ep) ∧ DenAll g' vs (made pz f i) ∧ s'.heap.Ns H2.objs.size m ∧ Rel a ρ B g' s' ∧
      (∃ h tk, s' = { s2 with heap := h, toks := tk }) ∧ Le g2 g' ∧ (∀ b o, s2.heap.get? b = some o → g' b = g2 b) ∧ (∀ b o, b ∉ pv → s2.heap.get? b = some o → s'.heap.get? b = some o) ∧ g' s2.heap.objs.size = none ∧ g' H2.objs.size = none) ?_ (n + 1)
      ⟨0, g2, [], 0, _, Nat.zero_le _, rfl, hst₁, hacc, .nil, hns₁, rel₁, ⟨_, _, rfl⟩, .refl, fun _ _ _ => rfl, fun b o _ e => old b o e, gno _ hDn, gno _ hCn⟩
    rintro k s' ⟨i, g', vs, ep, m, hi, rfl, hst', hl', hd', hn', r', same', hle', hold', hkeep', hgD, hgC⟩
    have hgpv : ∀ b ∈ pv, g' b = none := fun b hb => by
      obtain ⟨o, ho⟩ := hpvl 0 _ hst b hb
      rw [hold' b o ho]; exact hgp b hb
    by_cases hlt : i < n
    · refine wpAny_mono ((Dr H2.objs.size).next i s' g' m hlt hst' hn' r'.fz hle' hgpv hgC hCf) (fun r s1 h1 => ?_) fun _ _ e => e
      cases r with
      | none => exact h1.elim
      | some v =>
        refine wpAny_mono h1 (fun _ s1 h1 => wpAny_mono h1 (fun _ s4 h4 => ?_) fun _ _ e => e) fun _ _ e => e
        obtain ⟨⟨h4', t4, rfl⟩, hst4, hk4, m4, hn4, hb4⟩ := h4
        replace hn4 : h4'.Ns H2.objs.size m4 := hn4
        replace hst4 : St (i + 1) h4' := hst4
        have r4 : Rel a ρ B g' { s' with heap := h4', toks := t4 } := r'.moved O3 (hg3 hgpv hgD hgC) fun b o hb e =>
          hk4 b o (fun q => hb (.tail _ (.tail _ q))) (fun q => hb (by rw [q]; exact .tail _ (.head _))) e
        have hl4 : h4'.get? s2.heap.objs.size = some (lstO vs ep) := hk4 _ _ hDp hDC hl'
        have i4 : RelC a ρ B H2.objs.size (κ i) g' { s' with heap := h4', toks := t4 } := ⟨r4, m4, hn4, hb4⟩
        obtain ⟨h0, t0, e0⟩ := same'
        have hk04 : ∀ b o, b ∉ pv → s2.heap.get? b = some o → h4'.get? b = some o := fun b o hb e => hk4 b o hb (below b (Heap.lt_size e)).1 (hkeep' b o hb e)
        refine wpAny_mono (tests i hlt H2.objs.size g' _ i4) (fun ok s5 ⟨e5, g5, x5⟩ => ?_) fun _ _ e => e
        subst e5
        have r5 := r4.stable x5
        have lv : ∀ {b : Addr} {o : Obj}, s2.heap.get? b = some o → ∃ o', h4'.get? b = some o' := fun {b o} e => by
          by_cases hb : b ∈ pv
          · exact hpvl _ _ hst4 b hb
          · exact ⟨o, hk04 b o hb e⟩
        cases hp : pz i with
        | false =>
          simp only [Bool.false_eq_true, if_false]
          obtain ⟨h5, t5, e5⟩ := x5.same
          refine ⟨n + 1 - (i + 1), by omega, i + 1, g5, vs, ep, m4, hlt, rfl, (Dr 0).frame _ _ _ hst4 (fun b _ o e => x5.keep b o e), x5.keep _ _ hl4, ?_, hn4.keeps x5.keep, r5, ⟨h5, t5, by rw [e5, e0]⟩, hle'.trans x5.le, fun b o e => ?_, fun b o hb e => x5.keep b o (hk04 b o hb e), ?_, ?_⟩
          · rw [made_succ, hp]; simpa using hd'.mono x5.le
          · obtain ⟨o', ho'⟩ := lv e
            rw [x5.old b o' ho']; exact hold' b o e
          · rw [x5.old _ _ hl4]; exact hgD
          · obtain ⟨o, ho⟩ := ns_live hn4
            rw [x5.old _ _ ho]; exact hgC
        | true =>
          simp only [if_true]
          have i5 : RelC a ρ B H2.objs.size (κ i) g5 s5 := (a.vc ρ B sc H2.objs.size (κ i) hk).stable i4 x5
          refine wpAny_mono (elts i hlt hp H2.objs.size g5 s5 i5) (fun w s6 ⟨g6, x6, dw⟩ => ?_) fun _ _ e => e
          have X := x5.trans x6
          have r6 := r5.stable x6
          have hl6 := X.keep _ _ hl4
          have hsmall : vs.toArray.size ≤ sizeLine := by
            rw [List.size_toArray, hd'.length]
            have := made_len (pz := pz) (f := f) (i := i)
            unfold Small at hsz; omega
          refine wpAny_list_append_plain (hsz := hsmall) (items := vs.toArray) ⟨ep, hl6⟩ fun h7 hl7 hs7 => ?_
          obtain ⟨ep7, hl7⟩ := hl7
          obtain ⟨h6, t6, e6⟩ := X.same
          have hC7 : ∀ b o, b ≠ s2.heap.objs.size → s6.heap.get? b = some o → h7.get? b = some o := fun b o hb e => hs7.extBut b o hb e
          have hgD6 : g6 s2.heap.objs.size = none := by rw [X.old _ _ hl4]; exact hgD
          have hgC6 : g6 H2.objs.size = none := by obtain ⟨o, ho⟩ := ns_live hn4; rw [X.old _ _ ho]; exact hgC
          have r7 : Rel a ρ B g6 { s6 with heap := h7, toks := s6.toks } := r6.moved (pv := [s2.heap.objs.size]) ⟨fun z hz => O3.b z (by rw [List.mem_singleton.mp hz]; exact .head _), fun hz => O3.l (by rw [List.mem_singleton.mp hz]; exact .head _), fun x c hc hz => O3.c x c hc (by rw [List.mem_singleton.mp hz]; exact .head _), fun x ad m hx hz => O3.o x ad m hx (by rw [List.mem_singleton.mp hz]; exact .head _)⟩
            (fun z hz => by rw [List.mem_singleton.mp hz]; exact hgD6) fun b o hb e => hC7 b o (fun q => hb (by rw [q]; exact .head _)) e
          refine ⟨n + 1 - (i + 1), by omega, i + 1, g6, vs ++ [w], ep7, m4, hlt, rfl, (Dr 0).frame _ _ _ hst4 (fun b hb o e => hC7 b o (fun q => hDf (q ▸ hb)) (X.keep b o e)), by simpa using hl7, ?_, (hn4.keeps X.keep).sameBut hs7 (Ne.symm hDC), r7, ⟨h7, s6.toks, by rw [e6, e0]⟩, hle'.trans X.le, fun b o e => ?_, fun b o hb e => hC7 b o (below b (Heap.lt_size e)).2 (X.keep b o (hk04 b o hb e)), hgD6, hgC6⟩
          · rw [made_succ, hp]; simpa using (hd'.mono X.le).append (.one dw)
          · obtain ⟨o', ho'⟩ := lv e
            rw [X.old b o' ho']; exact hold' b o e
    · have hin : i = n := by omega
      subst hin
      refine wpAny_mono ((Dr H2.objs.size).done s' hst') (fun r s1 ⟨e1, ⟨h1, t1, e1'⟩, hk1⟩ => ?_) fun _ _ e => e
      subst e1 e1'
      obtain ⟨h0, t0, e0⟩ := same'
      have r1 : Rel a ρ B g' { s' with heap := h1, toks := t1 } := r'.moved O hgpv fun b o hb e => hk1 b o hb e
      exact hRR _ _ { s' with heap := h1, toks := t1 } g' vs ep m hDn hCn hDC (hn'.at' fun o e => hk1 _ o hCp e) (hk1 _ _ hDp hl') hd' r1 ⟨h1, t1, by rw [e0]⟩ hle' hold' (fun b o hb e => hk1 b o hb (hkeep' b o hb e)) hgD hgC
  exact codeAny_compStart_list loop (hself _ _ _ hst₁ loop)
end
end Mine
namespace Mine
open PySem PySem.W PyProof.Rows PySem.Calls
variable {W : Wld}

theorem Drw.ofIt {A : Around} {g2 : Frz} {s2 : Shared} {I : Addr} {fp wr : List Addr} {n : Nat} {D : Nat → PyData} {Pv : Nat → Value → Prop} {St : Nat → Heap → Prop} (it : It W A g2 s2 I fp wr n D Pv St) {sc : Scope} {env : Env} {cl : List (Str × Addr)} {C : Addr} {x : Str} {px : Pos}
    (hx : sc.names.lookup x = some .local) (hk : sc.kind = .function) : Drw W A (compEnvC sc cl C env) (.Name x px) (.ref I) g2 fp wr n (fun i y => if y = x then some (D i) else none) St where
  sub := it.fro
  frame := it.walks.frame
  live := it.live
  next := fun i s g m hi hst hn hz hle hoff hgC hCf => by
    refine it.walks.item i s _ _ hi hst fun v h1 tk hv hst1 hk1 => ?_
    refine wpAny_pure ?_
    have hCw : C ∉ wr := fun h => hCf (it.walks.sub _ h)
    refine wpAny_assign_Name (wpAny_storeName_local (env := compEnvC sc cl C env) (lookup_relabel_local hx) (hn.at' fun o e => hk1 _ o hCw e) (fun h2 hn2 hs2 => ?_) (by show (sc.kind == .class || (sc.kind == .module && _)) = false; rw [hk]; rfl))
    refine ⟨⟨_, _, rfl⟩, it.walks.frame _ _ _ hst1 fun b hb o e => hs2.extBut b o (fun q => hCf (q ▸ hb)) e, fun b o hb hbC e => hs2.extBut b o hbC (hk1 b o hb e), _, hn2, fun y d hy => ?_⟩
    by_cases q : y = x
    · subst q
      simp only [if_true] at hy ⊢
      cases hy
      exact ⟨v, rfl, it.den i v g hle hi hv⟩
    · simp [q] at hy
  done := fun s hst => it.walks.done s _ _ hst fun h1 tk hk1 => ⟨rfl, ⟨_, _, rfl⟩, hk1⟩

theorem It.lt {A : Around} {g2 : Frz} {s2 : Shared} {I : Addr} {fp wr : List Addr} {n : Nat} {D : Nat → PyData} {Pv : Nat → Value → Prop} {St : Nat → Heap → Prop} (it : It W A g2 s2 I fp wr n D Pv St) (fz : InH g2 s2.heap) : ∀ b ∈ fp, b < s2.heap.objs.size := fun b hb => by
  rcases it.fro b hb with h | ⟨o, h⟩
  · obtain ⟨o, ho⟩ := it.live 0 _ it.st b h; exact Heap.lt_size ho
  · exact Heap.lt_size (fz b o h)

section
variable {a : Act W} {ρ : Rho} {B : Frz} {sc : Scope} {Q : FlowD → Rho → Prop}

/-- a source that a comprehension draws from -/
def DSrc (a : Act W) (ρ : Rho) (B : Frz) (sc : Scope) (target iter : Expr) (n : Nat) (κ : Nat → Str → Option PyData) : Prop := ∀ g s, Rel a ρ B g s → wpAny (model W.prog W.w) a.A (eval iter a.env) (fun xv s1 => wpAny (model W.prog W.w) a.A (pyIter xv) (fun it s2 =>
  ∃ g2 I fp pv St, it = .ref I ∧ Ext g s g2 s2 ∧ (∀ C, Drw W a.A (compEnvC sc (clOf sc a.env) C a.env) target (.ref I) g2 fp pv n κ St) ∧ St 0 s2.heap ∧ (∀ z ∈ pv, g2 z = none) ∧ (∀ b ∈ fp, b < s2.heap.objs.size) ∧ (∀ z ∈ pv, s.heap.get? z = none) ∧
    (∀ (s : Shared) (Q : Value → Shared → Prop) (E : Value → Shared → Prop), St 0 s.heap → Q (.ref I) s → wpAny (model W.prog W.w) a.A (pyIter (.ref I)) Q E s)) noE s1) noE s
theorem DSrc.ofSrc {x : Str} {px : Pos} {iter : Expr} {n : Nat} {D : Nat → PyData} (h : Src (a.vw ρ B) iter n D) (hx : sc.names.lookup x = some .local) (hk : sc.kind = .function) : DSrc a ρ B sc (.Name x px) iter n (fun i y => if y = x then some (D i) else none) := fun g s r =>
  wpAny_mono (h g s r) (fun xv s1 h1 => wpAny_mono h1 (fun it s2 ⟨g2, I, fp, wr, Pv, St, e, x2, it, hn⟩ =>
    ⟨g2, I, fp, wr, St, e, x2, fun C => Drw.ofIt it hx hk, it.st, it.off, it.lt x2.fz, hn, fun s Q E hst hq => it.walks.self 0 s Q E hst hq⟩) fun _ _ e => e) fun _ _ e => e

theorem EvF_comp {elt target iter : Expr} {ifs : List Expr} {pos : Pos} {n : Nat} {κ : Nat → Str → Option PyData} {pz : Nat → Bool} {f : Nat → PyData} (src : DSrc a ρ B sc target iter n κ) (hk : sc.kind = .function) (hcell : ∀ y ∈ sc.names, y.2 ≠ .cell)
    (hfree : ∀ m, (m, NameKind.free) ∈ sc.names → ∃ c, a.env.cells.lookup m = some c) (hnames : ∀ y ∈ sc.names, y.2 = .local → sc.names.lookup y.1 = some .local)
    (tests : ∀ i, i < n → ∀ C, TsL (a.vc ρ B sc C (κ i) hk) ifs (pz i)) (elts : ∀ i, i < n → pz i = true → ∀ C, Ev (a.vc ρ B sc C (κ i) hk) elt (f i)) (hsz : Small n) (hs : ∀ x, foldedSetIterable iter a.env x = pure x := by intro _; rfl) :
    EvF (a.vw ρ B) (.ListComp elt [⟨target, iter, ifs, 0⟩] sc pos) (made pz f n) := fun g s r => by
  show wpAny _ a.A (eval (.ListComp elt [⟨target, iter, ifs, 0⟩] sc pos) a.env) _ _ _
  rw [eval_ListComp]
  refine wpAny_comprehension_free (use := none) rfl hs (closureFor_of hfree) hk hnames (wpAny_mono (src g s r) (fun xv s1 h1 => wpAny_mono h1 (fun it s2 h2 => ?_) fun _ _ e => e) fun _ _ e => e)
  obtain ⟨g2, I, fp, pv, St, rfl, x2, Dr, hst, hgp, hfp, hnew, hself⟩ := h2
  have r2 := Rel.stable r x2
  have O := r.off hnew
  refine comp_core (RR := fun acc C => compPost (model W.prog W.w) a.A noE none (fun v s' => ∃ g' ad vs n', Ext g s g' s' ∧ v = .ref ad ∧ s'.heap.get? ad = some (lstO vs n') ∧ DenAll g' vs (made pz f n) ∧ s.heap.get? ad = none ∧ g' ad = none) acc C)
    hk hcell Dr hst r2 O hgp hfp hself tests elts hsz ?_
  intro D0 C s' g' vs ep m hD hC hDC hnC hl hd r' same hle hold hkeep hgD hgC
  refine ⟨m, hnC, fun h' hs' => ?_⟩
  obtain ⟨h2, t2, e2⟩ := x2.same
  obtain ⟨h3, t3, e3⟩ := same
  have hlive : ∀ b o, s.heap.get? b = some o → s'.heap.get? b = some o := fun b o e => hkeep b o (fun hb => by rw [hnew b hb] at e; cases e) (x2.keep b o e)
  refine ⟨g', D0, vs, ep, ⟨⟨h', s'.toks, by rw [e3, e2]⟩, fun b o e => hs'.extBut b o (fun q => by subst q; rw [x2.keep _ _ e] at hC; cases hC) (hlive b o e), fun b o e => by rw [hold b o (x2.keep b o e)]; exact x2.old b o e, x2.le.trans hle, fun b o e => hs'.extBut b o (fun q => by subst q; rw [hgC] at e; cases e) (r'.fz b o e)⟩, rfl, hs'.extBut _ _ hDC hl, hd, ?_, hgD⟩
  cases e : s.heap.get? D0 with
  | none => rfl
  | some o => rw [x2.keep _ _ e] at hD; cases hD

/-- x = [..] where the name is a plain local: the stores are exchanged -/
theorem Tr_assign_comp {y : Str} {elt target iter : Expr} {ifs : List Expr} {py pos p : Pos} {n : Nat} {κ : Nat → Str → Option PyData} {pz : Nat → Bool} {f : Nat → PyData} (src : ∀ B, DSrc a ρ B sc target iter n κ) (hy : a.env.kindOf y = some .local) (hk : sc.kind = .function) (hcell : ∀ y ∈ sc.names, y.2 ≠ .cell)
    (hfree : ∀ m, (m, NameKind.free) ∈ sc.names → ∃ c, a.env.cells.lookup m = some c) (hnames : ∀ y ∈ sc.names, y.2 = .local → sc.names.lookup y.1 = some .local)
    (tests : ∀ B, ∀ i, i < n → ∀ C, TsL (a.vc ρ B sc C (κ i) hk) ifs (pz i)) (elts : ∀ B, ∀ i, i < n → pz i = true → ∀ C, Ev (a.vc ρ B sc C (κ i) hk) elt (f i)) (hsz : Small n) (hq : Q .nxt (ρ.set y (.val (.list (made pz f n)))))
    (hsw : swapsWith (.ListComp elt [⟨target, iter, ifs, 0⟩] sc pos) (some (.Name y py)) p.line a.env = pure true) (hs : ∀ x, foldedSetIterable iter a.env x = pure x := by intro _; rfl) :
    Tr a (exec (.Assign [.Name y py] (.ListComp elt [⟨target, iter, ifs, 0⟩] sc pos) p) a.env) ρ Q := fun B g s r => by
  rw [exec_Assign_Name_used _ _ _ _ hsw]
  refine wpAny_bind (wpAny_standAt (wpAny_bind ?_))
  show wpAny _ a.A (do let _ ← comprehension (.ListComp elt [⟨target, iter, ifs, 0⟩] sc pos) sc a.env _ (newList []) false (eval iter a.env) (some (assign (.Name y py) a.env))) _ _ s
  refine wpAny_bind (wpAny_mono (wpAny_comprehension_free (use := some (assign (.Name y py) a.env)) (Q := fun _ s' => ∃ g' fd ρ', StepTo B g s g' s' ∧ Rel a ρ' B g' s' ∧ FlowIs g' .next fd ∧ Q fd ρ') rfl hs (closureFor_of hfree) hk hnames
    (wpAny_mono (src B g s r) (fun xv s1 h1 => wpAny_mono h1 (fun it s2 h2 => ?_) fun _ _ e => e) fun _ _ e => e)) (fun _ s' hq => wpAny_pure (wpAny_pure hq)) fun _ _ e => e)
  obtain ⟨g2, I, fp, pv, St, rfl, x2, Dr, hst, hgp, hfp, hnew, hself⟩ := h2
  have r2 := Rel.stable r x2
  have O := r.off hnew
  refine comp_core (RR := fun acc C => compPost (model W.prog W.w) a.A noE (some (assign (.Name y py) a.env)) (fun _ s' => ∃ g' fd ρ', StepTo B g s g' s' ∧ Rel a ρ' B g' s' ∧ FlowIs g' .next fd ∧ Q fd ρ') acc C)
    hk hcell Dr hst r2 O hgp hfp hself (tests B) (elts B) hsz ?_
  intro D0 C s' g' vs ep m hD hC hDC hnC hl hd r' same hle hold hkeep hgD hgC
  show wpAny _ a.A (assign (.Name y py) a.env (.ref D0)) _ _ _
  -- freeze the list, guard the block
  have noneS : ∀ z, s2.heap.get? z = none → s.heap.get? z = none := fun z hz => by
    cases e : s.heap.get? z with
    | none => rfl
    | some o => rw [x2.keep _ _ e] at hz; cases hz
  have OO := r.off (pv := [D0, C]) (fun z hz => by
    rcases List.mem_cons.mp hz with rfl | hz
    · exact noneS _ hD
    · rw [List.mem_singleton.mp hz]; exact noneS _ hC)
  have rf : Rel a ρ B (frz g' D0 (lstO vs ep)) s' := by
    have hle2 := frz_le (o := lstO vs ep) hgD
    refine ⟨fun b o e => ?_, r'.kb, r'.top, ?_, r'.bL, fun x c hc => ⟨?_, (r'.gC x c hc).2⟩, fun x ad m hx => ?_, r'.oo, ?_⟩
    · by_cases q : b = D0
      · subst q; rw [frz_self] at e; cases e; exact hl
      · rw [frz_ne q] at e; exact r'.fz b o e
    · rw [frz_ne fun q => OO.l (by rw [q]; exact .head _)]; exact r'.gL
    · rw [frz_ne fun q => OO.c x c hc (by rw [q]; exact .head _)]; exact (r'.gC x c hc).1
    · obtain ⟨h1, h2⟩ := r'.own x ad m hx
      exact ⟨by rw [frz_ne fun q => OO.o x ad m hx (by rw [q]; exact .head _)]; exact h1, h2⟩
    · obtain ⟨V, vv, hv⟩ := r'.vars
      exact ⟨V, vv, fun x sl hx => let ⟨u, hu, hs⟩ := hv x sl hx; ⟨u, hu, hs.mono hle2 fun _ _ _ _ h => h⟩⟩
  have rg : Rel a ρ (Bw [C] B s'.heap) (frz g' D0 (lstO vs ep)) s' := rf.guard (fun b hb => OO.b b (by rw [List.mem_singleton.mp hb]; exact .tail _ (.head _))) (fun hb => OO.l (by rw [List.mem_singleton.mp hb]; exact .tail _ (.head _)))
    (fun x c hc hb => OO.c x c hc (by rw [List.mem_singleton.mp hb]; exact .tail _ (.head _))) (fun x ad m hx hb => OO.o x ad m hx (by rw [List.mem_singleton.mp hb]; exact .tail _ (.head _)))
  refine wpAny_assign_Name (store_name rg (.inl hy) (sl := .val (.list (made pz f n))) (.list frz_self (hd.mono (frz_le hgD))) (fun ad m e => nomatch e) fun h3 t3 r3 => ?_)
  have hBC : B C = none := OO.b C (.tail _ (.head _))
  refine ⟨m, hnC.at' fun o e => r3.kb C o (by rw [Bw_in (.head _)]; exact e), fun h4 hs4 => ?_⟩
  obtain ⟨e1, t1, q1⟩ := x2.same
  obtain ⟨e2, t2, q2⟩ := same
  have r4 : Rel a (ρ.set y (.val (.list (made pz f n)))) B (frz g' D0 (lstO vs ep)) { { s' with heap := h3, toks := t3 } with heap := h4, toks := t3 } := by
    have hBB : ∀ b o, B b = some o → Bw [C] B s'.heap b = some o := fun b o e => by
      rw [Bw_off fun hb => by rw [List.mem_singleton.mp hb, hBC] at e; cases e]; exact e
    refine (r3.weaken hBB r.top).moved (pv := [C]) ⟨fun z hz => by rw [List.mem_singleton.mp hz]; exact hBC, fun hz => OO.l (by rw [List.mem_singleton.mp hz]; exact .tail _ (.head _)), fun x c hc hz => OO.c x c hc (by rw [List.mem_singleton.mp hz]; exact .tail _ (.head _)), fun x ad m hx hz => ?_⟩
      (fun z hz => by rw [List.mem_singleton.mp hz, frz_ne (Ne.symm hDC)]; exact hgC) fun b o hb e => hs4.extBut b o (fun q => hb (by rw [q]; exact .head _)) e
    by_cases q : x = y
    · subst q; rw [Rho.set_self] at hx; cases hx
    · rw [Rho.set_ne q] at hx
      exact OO.o x ad m hx (by rw [List.mem_singleton.mp hz]; exact .tail _ (.head _))
  refine ⟨_, .nxt, _, ⟨⟨h4, t3, by rw [q2, q1]⟩, (x2.le.trans hle).trans (frz_le hgD), fun b o e => ?_⟩, r4, trivial, hq⟩
  have hb := r.kb b o e
  have hne : b ≠ D0 := fun q => by
    have hb' := r.kb b o e
    rw [q, noneS _ hD] at hb'; cases hb'
  rw [frz_ne hne, hold b o (x2.keep b o hb)]
  exact x2.old b o hb
end
end Mine
namespace Mine
open PySem PySem.W PyProof.Rows PySem.Calls
variable {W : Wld}

/-- the defs of the text -/
def stOf (n : Nat) : Stmt := PySem.Challenge.pw_pm0005_01.main.body.getD n (.Pass ⟨0, 0, 0, 0⟩)
def bdOf (n : Nat) : List Stmt := match stOf n with | .FunctionDef _ _ b _ _ _ _ _ _ _ => b | _ => []
def agOf (n : Nat) : Arguments := match stOf n with | .FunctionDef _ a _ _ _ _ _ _ _ _ => a | _ => ⟨[], [], none, [], [], none, []⟩
def scOf (n : Nat) : Scope := match stOf n with | .FunctionDef _ _ _ _ _ _ s _ _ _ => s | _ => PySem.Challenge.pw_pm0005_01.main.scope

/-- what binding the arguments asks of a def -/
def BindsPos (params : Arguments) (pn : List Str) : Prop := ∀ (name qualname : Str) (body : FuncBody) (scope : Scope) (globals : Addr) (closure : List (Str × Addr)) (kwdefaults doc pyModule : Value) (annotations : Option Addr) (code closureTuple : Value) (builtins : Addr) (vals : List Value), vals.length = pn.length →
  bindArgs ⟨name, qualname, params, body, scope, globals, closure, .none, kwdefaults, doc, pyModule, annotations, code, closureTuple, builtins⟩ ⟨vals, []⟩ = pure (pn.zip vals)
theorem FnAt.binds {name : Str} {params : Arguments} {body : List Stmt} {scope : Scope} {fa : Addr} {o : Obj} {fd : FuncData} (F : FnAt W name params body scope fa o fd) {pn : List Str} (h : BindsPos params pn) :
    ∀ vals : List Value, vals.length = pn.length → bindArgs fd ⟨vals, []⟩ = pure (pn.zip vals) := fun vals hl => by
  obtain ⟨_, _, _, _, h1, _, _, _, _, h2, _⟩ := F
  cases fd
  simp only at h1 h2
  subst h1 h2
  exact h _ _ _ _ _ _ _ _ _ _ _ _ _ vals hl
theorem one_of {vals : List Value} (h : vals.length = 1) : ∃ v, vals = [v] := by
  match vals, h with
  | [v], _ => exact ⟨v, rfl⟩
theorem two_of {vals : List Value} (h : vals.length = 2) : ∃ v w, vals = [v, w] := by
  match vals, h with
  | [v, w], _ => exact ⟨v, w, rfl⟩
theorem three_of {vals : List Value} (h : vals.length = 3) : ∃ v w u, vals = [v, w, u] := by
  match vals, h with
  | [v, w, u], _ => exact ⟨v, w, u, rfl⟩
theorem binds1 : BindsPos (agOf 1) ["iterator"] := by intro _ _ _ _ _ _ _ _ _ _ _ _ _ _ h; obtain ⟨v, rfl⟩ := one_of h; rfl
theorem binds3 : BindsPos (agOf 3) ["heap", "item"] := by intro _ _ _ _ _ _ _ _ _ _ _ _ _ _ h; obtain ⟨v, w, rfl⟩ := two_of h; rfl
theorem binds4 : BindsPos (agOf 4) ["heap"] := by intro _ _ _ _ _ _ _ _ _ _ _ _ _ _ h; obtain ⟨v, rfl⟩ := one_of h; rfl
theorem binds5 : BindsPos (agOf 5) ["heap", "startpos", "pos"] := by intro _ _ _ _ _ _ _ _ _ _ _ _ _ _ h; obtain ⟨v, w, u, rfl⟩ := three_of h; rfl
theorem binds6 : BindsPos (agOf 6) ["heap", "pos"] := by intro _ _ _ _ _ _ _ _ _ _ _ _ _ _ h; obtain ⟨v, w, rfl⟩ := two_of h; rfl
theorem binds8 : BindsPos (agOf 8) ["script", "place"] := by intro _ _ _ _ _ _ _ _ _ _ _ _ _ _ h; obtain ⟨v, w, rfl⟩ := two_of h; rfl
theorem binds9 : BindsPos (agOf 9) ["row", "figures"] := by intro _ _ _ _ _ _ _ _ _ _ _ _ _ _ h; obtain ⟨v, w, rfl⟩ := two_of h; rfl
theorem binds10 : BindsPos (agOf 10) ["rows", "figures", "marks"] := by intro _ _ _ _ _ _ _ _ _ _ _ _ _ _ h; obtain ⟨v, w, u, rfl⟩ := three_of h; rfl
theorem binds11 : BindsPos (agOf 11) ["kinds", "width"] := by intro _ _ _ _ _ _ _ _ _ _ _ _ _ _ h; obtain ⟨v, w, rfl⟩ := two_of h; rfl

/-- a def of the text stands in the world -/
def FnOk (W : Wld) (n : Nat) (name : Str) : Prop := ∃ fa o fd, FnAt W name (agOf n) (bdOf n) (scOf n) fa o fd
structure Prg (W : Wld) : Prop where
  f1 : FnOk W 1 "_parse_varint"
  f3 : FnOk W 3 "heappush"
  f4 : FnOk W 4 "heappop"
  f5 : FnOk W 5 "_siftdown"
  f6 : FnOk W 6 "_siftup"
  f8 : FnOk W 8 "_law_cell"
  f9 : FnOk W 9 "_law_worth"
  f10 : FnOk W 10 "_law_read"
  f11 : FnOk W 11 "_law_hand"
  len : W.mg "len" = none ∧ W.mb "len" = some (.builtin "len")
  next : W.mg "next" = none ∧ W.mb "next" = some (.builtin "next")
  iter : W.mg "iter" = none ∧ W.mb "iter" = some (.builtin "iter")
  min : W.mg "min" = none ∧ W.mb "min" = some (.builtin "min")
  sorted : W.mg "sorted" = none ∧ W.mb "sorted" = some (.builtin "sorted")
  range : W.mg "range" = none ∧ W.mb "range" = some (.type "range")
  list : W.mg "list" = none ∧ W.mb "list" = some (.type "list")
  enumerate : W.mg "enumerate" = none ∧ W.mb "enumerate" = some (.type "enumerate")

/-- push's and pop's walk to the root -/
def sdown (h : List (Int × Int)) (x : Int × Int) (p : Nat) : List (Int × Int) :=
  if p = 0 then h.set p x
  else if pairLt x (h.getD ((p - 1) / 2) (0, 0)) then sdown (h.set p (h.getD ((p - 1) / 2) (0, 0))) x ((p - 1) / 2) else h.set p x
termination_by p
decreasing_by omega

end Mine
namespace Mine
open PySem PySem.W PyProof.Rows PySem.Calls
variable {W : Wld}

theorem getD_map {L : List (Int × Int)} {k : Nat} (h : k < L.length) : (L.map pr)[k]? = some (pr (L.getD k (0, 0))) := by
  rw [List.getElem?_map]
  simp [List.getD, h]

theorem shr1 {V : Vw W} {e : Expr} {n : Nat} {i j : Nat} {p1 p2 p3 p4 : Pos} (hn : 0 < n) (h : Ev V e (.int n)) : Ev V (.BinOp (.BinOp e .Sub (.Constant (.int 1) i p1) p2) .RShift (.Constant (.int 1) j p3) p4) (.int ((n - 1) / 2 : Nat)) := by
  have := Ev_bin (p := p4) (Ev_bin (p := p2) h (Ev_const_int (i := 1) (k := i) (p := p1)) op_sub) (Ev_const_int (i := 1) (k := j) (p := p3)) (op_rshift (by decide))
  have e : ((n : Int) - 1).fdiv (2 ^ (1 : Int).toNat) = ((n - 1) / 2 : Nat) := by
    rw [show ((2 : Int) ^ (1 : Int).toNat) = 2 from rfl, Int.fdiv_eq_ediv_of_nonneg _ (by decide)]
    omega
  rw [e] at this
  exact this

theorem siftdown_ok (P : Prg W) {L : List (Int × Int)} {p : Nat} (hp : p < L.length) (hz : Small L.length) : FnLent W "_siftdown" 1 (.lst (L.map pr)) [.int 0, .int p] .none (.lst ((sdown L (L.getD p (0, 0)) p).map pr)) := by
  have hsz := sizeLine_eq
  unfold Small at hz
  obtain ⟨fa, o, fd, F⟩ := P.f5
  refine FnLent.of F (p0 := "heap") (pn := ["startpos", "pos"]) (F.binds binds5) (fun a ad hak hkind hhas hsc => ?_)
  generalize hρ : (fun x => List.lookup x ((("heap" : Str) :: ["startpos", "pos"]).zip (Slot.own ad (.lst (L.map pr)) :: [PyData.int 0, PyData.int p].map Slot.val))) = ρ0
  have e1 : ρ0 "heap" = some (.own ad (.lst (L.map pr))) := by rw [← hρ]; rfl
  have e2 : ρ0 "startpos" = some (.val (.int 0)) := by rw [← hρ]; rfl
  have e3 : ρ0 "pos" = some (.val (.int p)) := by rw [← hρ]; rfl
  clear hρ
  refine Tr_cons (Tr_assign (EvX_pure (d := pr (L.getD p (0, 0))) (fun B => Ev_item (EvL_own e1 (hhas _ (by first | exact .inl rfl | exact .inr rfl))) (Ev_name e3 (hhas _ (by first | exact .inl rfl | exact .inr rfl))) (by omega) (by omega) (getD_map hp)) ?_) (hhas _ (by first | exact .inl rfl | exact .inr rfl)))
  refine Tr_cons (Tr_while (fun n ρ => ∃ H : List (Int × Int), H.length = L.length ∧ n < H.length ∧ sdown H (L.getD p (0, 0)) n = sdown L (L.getD p (0, 0)) p ∧ ρ "heap" = some (.own ad (.lst (H.map pr))) ∧ ρ "startpos" = some (.val (.int 0)) ∧ ρ "pos" = some (.val (.int n)) ∧ ρ "newitem" = some (.val (pr (L.getD p (0, 0)))))
    (n₀ := p) ⟨L, rfl, hp, rfl, (by repeat (first | exact Rho.set_self | assumption | refine (Rho.set_ne (by decide)).trans ?_)), (by repeat (first | exact Rho.set_self | assumption | refine (Rho.set_ne (by decide)).trans ?_)), (by repeat (first | exact Rho.set_self | assumption | refine (Rho.set_ne (by decide)).trans ?_)), (by repeat (first | exact Rho.set_self | assumption | refine (Rho.set_ne (by decide)).trans ?_))⟩ ?_)
  have fin : ∀ (n : Nat) (H : List (Int × Int)) (ρ : Rho), H.length = L.length → n < H.length → sdown L (L.getD p (0, 0)) p = H.set n (L.getD p (0, 0)) → ρ "heap" = some (.own ad (.lst (H.map pr))) → ρ "pos" = some (.val (.int n)) → ρ "newitem" = some (.val (pr (L.getD p (0, 0)))) →
      Tr a (execs ((bdOf 5).drop 2) a.env) ρ (fun fd ρ' => ρ' "heap" = some (.own ad (.lst ((sdown L (L.getD p (0, 0)) p).map pr))) ∧ match fd with | .ret d' => d' = .none | .nxt => PyData.none = .none | _ => False) := by
    intro n H ρ hl hn hs h1 h2 h3
    refine Tr_cons (Tr_setitem (ad := ad) (ds := H.map pr) (k := n) (d := pr (L.getD p (0, 0))) h1 (hhas _ (by first | exact .inl rfl | exact .inr rfl)) (fun B => Ev_name h3 (hhas _ (by first | exact .inl rfl | exact .inr rfl))) (fun B => Ev_name h2 (hhas _ (by first | exact .inl rfl | exact .inr rfl))) (by omega) (by rw [List.length_map]; omega) (by unfold Small; rw [List.length_map]; omega) ?_)
    refine Tr_nil ⟨?_, rfl⟩
    rw [hs, List.map_set]; exact (by repeat (first | exact Rho.set_self | assumption | refine (Rho.set_ne (by decide)).trans ?_))
  rintro n ρ ⟨H, hl, hn, hs, h1, h2, h3, h4⟩
  refine ⟨decide ((n : Int) > 0), fun B => Ts_cmp (Ev_name h3 (hhas _ (by first | exact .inl rfl | exact .inr rfl))) (Ev_name h2 (hhas _ (by first | exact .inl rfl | exact .inr rfl))) cmp_gt_int, fun hb => ?_, fun hb => ?_⟩
  · have hpos : 0 < n := by have := of_decide_eq_true hb; omega
    have hq : (n - 1) / 2 < H.length := by omega
    refine Tr_cons (Tr_assign (EvX_pure (d := .int ((n - 1) / 2 : Nat)) (fun B => shr1 hpos (Ev_name h3 (hhas _ (by first | exact .inl rfl | exact .inr rfl)))) ?_) (hhas _ (by first | exact .inl rfl | exact .inr rfl)))
    refine Tr_cons (Tr_assign (EvX_pure (d := pr (H.getD ((n - 1) / 2) (0, 0))) (fun B => Ev_item (ds := H.map pr) (k := ((n - 1) / 2 : Nat)) (EvL_own (ad := ad) (by repeat (first | exact Rho.set_self | assumption | refine (Rho.set_ne (by decide)).trans ?_)) (hhas _ (by first | exact .inl rfl | exact .inr rfl))) (Ev_name (by repeat (first | exact Rho.set_self | assumption | refine (Rho.set_ne (by decide)).trans ?_)) (hhas _ (by first | exact .inl rfl | exact .inr rfl))) (by omega) (by omega) (getD_map hq)) ?_) (hhas _ (by first | exact .inl rfl | exact .inr rfl)))
    refine Tr_cons (Tr_if (b := pairLt (L.getD p (0, 0)) (H.getD ((n - 1) / 2) (0, 0))) (fun B => Ts_cmp (Ev_name (by repeat (first | exact Rho.set_self | assumption | refine (Rho.set_ne (by decide)).trans ?_)) (hhas _ (by first | exact .inl rfl | exact .inr rfl))) (Ev_name (by repeat (first | exact Rho.set_self | assumption | refine (Rho.set_ne (by decide)).trans ?_)) (hhas _ (by first | exact .inl rfl | exact .inr rfl))) cmp_lt_pair) (fun hlt => ?_) (fun hlt => ?_))
    · refine Tr_cons (Tr_setitem (ad := ad) (ds := H.map pr) (k := n) (d := pr (H.getD ((n - 1) / 2) (0, 0))) (by repeat (first | exact Rho.set_self | assumption | refine (Rho.set_ne (by decide)).trans ?_)) (hhas _ (by first | exact .inl rfl | exact .inr rfl)) (fun B => Ev_name (by repeat (first | exact Rho.set_self | assumption | refine (Rho.set_ne (by decide)).trans ?_)) (hhas _ (by first | exact .inl rfl | exact .inr rfl))) (fun B => Ev_name (by repeat (first | exact Rho.set_self | assumption | refine (Rho.set_ne (by decide)).trans ?_)) (hhas _ (by first | exact .inl rfl | exact .inr rfl))) (by omega) (by rw [List.length_map]; omega) (by unfold Small; rw [List.length_map]; omega) ?_)
      refine Tr_cons (Tr_assign (EvX_pure (d := .int ((n - 1) / 2 : Nat)) (fun B => Ev_name (by repeat (first | exact Rho.set_self | assumption | refine (Rho.set_ne (by decide)).trans ?_)) (hhas _ (by first | exact .inl rfl | exact .inr rfl))) ?_) (hhas _ (by first | exact .inl rfl | exact .inr rfl)))
      refine Tr_cons (Tr_continue ?_)
      refine ⟨(n - 1) / 2, by omega, H.set n (H.getD ((n - 1) / 2) (0, 0)), by rw [List.length_set, hl], by rw [List.length_set]; omega, ?_, ?_, (by repeat (first | exact Rho.set_self | assumption | refine (Rho.set_ne (by decide)).trans ?_)), (by repeat (first | exact Rho.set_self | assumption | refine (Rho.set_ne (by decide)).trans ?_)), (by repeat (first | exact Rho.set_self | assumption | refine (Rho.set_ne (by decide)).trans ?_))⟩
      · rw [← hs]
        conv => rhs; rw [sdown]
        rw [if_neg (by omega), if_pos hlt]
      · rw [List.map_set]; exact (by repeat (first | exact Rho.set_self | assumption | refine (Rho.set_ne (by decide)).trans ?_))
    · refine Tr_nil ?_
      show Tr _ _ _ _
      refine Tr_cons (Tr_break ?_)
      refine fin n H _ hl hn ?_ (by repeat (first | exact Rho.set_self | assumption | refine (Rho.set_ne (by decide)).trans ?_)) (by repeat (first | exact Rho.set_self | assumption | refine (Rho.set_ne (by decide)).trans ?_)) (by repeat (first | exact Rho.set_self | assumption | refine (Rho.set_ne (by decide)).trans ?_))
      rw [← hs, sdown, if_neg (by omega), if_neg (by rw [hlt]; decide)]
  · have : n = 0 := by have := of_decide_eq_false hb; omega
    refine fin n H _ hl hn ?_ h1 h3 h4
    rw [← hs, sdown, if_pos this]
end Mine
namespace Mine
open PySem PySem.W PyProof.Rows PySem.Calls
variable {W : Wld}

theorem Ev.as {V : Vw W} {e : Expr} {d d' : PyData} (h : Ev V e d) (q : d = d') : Ev V e d' := q ▸ h
theorem mulOk {a b : Int} (m n : Nat) (ha : a.natAbs < 2 ^ m) (hb : b.natAbs < 2 ^ n) (h : m + n ≤ 134217728 := by decide) : IntMulOk a b :=
  PyProof.Rows.mulOk_of_bits (intBits_le_iff.mpr ha) (intBits_le_iff.mpr hb) h

theorem ev_child {V : Vw W} {e : Expr} {n : Nat} {i j : Nat} {p1 p2 p3 p4 : Pos} (hz : Small n) (h : Ev V e (.int n)) : Ev V (.BinOp (.BinOp (.Constant (.int 2) i p1) .Mult e p2) .Add (.Constant (.int 1) j p3) p4) (.int ((2 * n + 1 : Nat) : Int)) := by
  have hsz := sizeLine_eq
  unfold Small at hz
  have := Ev_bin (p := p4) (Ev_bin (p := p2) (Ev_const_int (i := 2) (k := i) (p := p1)) h (op_mul (mulOk 64 64 (by decide) (by omega)))) (Ev_const_int (i := 1) (k := j) (p := p3)) op_add
  have e : (2 : Int) * n + 1 = ((2 * n + 1 : Nat) : Int) := by omega
  rw [e] at this
  exact this

def whileBody : Stmt → List Stmt
  | .While _ b _ _ => b
  | .For _ _ b _ _ => b
  | _ => []
/-- pop's walk to a leaf, then to the root -/
def sup (h : List (Int × Int)) (x : Int × Int) (p : Nat) : List (Int × Int) :=
  if hlt : 2 * p + 1 < h.length then
    if 2 * p + 2 < h.length ∧ pairLt (h.getD (2 * p + 1) (0, 0)) (h.getD (2 * p + 2) (0, 0)) = false then sup (h.set p (h.getD (2 * p + 2) (0, 0))) x (2 * p + 2)
    else sup (h.set p (h.getD (2 * p + 1) (0, 0))) x (2 * p + 1)
  else sdown (h.set p x) x p
termination_by h.length - p
decreasing_by all_goals (rw [List.length_set]; omega)

theorem FnOk.get {n : Nat} {x : Str} (h : FnOk W n x) : ∃ fa o fd, W.mg x = some (.ref fa) ∧ W.H0.get? fa = some o ∧ o.data = .func fd := by
  obtain ⟨fa, o, fd, F⟩ := h
  exact ⟨fa, o, fd, F.glob, F.get, F.data⟩

theorem siftup_ok (P : Prg W) {L : List (Int × Int)} (hp : 0 < L.length) (hz : Small L.length) : FnLent W "_siftup" 2 (.lst (L.map pr)) [.int 0] .none (.lst ((sup L (L.getD 0 (0, 0)) 0).map pr)) := by
  have hsz := sizeLine_eq
  unfold Small at hz
  obtain ⟨fa, o, fd, F⟩ := P.f6
  refine FnLent.of F (p0 := "heap") (pn := ["pos"]) (F.binds binds6) (fun a ad hak hkind hhas hsc => ?_)
  generalize hρ : (fun x => List.lookup x ((("heap" : Str) :: ["pos"]).zip (Slot.own ad (.lst (L.map pr)) :: [PyData.int 0].map Slot.val))) = ρ0
  have e1 : ρ0 "heap" = some (.own ad (.lst (L.map pr))) := by rw [← hρ]; rfl
  have e2 : ρ0 "pos" = some (.val (.int 0)) := by rw [← hρ]; rfl
  clear hρ
  refine Tr_cons (Tr_assign (EvX_pure (fun B => Ev_len ⟨(by first | exact (hkind _).trans rfl | exact hkind _), .inr P.len⟩ (EvL_own e1 (hhas _ (by first | exact .inl rfl | exact .inr rfl))) (by unfold Small; rw [List.length_map]; omega)) ?_) (hhas _ (by first | exact .inl rfl | exact .inr rfl)))
  refine Tr_cons (Tr_assign (EvX_pure (fun B => Ev_name (d := .int 0) (by repeat (first | exact Rho.set_self | assumption | refine (Rho.set_ne (by decide)).trans ?_)) (hhas _ (by first | exact .inl rfl | exact .inr rfl))) ?_) (hhas _ (by first | exact .inl rfl | exact .inr rfl)))
  refine Tr_cons (Tr_assign (EvX_pure (d := pr (L.getD 0 (0, 0))) (fun B => Ev_item (ds := L.map pr) (k := 0) (EvL_own (ad := ad) (by repeat (first | exact Rho.set_self | assumption | refine (Rho.set_ne (by decide)).trans ?_)) (hhas _ (by first | exact .inl rfl | exact .inr rfl))) (Ev_name (by repeat (first | exact Rho.set_self | assumption | refine (Rho.set_ne (by decide)).trans ?_)) (hhas _ (by first | exact .inl rfl | exact .inr rfl))) (by omega) (by omega) (getD_map hp)) ?_) (hhas _ (by first | exact .inl rfl | exact .inr rfl)))
  refine Tr_cons (Tr_assign (EvX_pure (d := .int ((2 * 0 + 1 : Nat) : Int)) (fun B => ev_child (n := 0) (by unfold Small; omega) (Ev_name (by repeat (first | exact Rho.set_self | assumption | refine (Rho.set_ne (by decide)).trans ?_)) (hhas _ (by first | exact .inl rfl | exact .inr rfl)))) ?_) (hhas _ (by first | exact .inl rfl | exact .inr rfl)))
  obtain ⟨J, hJ⟩ : ∃ J : Nat → Rho → Prop, J = fun m ρ => ∃ (n : Nat) (H : List (Int × Int)), H.length = L.length ∧ n < H.length ∧ m = L.length - n ∧ sup H (L.getD 0 (0, 0)) n = sup L (L.getD 0 (0, 0)) 0 ∧ ρ "heap" = some (.own ad (.lst (H.map pr))) ∧ ρ "startpos" = some (.val (.int 0)) ∧
      ρ "pos" = some (.val (.int n)) ∧ ρ "childpos" = some (.val (.int ((2 * n + 1 : Nat) : Int))) ∧ ρ "endpos" = some (.val (.int ((L.map pr).length : Nat))) ∧ ρ "newitem" = some (.val (pr (L.getD 0 (0, 0)))) := ⟨_, rfl⟩
  refine Tr_cons (Tr_while J (n₀ := L.length) (by rw [hJ]; exact ⟨0, L, rfl, hp, rfl, rfl, (by repeat (first | exact Rho.set_self | assumption | refine (Rho.set_ne (by decide)).trans ?_)), (by repeat (first | exact Rho.set_self | assumption | refine (Rho.set_ne (by decide)).trans ?_)), (by repeat (first | exact Rho.set_self | assumption | refine (Rho.set_ne (by decide)).trans ?_)), (by repeat (first | exact Rho.set_self | assumption | refine (Rho.set_ne (by decide)).trans ?_)), (by repeat (first | exact Rho.set_self | assumption | refine (Rho.set_ne (by decide)).trans ?_)), (by repeat (first | exact Rho.set_self | assumption | refine (Rho.set_ne (by decide)).trans ?_))⟩) fun m ρ hj => ?_)
  rw [hJ] at hj
  obtain ⟨n, H, hl, hn, rfl, hs, h1, h2, h3, h4, h5, h6⟩ := hj
  rw [List.length_map, ← hl] at h5
  refine ⟨decide (((2 * n + 1 : Nat) : Int) < (H.length : Int)), fun B => Ts_cmp (Ev_name h4 (hhas _ (by first | exact .inl rfl | exact .inr rfl))) (Ev_name h5 (hhas _ (by first | exact .inl rfl | exact .inr rfl))) cmp_lt_int, fun hb => ?_, fun hb => ?_⟩
  · have hlt : 2 * n + 1 < H.length := by have := of_decide_eq_true hb; omega
    -- the turn's end, for the child that is chosen
    have fin : ∀ (c : Nat) (ρ : Rho), n < c → c < H.length → sup (H.set n (H.getD c (0, 0))) (L.getD 0 (0, 0)) c = sup L (L.getD 0 (0, 0)) 0 → ρ "heap" = some (.own ad (.lst (H.map pr))) → ρ "startpos" = some (.val (.int 0)) → ρ "pos" = some (.val (.int n)) → ρ "childpos" = some (.val (.int (c : Nat))) →
        ρ "endpos" = some (.val (.int (H.length : Nat))) → ρ "newitem" = some (.val (pr (L.getD 0 (0, 0)))) →
        Tr a (execs (whileBody ((bdOf 6).getD 4 (.Pass ⟨0, 0, 0, 0⟩)) |>.drop 2) a.env) ρ (fun fd ρ' => match fd with
          | .nxt | .cnt => ∃ m, m < L.length - n ∧ J m ρ'
          | _ => False) := by
      intro c ρ hnc hc hs h1 h2 h3 h4 h5 h6
      refine Tr_cons (Tr_setitem (ad := ad) (ds := H.map pr) (k := n) (d := pr (H.getD c (0, 0))) h1 (hhas _ (by first | exact .inl rfl | exact .inr rfl)) (fun B => Ev_item (ds := H.map pr) (k := (c : Nat)) (EvL_own (ad := ad) (by repeat (first | exact Rho.set_self | assumption | refine (Rho.set_ne (by decide)).trans ?_)) (hhas _ (by first | exact .inl rfl | exact .inr rfl))) (Ev_name (by repeat (first | exact Rho.set_self | assumption | refine (Rho.set_ne (by decide)).trans ?_)) (hhas _ (by first | exact .inl rfl | exact .inr rfl))) (by omega) (by omega) (getD_map hc)) (fun B => Ev_name (by repeat (first | exact Rho.set_self | assumption | refine (Rho.set_ne (by decide)).trans ?_)) (hhas _ (by first | exact .inl rfl | exact .inr rfl))) (by omega) (by rw [List.length_map]; omega) (by unfold Small; rw [List.length_map]; omega) ?_)
      refine Tr_cons (Tr_assign (EvX_pure (d := .int (c : Nat)) (fun B => Ev_name (by repeat (first | exact Rho.set_self | assumption | refine (Rho.set_ne (by decide)).trans ?_)) (hhas _ (by first | exact .inl rfl | exact .inr rfl))) ?_) (hhas _ (by first | exact .inl rfl | exact .inr rfl)))
      refine Tr_cons (Tr_assign (EvX_pure (d := .int ((2 * c + 1 : Nat) : Int)) (fun B => ev_child (n := c) (by unfold Small; omega) (Ev_name (by repeat (first | exact Rho.set_self | assumption | refine (Rho.set_ne (by decide)).trans ?_)) (hhas _ (by first | exact .inl rfl | exact .inr rfl)))) ?_) (hhas _ (by first | exact .inl rfl | exact .inr rfl)))
      refine Tr_nil ?_
      rw [hJ]
      refine ⟨L.length - c, by omega, c, H.set n (H.getD c (0, 0)), by rw [List.length_set, hl], by rw [List.length_set]; omega, rfl, hs, ?_, (by repeat (first | exact Rho.set_self | assumption | refine (Rho.set_ne (by decide)).trans ?_)), (by repeat (first | exact Rho.set_self | assumption | refine (Rho.set_ne (by decide)).trans ?_)), (by repeat (first | exact Rho.set_self | assumption | refine (Rho.set_ne (by decide)).trans ?_)), ?_, (by repeat (first | exact Rho.set_self | assumption | refine (Rho.set_ne (by decide)).trans ?_))⟩
      · rw [List.map_set]; exact (by repeat (first | exact Rho.set_self | assumption | refine (Rho.set_ne (by decide)).trans ?_))
      · rw [List.length_map, ← hl]; exact (by repeat (first | exact Rho.set_self | assumption | refine (Rho.set_ne (by decide)).trans ?_))
    refine Tr_cons (Tr_assign (EvX_pure (d := .int ((2 * n + 2 : Nat) : Int)) (fun B => (Ev_bin (V := a.vw ρ B) (Ev_name h4 (hhas _ (by first | exact .inl rfl | exact .inr rfl))) Ev_const_int op_add).as rfl) ?_) (hhas _ (by first | exact .inl rfl | exact .inr rfl)))
    refine Tr_cons (Tr_if (b := (decide (((2 * n + 2 : Nat) : Int) < (H.length : Nat)) && !pairLt (H.getD (2 * n + 1) (0, 0)) (H.getD (2 * n + 2) (0, 0)))) (fun B => Ts_and (Ts_cmp (Ev_name (by repeat (first | exact Rho.set_self | assumption | refine (Rho.set_ne (by decide)).trans ?_)) (hhas _ (by first | exact .inl rfl | exact .inr rfl))) (Ev_name (by repeat (first | exact Rho.set_self | assumption | refine (Rho.set_ne (by decide)).trans ?_)) (hhas _ (by first | exact .inl rfl | exact .inr rfl))) cmp_lt_int) (fun hb2 => Ts_not (Ts_cmp
        (Ev_item (ds := H.map pr) (k := (2 * n + 1 : Nat)) (EvL_own (ad := ad) (by repeat (first | exact Rho.set_self | assumption | refine (Rho.set_ne (by decide)).trans ?_)) (hhas _ (by first | exact .inl rfl | exact .inr rfl))) (Ev_name (by repeat (first | exact Rho.set_self | assumption | refine (Rho.set_ne (by decide)).trans ?_)) (hhas _ (by first | exact .inl rfl | exact .inr rfl))) (by omega) (by omega) (getD_map hlt))
        (Ev_item (ds := H.map pr) (k := (2 * n + 2 : Nat)) (EvL_own (ad := ad) (by repeat (first | exact Rho.set_self | assumption | refine (Rho.set_ne (by decide)).trans ?_)) (hhas _ (by first | exact .inl rfl | exact .inr rfl))) (Ev_name (by repeat (first | exact Rho.set_self | assumption | refine (Rho.set_ne (by decide)).trans ?_)) (hhas _ (by first | exact .inl rfl | exact .inr rfl))) (by omega) (by omega) (getD_map (by have := of_decide_eq_true hb2; omega))) cmp_lt_pair))) (fun ht => ?_) (fun ht => ?_))
    · obtain ⟨t1, t2⟩ := (Bool.and_eq_true ..).mp ht
      have t1 := of_decide_eq_true t1
      have t2 : pairLt (H.getD (2 * n + 1) (0, 0)) (H.getD (2 * n + 2) (0, 0)) = false := by simpa using t2
      refine Tr_cons (Tr_assign (EvX_pure (d := .int ((2 * n + 2 : Nat) : Int)) (fun B => Ev_name (by repeat (first | exact Rho.set_self | assumption | refine (Rho.set_ne (by decide)).trans ?_)) (hhas _ (by first | exact .inl rfl | exact .inr rfl))) ?_) (hhas _ (by first | exact .inl rfl | exact .inr rfl)))
      refine Tr_nil ?_
      refine Tr_mono (fin (2 * n + 2) _ (by omega) (by omega) ?_ (by repeat (first | exact Rho.set_self | assumption | refine (Rho.set_ne (by decide)).trans ?_)) (by repeat (first | exact Rho.set_self | assumption | refine (Rho.set_ne (by decide)).trans ?_)) (by repeat (first | exact Rho.set_self | assumption | refine (Rho.set_ne (by decide)).trans ?_)) (by repeat (first | exact Rho.set_self | assumption | refine (Rho.set_ne (by decide)).trans ?_)) (by repeat (first | exact Rho.set_self | assumption | refine (Rho.set_ne (by decide)).trans ?_)) (by repeat (first | exact Rho.set_self | assumption | refine (Rho.set_ne (by decide)).trans ?_))) fun d ρ' q => ?_
      · rw [← hs]; conv => rhs; rw [sup]
        rw [dif_pos hlt, if_pos ⟨by omega, t2⟩]
      · cases d <;> first | exact q | exact q.elim
    · refine Tr_nil ?_
      refine Tr_mono (fin (2 * n + 1) _ (by omega) (by omega) ?_ (by repeat (first | exact Rho.set_self | assumption | refine (Rho.set_ne (by decide)).trans ?_)) (by repeat (first | exact Rho.set_self | assumption | refine (Rho.set_ne (by decide)).trans ?_)) (by repeat (first | exact Rho.set_self | assumption | refine (Rho.set_ne (by decide)).trans ?_)) (by repeat (first | exact Rho.set_self | assumption | refine (Rho.set_ne (by decide)).trans ?_)) (by repeat (first | exact Rho.set_self | assumption | refine (Rho.set_ne (by decide)).trans ?_)) (by repeat (first | exact Rho.set_self | assumption | refine (Rho.set_ne (by decide)).trans ?_))) fun d ρ' q => ?_
      · rw [← hs]; conv => rhs; rw [sup]
        rw [dif_pos hlt, if_neg]
        rintro ⟨t1, t2⟩
        rw [t2, decide_eq_true (by omega)] at ht
        cases ht
      · cases d <;> first | exact q | exact q.elim
  · have hlt : ¬ 2 * n + 1 < H.length := by have := of_decide_eq_false hb; omega
    rw [sup, dif_neg hlt] at hs
    have hg : (H.set n (L.getD 0 (0, 0))).getD n (0, 0) = L.getD 0 (0, 0) := by simp [List.getD, hn]
    refine Tr_cons (Tr_setitem (ad := ad) (ds := H.map pr) (k := n) (d := pr (L.getD 0 (0, 0))) h1 (hhas _ (by first | exact .inl rfl | exact .inr rfl)) (fun B => Ev_name (by repeat (first | exact Rho.set_self | assumption | refine (Rho.set_ne (by decide)).trans ?_)) (hhas _ (by first | exact .inl rfl | exact .inr rfl))) (fun B => Ev_name (by repeat (first | exact Rho.set_self | assumption | refine (Rho.set_ne (by decide)).trans ?_)) (hhas _ (by first | exact .inl rfl | exact .inr rfl))) (by omega) (by rw [List.length_map]; omega) (by unfold Small; rw [List.length_map]; omega) ?_)
    obtain ⟨fa5, o5, fd5, q1, q2, q3⟩ := P.f5.get
    have C := siftdown_ok P (L := H.set n (L.getD 0 (0, 0))) (p := n) (by rw [List.length_set]; exact hn) (by unfold Small; rw [List.length_set]; omega)
    rw [hg, hs] at C
    refine Tr_cons (Tr_expr (EvX_fn (ad := ad) (m := .lst ((H.set n (L.getD 0 (0, 0))).map pr)) (by first | exact (hkind _).trans rfl | exact hkind _) q1 q2 q3 (by rw [List.map_set]; exact Rho.set_self) (hhas _ (by first | exact .inl rfl | exact .inr rfl)) C (by omega) (fun B => EvAll_cons (Ev_name (by repeat (first | exact Rho.set_self | assumption | refine (Rho.set_ne (by decide)).trans ?_)) (hhas _ (by first | exact .inl rfl | exact .inr rfl))) (EvAll_cons (Ev_name (by repeat (first | exact Rho.set_self | assumption | refine (Rho.set_ne (by decide)).trans ?_)) (hhas _ (by first | exact .inl rfl | exact .inr rfl))) EvAll_nil)) ?_) not_interactive)
    exact Tr_nil ⟨Rho.set_self, rfl⟩

end Mine
namespace Mine
open PySem PySem.W PyProof.Rows PySem.Calls
variable {W : Wld}

def push (L : List (Int × Int)) (x : Int × Int) : List (Int × Int) := sdown (L ++ [x]) x L.length
theorem heappush_ok (P : Prg W) {L : List (Int × Int)} {x : Int × Int} (hz : Small (L.length + 1)) : FnLent W "heappush" 2 (.lst (L.map pr)) [pr x] .none (.lst ((push L x).map pr)) := by
  have hsz := sizeLine_eq
  unfold Small at hz
  obtain ⟨fa, o, fd, F⟩ := P.f3
  refine FnLent.of F (p0 := "heap") (pn := ["item"]) (F.binds binds3) (fun a ad hak hkind hhas hsc => ?_)
  generalize hρ : (fun y => List.lookup y ((("heap" : Str) :: ["item"]).zip (Slot.own ad (.lst (L.map pr)) :: [pr x].map Slot.val))) = ρ0
  have e1 : ρ0 "heap" = some (.own ad (.lst (L.map pr))) := by rw [← hρ]; rfl
  have e2 : ρ0 "item" = some (.val (pr x)) := by rw [← hρ]; rfl
  clear hρ
  refine Tr_cons (Tr_expr (EvX_append (ad := ad) (ds0 := L.map pr) e1 (hhas _ (by first | exact .inl rfl | exact .inr rfl)) (EvX_pure (d := pr x) (fun B => Ev_name e2 (hhas _ (by first | exact .inl rfl | exact .inr rfl))) ⟨L.map pr, e1, by unfold Small; rw [List.length_map]; omega, ?_⟩)) not_interactive)
  obtain ⟨fa5, o5, fd5, q1, q2, q3⟩ := P.f5.get
  have hg : (L ++ [x]).getD L.length (0, 0) = x := by simp [List.getD]
  have C := siftdown_ok P (L := L ++ [x]) (p := L.length) (by simp) (by unfold Small; simp; omega)
  rw [hg] at C
  refine Tr_cons (Tr_expr (EvX_fn (ad := ad) (m := .lst ((L ++ [x]).map pr)) (k := 1) (by first | exact (hkind _).trans rfl | exact hkind _) q1 q2 q3 (by rw [List.map_append]; exact Rho.set_self) (hhas _ (by first | exact .inl rfl | exact .inr rfl)) C (by omega) (fun B => EvAll_cons Ev_const_int (EvAll_cons
    ((Ev_bin (Ev_len (ds := (L ++ [x]).map pr) ⟨(by first | exact (hkind _).trans rfl | exact hkind _), .inr P.len⟩ (EvL_own (ad := ad) (by rw [List.map_append]; exact Rho.set_self) (hhas _ (by first | exact .inl rfl | exact .inr rfl))) (by unfold Small; simp; omega)) Ev_const_int op_sub).as (by simp)) EvAll_nil)) ?_) not_interactive)
  exact Tr_nil ⟨Rho.set_self, rfl⟩

def popV (L : List (Int × Int)) (x : Int × Int) : Int × Int := match L with | [] => x | y :: _ => y
def popH (L : List (Int × Int)) (x : Int × Int) : List (Int × Int) := match L with | [] => [] | _ :: r => sup (x :: r) x 0
theorem heappop_ok (P : Prg W) {L : List (Int × Int)} {x : Int × Int} (hz : Small (L.length + 1)) : FnLent W "heappop" 3 (.lst ((L ++ [x]).map pr)) [] (pr (popV L x)) (.lst ((popH L x).map pr)) := by
  have hsz := sizeLine_eq
  unfold Small at hz
  obtain ⟨fa, o, fd, F⟩ := P.f4
  refine FnLent.of F (p0 := "heap") (pn := []) (F.binds binds4) (fun a ad hak hkind hhas hsc => ?_)
  generalize hρ : (fun y => List.lookup y ((("heap" : Str) :: []).zip (Slot.own ad (.lst ((L ++ [x]).map pr)) :: ([] : List PyData).map Slot.val))) = ρ0
  have e1 : ρ0 "heap" = some (.own ad (.lst (L.map pr ++ [pr x]))) := by rw [← hρ]; show some _ = _; rw [List.map_append]; rfl
  clear hρ
  refine Tr_cons (Tr_assign (EvX_pop (ad := ad) (ds := L.map pr) (d := pr x) e1 (hhas _ (by first | exact .inl rfl | exact .inr rfl)) (by unfold Small; rw [List.length_map]; omega) ?_) (hhas _ (by first | exact .inl rfl | exact .inr rfl)))
  refine Tr_cons (Tr_if (b := !(L.map pr).isEmpty) (fun B => Ts_list (ds := L.map pr) (EvL_own (ad := ad) (by repeat (first | exact Rho.set_self | assumption | refine (Rho.set_ne (by decide)).trans ?_)) (hhas _ (by first | exact .inl rfl | exact .inr rfl))) (by unfold Small; rw [List.length_map]; omega)) (fun hb => ?_) (fun hb => ?_))
  · cases L with
    | nil => cases hb
    | cons y r =>
      rw [List.length_cons] at hz
      refine Tr_cons (Tr_assign (EvX_pure (d := pr y) (fun B => Ev_item (ds := (y :: r).map pr) (k := 0) (EvL_own (ad := ad) (by repeat (first | exact Rho.set_self | assumption | refine (Rho.set_ne (by decide)).trans ?_)) (hhas _ (by first | exact .inl rfl | exact .inr rfl))) Ev_const_int (by omega) (by omega) rfl) ?_) (hhas _ (by first | exact .inl rfl | exact .inr rfl)))
      refine Tr_cons (Tr_setitem (ad := ad) (ds := (y :: r).map pr) (k := 0) (d := pr x) (by repeat (first | exact Rho.set_self | assumption | refine (Rho.set_ne (by decide)).trans ?_)) (hhas _ (by first | exact .inl rfl | exact .inr rfl)) (fun B => Ev_name (by repeat (first | exact Rho.set_self | assumption | refine (Rho.set_ne (by decide)).trans ?_)) (hhas _ (by first | exact .inl rfl | exact .inr rfl))) (fun B => Ev_const_int) (by omega) (by rw [List.length_map, List.length_cons]; omega) (by unfold Small; rw [List.length_map, List.length_cons]; omega) ?_)
      obtain ⟨fa6, o6, fd6, q1, q2, q3⟩ := P.f6.get
      have C := siftup_ok P (L := x :: r) (by simp) (by unfold Small; simp; omega)
      refine Tr_cons (Tr_expr (EvX_fn (ad := ad) (m := .lst ((x :: r).map pr)) (k := 2) (by first | exact (hkind _).trans rfl | exact hkind _) q1 q2 q3 Rho.set_self (hhas _ (by first | exact .inl rfl | exact .inr rfl)) C (by omega) (fun B => EvAll_cons Ev_const_int EvAll_nil) ?_) not_interactive)
      refine Tr_cons (Tr_return (EvX_pure (d := pr y) (fun B => Ev_name (by repeat (first | exact Rho.set_self | assumption | refine (Rho.set_ne (by decide)).trans ?_)) (hhas _ (by first | exact .inl rfl | exact .inr rfl))) ⟨Rho.set_self, rfl⟩))
  · cases L with
    | cons y r => cases hb
    | nil =>
      refine Tr_nil ?_
      show Tr _ _ _ _
      refine Tr_cons (Tr_return (EvX_pure (d := pr x) (fun B => Ev_name (by repeat (first | exact Rho.set_self | assumption | refine (Rho.set_ne (by decide)).trans ?_)) (hhas _ (by first | exact .inl rfl | exact .inr rfl))) ⟨(by repeat (first | exact Rho.set_self | assumption | refine (Rho.set_ne (by decide)).trans ?_)), rfl⟩))

/-- the script's cell -/
def cell (ns : List Int) (k : Nat) : Int := ns.getD k 0
theorem law_cell_ok (P : Prg W) {ns : List Int} {k : Nat} (hz : ns.length ≤ 63) (hk : k < 2 ^ 32) : FnPure W "_law_cell" 1 [.list (ns.map .int), .int k] (.int (cell ns k)) := by
  have hsz := sizeLine_eq
  obtain ⟨fa, o, fd, F⟩ := P.f8
  refine FnPure.of F (pn := ["script", "place"]) (F.binds binds8) (fun a hak hkind hhas hsc => ?_)
  generalize hρ : (fun y => List.lookup y ((["script", "place"] : List Str).zip ([PyData.list (ns.map .int), .int k].map Slot.val))) = ρ0
  have e1 : ρ0 "script" = some (.val (.list (ns.map .int))) := by rw [← hρ]; rfl
  have e2 : ρ0 "place" = some (.val (.int k)) := by rw [← hρ]; rfl
  clear hρ
  refine Tr_cons (Tr_if (fun B => Ts_cmp (Ev_name e2 (hhas _ (by first | exact .inl rfl | exact .inr rfl))) (Ev_len ⟨(by first | exact (hkind _).trans rfl | exact hkind _), .inr P.len⟩ (Ev_name e1 (hhas _ (by first | exact .inl rfl | exact .inr rfl))).evL (by unfold Small; rw [List.length_map]; omega)) cmp_lt_int) (fun hb => ?_) (fun hb => ?_))
  · have hlt := of_decide_eq_true hb
    rw [List.length_map] at hlt
    have hlt : k < ns.length := by omega
    refine Tr_cons (Tr_return (EvX_pure (d := .int (cell ns k)) (fun B => Ev_item (k := k) (Ev_name e1 (hhas _ (by first | exact .inl rfl | exact .inr rfl))).evL (Ev_name e2 (hhas _ (by first | exact .inl rfl | exact .inr rfl))) (by omega) (by omega) ?_) rfl))
    rw [Int.toNat_natCast, List.getElem?_map]
    simp [cell, List.getD, hlt]
  · have hlt := of_decide_eq_false hb
    rw [List.length_map] at hlt
    refine Tr_nil ?_
    refine Tr_cons (Tr_return (EvX_pure (d := .int 0) (fun B => Ev_const_int) ?_))
    simp [cell, List.getD, show ns.length ≤ k by omega]

/-- a word's worth -/
def worth (fg : List Int) (row : List Nat) : Int := row.foldl (fun n k => n * 64 + fg.getD k 0) 0
theorem worth_snoc {fg : List Int} {row : List Nat} {k : Nat} : worth fg (row ++ [k]) = worth fg row * 64 + fg.getD k 0 := by simp [worth]
theorem worth_lt {fg : List Int} (hf : ∀ k, 0 ≤ fg.getD k 0 ∧ fg.getD k 0 < 64) (row : List Nat) : 0 ≤ worth fg row ∧ worth fg row < 64 ^ row.length := by
  have : ∀ (l : List Nat), 0 ≤ worth fg l.reverse ∧ worth fg l.reverse < 64 ^ l.reverse.length := by
    intro l
    induction l with
    | nil => exact ⟨by simp [worth], by simp [worth]⟩
    | cons k r ih =>
      rw [List.reverse_cons, worth_snoc, List.length_append, List.length_singleton, Int.pow_succ]
      have := hf k
      omega
  simpa using this row.reverse
set_option exponentiation.threshold 1000 in
theorem worth_abs {x y : Int} (hw : 0 ≤ x ∧ x < y) (hp : y ≤ 64 ^ 64) : x.natAbs < 2 ^ 384 := by
  have e : (64 : Int) ^ 64 = ((2 ^ 384 : Nat) : Int) := by decide
  rw [e] at hp
  omega
abbrev rowD (row : List Nat) : PyData := .list (row.map fun k => .int (k : Nat))
theorem law_worth_ok (P : Prg W) {fg : List Int} {row : List Nat} (hf : ∀ k, 0 ≤ fg.getD k 0 ∧ fg.getD k 0 < 64) (hr : ∀ k ∈ row, k < fg.length) (hfl : fg.length ≤ 64) (hz : row.length ≤ 64) : FnPure W "_law_worth" 1 [rowD row, .list (fg.map .int)] (.int (worth fg row)) := by
  have hsz := sizeLine_eq
  obtain ⟨fa, o, fd, F⟩ := P.f9
  refine FnPure.of F (pn := ["row", "figures"]) (F.binds binds9) (fun a hak hkind hhas hsc => ?_)
  generalize hρ : (fun y => List.lookup y ((["row", "figures"] : List Str).zip ([rowD row, .list (fg.map .int)].map Slot.val))) = ρ0
  have e1 : ρ0 "row" = some (.val (rowD row)) := by rw [← hρ]; rfl
  have e2 : ρ0 "figures" = some (.val (.list (fg.map .int))) := by rw [← hρ]; rfl
  clear hρ
  refine Tr_cons (Tr_assign (EvX_pure (d := .int 0) (fun B => Ev_const_int) ?_) (hhas _ (by first | exact .inl rfl | exact .inr rfl)))
  refine Tr_cons (Tr_for (fun B => Src_list (Ev_name (by repeat (first | exact Rho.set_self | assumption | refine (Rho.set_ne (by decide)).trans ?_)) (hhas _ (by first | exact .inl rfl | exact .inr rfl)))) (hhas _ (by first | exact .inl rfl | exact .inr rfl)) (fun i ρ => ρ "figures" = some (.val (.list (fg.map .int))) ∧ ρ "number" = some (.val (.int (worth fg (row.take i))))) ⟨(by repeat (first | exact Rho.set_self | assumption | refine (Rho.set_ne (by decide)).trans ?_)), (by repeat (first | exact Rho.set_self | assumption | refine (Rho.set_ne (by decide)).trans ?_))⟩ (fun i ρ hi ⟨h1, h2⟩ => ?_) fun ρ hj => ?_)
  · rw [List.length_map] at hi
    have hd : (row.map fun k => PyData.int (k : Nat)).getD i .none = .int (row[i] : Nat) := by simp [List.getD, hi]
    have hk := hr _ (List.getElem_mem hi)
    have ht : row.take (i + 1) = row.take i ++ [row[i]] := by rw [List.take_add_one, List.getElem?_eq_getElem hi]; rfl
    have hw := worth_lt hf (row.take i)
    have hp : (64 : Int) ^ (row.take i).length ≤ 64 ^ 64 := by
      have : (row.take i).length ≤ 64 := by rw [List.length_take]; omega
      have := Nat.pow_le_pow_right (n := 64) (by decide) this
      exact_mod_cast this
    rw [hd]
    refine Tr_cons (Tr_assign (EvX_pure (d := .int (worth fg (row.take (i + 1)))) (fun B => (Ev_bin (Ev_bin (Ev_name (d := .int (worth fg (row.take i))) (by repeat (first | exact Rho.set_self | assumption | refine (Rho.set_ne (by decide)).trans ?_)) (hhas _ (by first | exact .inl rfl | exact .inr rfl))) Ev_const_int (op_mul (mulOk 384 7 ?_ (by decide))))
      (Ev_item (k := (row[i] : Nat)) (d := .int (fg.getD row[i] 0)) (Ev_name (d := .list (fg.map .int)) (by repeat (first | exact Rho.set_self | assumption | refine (Rho.set_ne (by decide)).trans ?_)) (hhas _ (by first | exact .inl rfl | exact .inr rfl))).evL (Ev_name (by repeat (first | exact Rho.set_self | assumption | refine (Rho.set_ne (by decide)).trans ?_)) (hhas _ (by first | exact .inl rfl | exact .inr rfl))) (by omega) (by omega) ?_) op_add).as ?_) ?_) (hhas _ (by first | exact .inl rfl | exact .inr rfl)))
    · exact worth_abs hw hp
    · rw [Int.toNat_natCast, List.getElem?_map]
      simp [List.getD, hk]
    · rw [ht, worth_snoc]
    · exact Tr_nil ⟨(by repeat (first | exact Rho.set_self | assumption | refine (Rho.set_ne (by decide)).trans ?_)), (by repeat (first | exact Rho.set_self | assumption | refine (Rho.set_ne (by decide)).trans ?_))⟩
  · obtain ⟨h1, h2⟩ := hj
    rw [List.length_map, List.take_length] at h2
    exact Tr_cons (Tr_return (EvX_pure (fun B => Ev_name h2 (hhas _ (by first | exact .inl rfl | exact .inr rfl))) rfl))
end Mine
namespace Mine
open PySem PySem.W PyProof.Rows PySem.Calls
variable {W : Wld}

theorem Drw.ofEnum {A : Around} (hh : A.handled = none) {g2 : Frz} {e it l : Addr} {vs : List Value} {ep : Nat} {ds : List PyData} {sc : Scope} {env : Env} {cl : List (Str × Addr)} {C : Addr} {x y : Str} {k0 : Nat} {px py pt : Pos} (hl : g2 l = some (lstO vs ep)) (hds : DenAll g2 vs ds)
    (hne : e ≠ it) (hle : l ≠ e) (hli : l ≠ it) (hx : sc.names.lookup x = some .local) (hy : sc.names.lookup y = some .local) (hxy : x ≠ y) (hk : sc.kind = .function) :
    Drw W A (compEnvC sc cl C env) (.Tuple [.Name x px, .Name y py] k0 pt) (.ref e) g2 [e, it, l] [e, it] ds.length (fun i z => if z = y then some (ds.getD i .none) else if z = x then some (.int i) else none)
      (fun i h => (∃ old, IsEnum h e it i old) ∧ h.IsListIter it l i ∧ h.IsList l vs.toArray) where
  sub := fun b hb => by
    rcases List.mem_cons.mp hb with rfl | hb
    · exact .inl (.head _)
    · rcases List.mem_cons.mp hb with rfl | hb
      · exact .inl (.tail _ (.head _))
      · rw [List.mem_singleton.mp hb]; exact .inr ⟨_, hl⟩
  frame := fun i h h' ⟨⟨old, he⟩, ⟨o, ho, r⟩, ⟨o2, ho2, r2⟩⟩ hk => ⟨⟨old, hk _ (.head _) _ he⟩, ⟨o, hk _ (.tail _ (.head _)) _ ho, r⟩, ⟨o2, hk _ (.tail _ (.tail _ (.head _))) _ ho2, r2⟩⟩
  live := fun i h ⟨⟨old, he⟩, ⟨o, ho, r⟩, _⟩ b hb => by
    rcases List.mem_cons.mp hb with rfl | hb
    · exact ⟨_, he⟩
    · rw [List.mem_singleton.mp hb]; exact ⟨_, ho⟩
  next := fun i s g m hi ⟨⟨old, he⟩, hit, hls⟩ hn hz hle2 hoff hgC hCf => by
    have hlen := hds.length
    have hCe : C ≠ e := fun q => hCf (by rw [show (compEnvC sc cl C env).locals = C from rfl, q]; exact .head _)
    have hCi : C ≠ it := fun q => hCf (by rw [show (compEnvC sc cl C env).locals = C from rfl, q]; exact .tail _ (.head _))
    have hCl : C ≠ l := fun q => hCf (by rw [show (compEnvC sc cl C env).locals = C from rfl, q]; exact .tail _ (.tail _ (.head _)))
    have hn : s.heap.Ns C m := hn
    obtain ⟨v, hv, hdv⟩ := hds.get (k := i) (d := ds.getD i .none) (by simp [List.getD, hi])
    have hp : ((compEnvC sc cl C env).scope.kind == .class || ((compEnvC sc cl C env).scope.kind == .module && (compEnvC sc cl C env).locals != (compEnvC sc cl C env).globals)) = false := by show (sc.kind == .class || (sc.kind == .module && _)) = false; rw [hk]; rfl
    have heH : e < s.heap.objs.size := Heap.lt_size he
    have hCH : C < s.heap.objs.size := hn.lt
    obtain ⟨oi, hoi, ri⟩ := id hit
    obtain ⟨ol, hol, rl⟩ := id hls
    have hiH : it < s.heap.objs.size := Heap.lt_size hoi
    have hlH : l < s.heap.objs.size := Heap.lt_size hol
    refine wpAny_pyNext_enum_item he hit hls (x := v) (by simpa using hv) hne fun h₁ heo hit₁ ht₁ hz₁ hk₁ => ?_
    refine wpAny_letOwnedTupleGo_enum heo fun h₂ he₂ hs₂ => ?_
    replace hs₂ : Heap.SameBut e h₁ h₂ := hs₂
    have ht₂ : h₂.IsTuple s.heap.objs.size #[.int i s.toks, v] := ⟨_, (hs₂.2 _ (Nat.ne_of_gt heH)).trans ht₁, rfl, _, rfl⟩
    have hz₂ : h₂.objs.size = s.heap.objs.size + 1 := hs₂.1.trans hz₁
    refine wpAny_assign_Tuple hh ht₂ rfl rfl fun h₃ hx₃ => ?_
    replace hx₃ : Heap.ExtBut h₂.objs.size h₂ h₃ := hx₃
    have old₃ : ∀ b o, b < s.heap.objs.size → h₂.get? b = some o → h₃.get? b = some o := fun b o hb x => hx₃ b o (by rw [hz₂]; exact Nat.ne_of_lt (Nat.lt_succ_of_lt hb)) x
    have hn₃ : h₃.Ns C m := by
      have h1 : h₁.Ns C m := hn.at' fun o x => hk₁ _ o hCe hCi x
      have h2 : h₂.Ns C m := h1.sameBut hs₂ hCe
      exact h2.at' fun o x => old₃ _ o hCH x
    show wpAny _ A (do holding [v] (assign (.Name x px) (compEnvC sc cl C env) (.int i s.toks)); do holding [] (assign (.Name y py) (compEnvC sc cl C env) v); pure ()) _ _ _
    refine wpAny_bind (wpAny_holding (wpAny_assign_Name (wpAny_storeName_local (env := compEnvC sc cl C env) (lookup_relabel_local hx) hn₃ (fun h₄ hn₄ hs₄ => ?_) hp)))
    replace hs₄ : Heap.SameBut C h₃ h₄ := hs₄
    refine wpAny_bind (wpAny_holding (wpAny_assign_Name (wpAny_storeName_local (env := compEnvC sc cl C env) (lookup_relabel_local hy) hn₄ (fun h₅ hn₅ hs₅ => wpAny_pure ?_) hp)))
    replace hs₅ : Heap.SameBut C h₄ h₅ := hs₅
    have up : ∀ b o, b ≠ C → b < s.heap.objs.size → h₂.get? b = some o → h₅.get? b = some o := fun b o hbL hb x =>
      hs₅.extBut b o hbL (hs₄.extBut b o hbL (old₃ b o hb x))
    have keep : ∀ b o, b ≠ e → b ≠ it → b ≠ C → s.heap.get? b = some o → h₅.get? b = some o := fun b o h1 h2 h3 x =>
      up b o h3 (Heap.lt_size x) ((hs₂.2 b h1).trans (hk₁ b o h1 h2 x))
    refine ⟨⟨_, _, rfl⟩, ⟨⟨v, ?_⟩, ?_, ⟨ol, keep l ol hle hli (Ne.symm hCl) hol, rl⟩⟩, fun b o hb hbC x => keep b o (fun q => hb (by rw [q]; exact .head _)) (fun q => hb (by rw [q]; exact .tail _ (.head _))) hbC x, _, hn₅, fun z d hz => ?_⟩
    · have : ((i + 1 : Nat) : Int) = (i : Int) + 1 := by push_cast; rfl
      rw [this]; exact up e _ (Ne.symm hCe) heH he₂
    · obtain ⟨o', ho', r'⟩ := hit₁
      exact ⟨o', up it o' (Ne.symm hCi) hiH ((hs₂.2 _ (Ne.symm hne)).trans ho'), r'⟩
    · by_cases q : z = y
      · subst q
        simp only [if_true] at hz ⊢
        cases hz
        exact ⟨v, rfl, hdv.mono hle2⟩
      · simp only [q, if_false] at hz ⊢
        by_cases q2 : z = x
        · subst q2
          simp only [if_true] at hz ⊢
          cases hz
          exact ⟨_, rfl, .int _ _⟩
        · simp [q2] at hz
  done := fun s ⟨⟨old, he⟩, hit, hls⟩ => by
    refine wpAny_pyNext_enum_end hh he hit hls (by simp [hds.length]) fun h₁ he₁ => ?_
    exact ⟨rfl, ⟨_, _, rfl⟩, fun b o hb x => he₁ b o (fun q => hb (by rw [q]; exact .tail _ (.head _))) x⟩

section
variable {a : Act W} {ρ : Rho} {B : Frz} {sc : Scope} {Q : FlowD → Rho → Prop}
theorem DSrc.enum {x y f : Str} {k0 : Nat} {px py pt np p : Pos} {e : Expr} {ds : List PyData} (G : GlobIs (a.vw ρ B) f (.type "enumerate")) (h : Ev (a.vw ρ B) e (.list ds)) (hx : sc.names.lookup x = some .local) (hy : sc.names.lookup y = some .local) (hxy : x ≠ y) (hk : sc.kind = .function)
    (hd : (f == ("__debug__" : Str)) = false := by decide) (hs : starEach [e] a.env = (false, eval e a.env) :: starEach [] a.env := by rfl) :
    DSrc a ρ B sc (.Tuple [.Name x px, .Name y py] k0 pt) (.Call (.Name f np) [e] [] p) ds.length (fun i z => if z = y then some (ds.getD i .none) else if z = x then some (.int i) else none) := fun g s r =>
  Ev_call (V := a.vw ρ B) (P := fun g s xv s1 => wpAny (model W.prog W.w) a.A (pyIter xv) (fun it s2 => ∃ g2 I fp pv St, it = .ref I ∧ Ext g s g2 s2 ∧ (∀ C, Drw W a.A (compEnvC sc (clOf sc a.env) C a.env) (.Tuple [.Name x px, .Name y py] k0 pt) (.ref I) g2 fp pv ds.length (fun i z => if z = y then some (ds.getD i .none) else if z = x then some (.int i) else none) St) ∧ St 0 s2.heap ∧ (∀ z ∈ pv, g2 z = none) ∧ (∀ b ∈ fp, b < s2.heap.objs.size) ∧ (∀ z ∈ pv, s.heap.get? z = none) ∧
    (∀ (s : Shared) (Q : Value → Shared → Prop) (E : Value → Shared → Prop), St 0 s.heap → Q (.ref I) s → wpAny (model W.prog W.w) a.A (pyIter (.ref I)) Q E s)) noE s1) G (fun g s i => by
    refine PyProof.Rows.callWith_type1 (args_cons (wpAny_mono (h g s i) (fun v s1 ⟨g1, x1, hv⟩ => ?_) fun _ _ e => e) hs) hs
    obtain ⟨l, vs, n, rfl, hl, hds⟩ := hv.list_inv
    have hls := isL_of (x1.fz _ _ hl)
    have hlt := Heap.lt_size (x1.fz _ _ hl)
    refine args_nil (call_enumerate_list hls fun h' he hit hz hk' => ?_)
    have X : Ext g s g1 { s1 with heap := h', toks := s1.toks } := x1.trans (Ext.heap x1.fz hk')
    have none1 : ∀ z, s1.heap.objs.size ≤ z → s1.heap.get? z = none := fun z hz => by
      cases e : s1.heap.get? z with
      | none => rfl
      | some o' => exact absurd (Heap.lt_size e) (Nat.not_lt.mpr hz)
    have gn : ∀ z, s1.heap.objs.size ≤ z → g1 z = none := fun z hz => by
      cases e : g1 z with
      | none => rfl
      | some o' => have := x1.fz z o' e; rw [none1 z hz] at this; cases this
    have sn : ∀ z, s1.heap.objs.size ≤ z → s.heap.get? z = none := fun z hz => by
      cases e : s.heap.get? z with
      | none => rfl
      | some o' => have := x1.keep z o' e; rw [none1 z hz] at this; cases this
    refine wpAny_pyIter_enum he ?_
    refine ⟨g1, s1.heap.objs.size + 1, _, _, _, rfl, X, fun C => Drw.ofEnum a.hnd hl hds (Nat.succ_ne_self _) (fun q => ?_) (fun q => ?_) hx hy hxy hk, ⟨⟨.none, he⟩, hit, (let ⟨o, ho, r⟩ := hls; ⟨o, hk' _ _ ho, r⟩)⟩, ?_, ?_, ?_, fun s Q E ⟨⟨old, he⟩, _⟩ hq => wpAny_pyIter_enum he hq⟩
    · rw [q] at hlt; exact absurd hlt (Nat.not_lt.mpr (Nat.le_succ _))
    · rw [q] at hlt; exact absurd hlt (Nat.lt_irrefl _)
    · intro z hz'
      rcases List.mem_cons.mp hz' with rfl | hz'
      · exact gn _ (Nat.le_succ _)
      · rw [List.mem_singleton.mp hz']; exact gn _ (Nat.le_refl _)
    · intro b hb
      show b < h'.objs.size
      rw [hz]
      rcases List.mem_cons.mp hb with rfl | hb
      · exact Nat.lt_succ_self _
      · rcases List.mem_cons.mp hb with rfl | hb
        · exact Nat.lt_succ_of_lt (Nat.lt_succ_self _)
        · rw [List.mem_singleton.mp hb]; exact Nat.lt_succ_of_lt (Nat.lt_succ_of_lt hlt)
    · intro z hz'
      rcases List.mem_cons.mp hz' with rfl | hz'
      · exact sn _ (Nat.le_succ _)
      · rw [List.mem_singleton.mp hz']; exact sn _ (Nat.le_refl _)) hd g s r
end
end Mine
namespace Mine
open PySem PySem.W PyProof.Rows PySem.Calls
variable {W : Wld}

theorem Rho.set_set {ρ : Rho} {y : Str} {s1 s2 : Slot} : (ρ.set y s1).set y s2 = ρ.set y s2 := by
  funext z
  by_cases q : z = y
  · subst q; rw [Rho.set_self, Rho.set_self]
  · rw [Rho.set_ne q, Rho.set_ne q, Rho.set_ne q]
theorem Off.sub {a : Act W} {ρ : Rho} {B : Frz} {pv pw : List Addr} (O : Off a ρ B pv) (h : ∀ z ∈ pw, z ∈ pv) : Off a ρ B pw := ⟨fun z hz => O.b z (h z hz), fun hz => O.l (h _ hz), fun x c hc hz => O.c x c hc (h _ hz), fun x ad m hx hz => O.o x ad m hx (h _ hz)⟩

section
variable {a : Act W} {ρ : Rho} {B : Frz} {sc : Scope}
/-- the state behind a call that was lent one object -/
theorem Rel.lent {g1 g2 : Frz} {s1 s2 : Shared} {y : Str} {ad : Addr} {m m' : Mut} (r1 : Rel a ρ B g1 s1) (hy : ρ y = some (.own ad m)) (x2 : ExtB (fun b => if b = ad then none else s1.heap.get? b) g1 s1 g2 s2) (hM : MutIs g2 s2.heap ad m') (hgn : g2 ad = none) :
    Rel a (ρ.set y (.own ad m')) B g2 s2 := by
  obtain ⟨h1, h2, h3, h4⟩ := r1.own y ad m hy
  have keep : ∀ b o, b ≠ ad → s1.heap.get? b = some o → s2.heap.get? b = some o := fun b o hb e => x2.keep b o (by simp only [hb, if_false]; exact e)
  obtain ⟨V, vv, hv⟩ := r1.vars
  refine ⟨x2.fz, fun b o e => keep b o (fun q => by subst q; rw [h2] at e; cases e) (r1.kb b o e), r1.top, ?_, r1.bL, fun z c hc => ⟨?_, (r1.gC z c hc).2⟩, fun z ad' m1 hz => ?_, fun z z' ad' m1 m2 hz hz' => ?_, V, ⟨?_, fun z c hc => ?_⟩, fun z sl hz => ?_⟩
  · obtain ⟨oL, hL⟩ := r1.liveL; rw [x2.old _ _ hL]; exact r1.gL
  · obtain ⟨oL, hL⟩ := r1.liveC hc; rw [x2.old _ _ hL]; exact (r1.gC z c hc).1
  · by_cases q : z = y
    · subst q; rw [Rho.set_self] at hz; cases hz; exact ⟨hgn, h2, h3, h4⟩
    · rw [Rho.set_ne q] at hz
      obtain ⟨oL, hL⟩ := (r1.mutOf hz).live
      rw [x2.old _ _ hL]; exact r1.own z ad' m1 hz
  · by_cases q : z = y
    · subst q
      by_cases q' : z' = z
      · exact q'.symm
      · rw [Rho.set_self] at hz; cases hz; rw [Rho.set_ne q'] at hz'; exact r1.oo z z' ad m m2 hy hz'
    · by_cases q' : z' = y
      · subst q'; rw [Rho.set_self] at hz'; cases hz'; rw [Rho.set_ne q] at hz; exact r1.oo z z' ad m1 m hz hy
      · rw [Rho.set_ne q] at hz; rw [Rho.set_ne q'] at hz'; exact r1.oo z z' ad' m1 m2 hz hz'
  · obtain ⟨mm, hn, hmm⟩ := vv.ns
    exact ⟨mm, hn.extBut (fun b o hb e => keep b o hb e) (Ne.symm h3), hmm⟩
  · obtain ⟨oc, hoc, hdc⟩ := vv.cell z c hc
    exact ⟨oc, keep c oc (Ne.symm (h4 z c hc)) hoc, hdc⟩
  · by_cases q : z = y
    · subst q; rw [Rho.set_self] at hz; cases hz
      obtain ⟨u, hu, e, _⟩ := hv z _ hy
      exact ⟨u, hu, e, hM⟩
    · rw [Rho.set_ne q] at hz
      obtain ⟨u, hu, hsl⟩ := hv z sl hz
      exact ⟨u, hu, hsl.mono x2.le fun ad' m1 e o h => keep _ o (fun e' => q (r1.oo z y ad' m1 m (e ▸ hz) (e' ▸ hy))) h⟩

theorem comp_core_own {elt target iter : Expr} {pos : Pos} {g2 : Frz} {s2 : Shared} {I : Addr} {fp pv : List Addr} {n : Nat} {κ : Nat → Str → Option PyData} {y : Str} {ad : Addr} {mm : Nat → Mut} {St : Nat → Heap → Prop} (hk : sc.kind = .function) (hcell : ∀ y ∈ sc.names, y.2 ≠ .cell)
    (Dr : ∀ C, Drw W a.A (compEnvC sc (clOf sc a.env) C a.env) target (.ref I) g2 fp pv n κ St) (hst : St 0 s2.heap) (r2 : Rel a ρ B g2 s2) (hy : ρ y = some (.own ad (mm 0))) (O : Off a ρ B pv) (hgp : ∀ z ∈ pv, g2 z = none) (hfp : ∀ b ∈ fp, b < s2.heap.objs.size)
    (hself : ∀ (s : Shared) (Q : Value → Shared → Prop) (E : Value → Shared → Prop), St 0 s.heap → Q (.ref I) s → wpAny (model W.prog W.w) a.A (pyIter (.ref I)) Q E s)
    {f : Nat → PyData} (elts : ∀ i, i < n → ∀ C g s, RelC a (ρ.set y (.own ad (mm i))) B C (κ i) g s → wpAny (model W.prog W.w) a.A (eval elt (compEnvC sc (clOf sc a.env) C a.env)) (fun v s' => ∃ g', ExtB (fun b => if b = ad then none else s.heap.get? b) g s g' s' ∧ Den g' v (f i) ∧ MutIs g' s'.heap ad (mm (i + 1)) ∧ g' ad = none) noE s) (hsz : Small n)
    {RR : Value → Addr → Result → Shared → Prop}
    (hRR : ∀ D0 C s' g' vs ep m, s2.heap.get? D0 = none → s2.heap.get? C = none → D0 ≠ C → s'.heap.Ns C m → s'.heap.get? D0 = some (lstO vs ep) → DenAll g' vs ((List.range n).map f) → Rel a (ρ.set y (.own ad (mm n))) B g' s' → (∃ h tk, s' = { s2 with heap := h, toks := tk }) → Le g2 g' →
      (∀ b o, s2.heap.get? b = some o → g' b = g2 b) → (∀ b o, b ∉ pv → b ≠ ad → s2.heap.get? b = some o → s'.heap.get? b = some o) → g' D0 = none → g' C = none → RR (.ref D0) C (.ok .next) s') :
    wpAny (model W.prog W.w) a.A (newList []) (fun acc s3 => wpAny (model W.prog W.w) a.A (newFunctionEnv sc a.env.globals (clOf sc a.env) [] a.env.qual none .none (some a.env)) (fun cenv s4 =>
      codeAny (model W.prog W.w) a.A (.compStart (.ListComp elt [⟨target, iter, [], 0⟩] sc pos) 0 (.ref I) acc { cenv with scope := relabel sc a.env }) (RR acc cenv.locals) s4) noE s3) noE s2 := by
  refine wpAny_newObj_type (wpAny_newFunctionEnv hcell (by intro y hy; simp at hy) (fun h₁ hns₁ hsb₁ => ?_) hk)
  dsimp only at hns₁ hsb₁ ⊢
  have hρ0 : ρ = ρ.set y (.own ad (mm 0)) := by
    funext z
    by_cases q : z = y
    · subst q; rw [Rho.set_self, hy]
    · rw [Rho.set_ne q]
  obtain ⟨oad, had⟩ := (r2.mutOf hy).live
  have hgad := (r2.own y ad _ hy).1
  have hadpv : ad ∉ pv := O.o y ad _ hy
  generalize hH2 : s2.heap.push { cls := .type "list", dict := none, data := .seq ([] : List Value).toArray } = H2 at hns₁ hsb₁ ⊢
  have hC : H2.objs.size = s2.heap.objs.size + 1 := by rw [← hH2, Heap.size_push]
  have hDC : s2.heap.objs.size ≠ H2.objs.size := by rw [hC]; exact Nat.ne_of_lt (Nat.lt_succ_self _)
  have below : ∀ b, b < s2.heap.objs.size → b ≠ H2.objs.size ∧ b ≠ s2.heap.objs.size := fun b hb => ⟨by rw [hC]; exact Nat.ne_of_lt (Nat.lt_succ_of_lt hb), Nat.ne_of_lt hb⟩
  have hDf : s2.heap.objs.size ∉ fp := fun hm => Nat.lt_irrefl _ (hfp _ hm)
  have hCf : H2.objs.size ∉ fp := fun hm => by have := hfp _ hm; rw [hC] at this; exact Nat.lt_irrefl _ (Nat.lt_of_succ_lt this)
  have old : ∀ b o, s2.heap.get? b = some o → h₁.get? b = some o := fun b o e => hsb₁.extBut b o (below b (Heap.lt_size e)).1 (Heap.get?_push_of_some _ (hH2 ▸ Heap.get?_push_of_some _ e))
  have hacc : h₁.get? s2.heap.objs.size = some (lstO [] 0) := hsb₁.extBut _ _ hDC (Heap.get?_push_of_some _ (hH2 ▸ Heap.get?_push_size _ rfl))
  have fresh : ∀ z, s2.heap.objs.size ≤ z → s2.heap.get? z = none := fun z hz => by
    cases e : s2.heap.get? z with
    | none => rfl
    | some o' => exact absurd (Heap.lt_size e) (Nat.not_lt.mpr hz)
  have hDn := fresh s2.heap.objs.size (Nat.le_refl _)
  have hCn := fresh H2.objs.size (by rw [hC]; exact Nat.le_succ _)
  have gno : ∀ z, s2.heap.get? z = none → g2 z = none := fun z hz => by
    cases e : g2 z with
    | none => rfl
    | some o => rw [r2.fz z o e] at hz; cases hz
  have hst₁ : St 0 h₁ := (Dr 0).frame _ _ _ hst fun b _ o e => old b o e
  have hpvl : ∀ i h, St i h → ∀ b ∈ pv, ∃ o, h.get? b = some o := (Dr 0).live
  have hDp : s2.heap.objs.size ∉ pv := fun hm => by obtain ⟨o, ho⟩ := hpvl 0 _ hst _ hm; rw [hDn] at ho; cases ho
  have hCp : H2.objs.size ∉ pv := fun hm => by obtain ⟨o, ho⟩ := hpvl 0 _ hst _ hm; rw [hCn] at ho; cases ho
  have O3 : Off a ρ B (s2.heap.objs.size :: H2.objs.size :: pv) := by
    have o2 := r2.off (pv := [s2.heap.objs.size, H2.objs.size]) (fun z hz => by
      rcases List.mem_cons.mp hz with rfl | hz
      · exact hDn
      · rw [List.mem_singleton.mp hz]; exact hCn)
    refine ⟨fun z hz => ?_, fun hz => ?_, fun x c hc hz => ?_, fun x ad m hx hz => ?_⟩
    · rcases List.mem_cons.mp hz with rfl | hz
      · exact o2.b _ (.head _)
      · rcases List.mem_cons.mp hz with rfl | hz
        · exact o2.b _ (.tail _ (.head _))
        · exact O.b z hz
    · rcases List.mem_cons.mp hz with e | hz
      · exact o2.l (by rw [e]; exact .head _)
      · rcases List.mem_cons.mp hz with e | hz
        · exact o2.l (by rw [e]; exact .tail _ (.head _))
        · exact O.l hz
    · rcases List.mem_cons.mp hz with e | hz
      · exact o2.c x c hc (by rw [e]; exact .head _)
      · rcases List.mem_cons.mp hz with e | hz
        · exact o2.c x c hc (by rw [e]; exact .tail _ (.head _))
        · exact O.c x c hc hz
    · rcases List.mem_cons.mp hz with e | hz
      · exact o2.o x ad m hx (by rw [e]; exact .head _)
      · rcases List.mem_cons.mp hz with e | hz
        · exact o2.o x ad m hx (by rw [e]; exact .tail _ (.head _))
        · exact O.o x ad m hx hz
  have O3' : ∀ i, Off a (ρ.set y (.own ad (mm i))) B (s2.heap.objs.size :: H2.objs.size :: pv) := fun i => ⟨O3.b, O3.l, O3.c, fun x ad' m hx hz => by
    by_cases q : x = y
    · subst q; rw [Rho.set_self] at hx; cases hx; exact O3.o _ _ _ hy hz
    · rw [Rho.set_ne q] at hx; exact O3.o _ _ _ hx hz⟩
  have hDad : s2.heap.objs.size ≠ ad := fun q => by rw [← q, hDn] at had; cases had
  have hCad : H2.objs.size ≠ ad := fun q => by rw [← q, hCn] at had; cases had
  have hfad : ∀ b ∈ fp, b ≠ ad := fun b hb q => by
    subst q
    rcases (Dr 0).sub b hb with h | ⟨o, h⟩
    · exact hadpv h
    · rw [hgad] at h; cases h
  have hg3 : ∀ {g' : Frz}, (∀ b ∈ pv, g' b = none) → g' s2.heap.objs.size = none → g' H2.objs.size = none → ∀ z ∈ s2.heap.objs.size :: H2.objs.size :: pv, g' z = none := fun {g'} h1 h2 h3 z hz => by
    rcases List.mem_cons.mp hz with rfl | hz
    · exact h2
    · rcases List.mem_cons.mp hz with rfl | hz
      · exact h3
      · exact h1 z hz
  have rel₁ : Rel a (ρ.set y (.own ad (mm 0))) B g2 { s2 with heap := h₁, toks := s2.toks + ([] : List (Str × Value)).length } := hρ0 ▸ r2.moved O3 (hg3 hgp (gno _ hDn) (gno _ hCn)) fun b o _ e => old b o e
  have loop : codeAny (model W.prog W.w) a.A (.compLoop (.ListComp elt [⟨target, iter, [], 0⟩] sc pos) 0 (.ref I) (.ref s2.heap.objs.size) (compEnvC sc (clOf sc a.env) H2.objs.size a.env)) (RR (.ref s2.heap.objs.size) H2.objs.size)
      { s2 with heap := h₁, toks := s2.toks + ([] : List (Str × Value)).length } := by
    refine codeAny_compLoop_own (fun k s' => ∃ i g' vs ep m, i ≤ n ∧ k = n + 1 - i ∧ St i s'.heap ∧ s'.heap.get? s2.heap.objs.size = some (lstO vs ep) ∧ DenAll g' vs ((List.range i).map f) ∧ s'.heap.Ns H2.objs.size m ∧ Rel a (ρ.set y (.own ad (mm i))) B g' s' ∧
      (∃ h tk, s' = { s2 with heap := h, toks := tk }) ∧ Le g2 g' ∧ (∀ b o, s2.heap.get? b = some o → g' b = g2 b) ∧ (∀ b o, b ∉ pv → b ≠ ad → s2.heap.get? b = some o → s'.heap.get? b = some o) ∧ g' s2.heap.objs.size = none ∧ g' H2.objs.size = none) ?_ (n + 1)
      ⟨0, g2, [], 0, _, Nat.zero_le _, rfl, hst₁, hacc, .nil, hns₁, rel₁, ⟨_, _, rfl⟩, .refl, fun _ _ _ => rfl, fun b o _ _ e => old b o e, gno _ hDn, gno _ hCn⟩
    rintro k s' ⟨i, g', vs, ep, m, hi, rfl, hst', hl', hd', hn', r', same', hle', hold', hkeep', hgD, hgC⟩
    have hgpv : ∀ b ∈ pv, g' b = none := fun b hb => by
      obtain ⟨o, ho⟩ := hpvl 0 _ hst b hb
      rw [hold' b o ho]; exact hgp b hb
    by_cases hlt : i < n
    · refine wpAny_mono ((Dr H2.objs.size).next i s' g' m hlt hst' hn' r'.fz hle' hgpv hgC hCf) (fun r s1 h1 => ?_) fun _ _ e => e
      cases r with
      | none => exact h1.elim
      | some v =>
        refine wpAny_mono h1 (fun _ s1 h1 => wpAny_mono h1 (fun _ s4 h4 => ?_) fun _ _ e => e) fun _ _ e => e
        obtain ⟨⟨h4', t4, rfl⟩, hst4, hk4, m4, hn4, hb4⟩ := h4
        replace hn4 : h4'.Ns H2.objs.size m4 := hn4
        replace hst4 : St (i + 1) h4' := hst4
        have r4 : Rel a (ρ.set y (.own ad (mm i))) B g' { s' with heap := h4', toks := t4 } := r'.moved (O3' i) (hg3 hgpv hgD hgC) fun b o hb e =>
          hk4 b o (fun q => hb (.tail _ (.tail _ q))) (fun q => hb (by rw [q]; exact .tail _ (.head _))) e
        have hl4 : h4'.get? s2.heap.objs.size = some (lstO vs ep) := hk4 _ _ hDp hDC hl'
        have i4 : RelC a (ρ.set y (.own ad (mm i))) B H2.objs.size (κ i) g' { s' with heap := h4', toks := t4 } := ⟨r4, m4, hn4, hb4⟩
        obtain ⟨h0, t0, e0⟩ := same'
        have hk04 : ∀ b o, b ∉ pv → b ≠ ad → s2.heap.get? b = some o → h4'.get? b = some o := fun b o hb hb2 e => hk4 b o hb (below b (Heap.lt_size e)).1 (hkeep' b o hb hb2 e)
        have hself4 : (ρ.set y (.own ad (mm i))) y = some (.own ad (mm i)) := Rho.set_self
        have lv : ∀ {b : Addr} {o : Obj}, s2.heap.get? b = some o → ∃ o', h4'.get? b = some o' := fun {b o} e => by
          by_cases hb : b ∈ pv
          · exact hpvl _ _ hst4 b hb
          · by_cases hb2 : b = ad
            · subst hb2; exact (r4.mutOf hself4).live
            · exact ⟨o, hk04 b o hb hb2 e⟩
        refine wpAny_tests_nil ?_
        simp only [if_true]
        refine wpAny_mono (elts i hlt H2.objs.size g' _ i4) (fun w s6 ⟨g6, x6, dw, hM6, hgn6⟩ => ?_) fun _ _ e => e
        have keep6 : ∀ b o, b ≠ ad → h4'.get? b = some o → s6.heap.get? b = some o := fun b o hb e => x6.keep b o (by show (if b = ad then none else h4'.get? b) = some o; simp only [hb, if_false]; exact e)
        have r6 : Rel a (ρ.set y (.own ad (mm (i + 1)))) B g6 s6 := by
          have := r4.lent hself4 x6 hM6 hgn6
          rw [Rho.set_set] at this; exact this
        have hl6 := keep6 _ _ hDad hl4
        have hsmall : vs.toArray.size ≤ sizeLine := by
          rw [List.size_toArray, hd'.length, List.length_map, List.length_range]
          unfold Small at hsz; omega
        refine wpAny_list_append_plain (hsz := hsmall) (items := vs.toArray) ⟨ep, hl6⟩ fun h7 hl7 hs7 => ?_
        obtain ⟨ep7, hl7⟩ := hl7
        obtain ⟨h6, t6, e6⟩ := x6.same
        have hC7 : ∀ b o, b ≠ s2.heap.objs.size → s6.heap.get? b = some o → h7.get? b = some o := fun b o hb e => hs7.extBut b o hb e
        have hgD6 : g6 s2.heap.objs.size = none := by rw [x6.old _ _ hl4]; exact hgD
        have hgC6 : g6 H2.objs.size = none := by obtain ⟨o, ho⟩ := ns_live hn4; rw [x6.old _ _ ho]; exact hgC
        have O3i := O3' (i + 1)
        have r7 : Rel a (ρ.set y (.own ad (mm (i + 1)))) B g6 { s6 with heap := h7, toks := s6.toks } := r6.moved (pv := [s2.heap.objs.size]) ⟨fun z hz => O3i.b z (by rw [List.mem_singleton.mp hz]; exact .head _), fun hz => O3i.l (by rw [List.mem_singleton.mp hz]; exact .head _), fun x c hc hz => O3i.c x c hc (by rw [List.mem_singleton.mp hz]; exact .head _), fun x ad m hx hz => O3i.o x ad m hx (by rw [List.mem_singleton.mp hz]; exact .head _)⟩
          (fun z hz => by rw [List.mem_singleton.mp hz]; exact hgD6) fun b o hb e => hC7 b o (fun q => hb (by rw [q]; exact .head _)) e
        have hn7 : h7.Ns H2.objs.size m4 := (hn4.at' fun o e => keep6 _ o hCad e).sameBut hs7 (Ne.symm hDC)
        refine ⟨n + 1 - (i + 1), by omega, i + 1, g6, vs ++ [w], ep7, m4, hlt, rfl, (Dr 0).frame _ _ _ hst4 (fun b hb o e => hC7 b o (fun q => hDf (q ▸ hb)) (keep6 b o (hfad b hb) e)), by simpa using hl7, ?_, hn7, r7, ⟨h7, s6.toks, by rw [e6, e0]⟩, hle'.trans x6.le, fun b o e => ?_, fun b o hb hb2 e => hC7 b o (below b (Heap.lt_size e)).2 (keep6 b o hb2 (hk04 b o hb hb2 e)), hgD6, hgC6⟩
        · rw [List.range_succ, List.map_append]; exact (hd'.mono x6.le).append (.one dw)
        · obtain ⟨o', ho'⟩ := lv e
          rw [x6.old b o' ho']; exact hold' b o e
    · have hin : i = n := by omega
      subst hin
      refine wpAny_mono ((Dr H2.objs.size).done s' hst') (fun r s1 ⟨e1, ⟨h1, t1, e1'⟩, hk1⟩ => ?_) fun _ _ e => e
      subst e1 e1'
      obtain ⟨h0, t0, e0⟩ := same'
      have r1 : Rel a (ρ.set y (.own ad (mm i))) B g' { s' with heap := h1, toks := t1 } := r'.moved ((O3' i).sub fun z hz => .tail _ (.tail _ hz)) hgpv fun b o hb e => hk1 b o hb e
      exact hRR _ _ { s' with heap := h1, toks := t1 } g' vs ep m hDn hCn hDC (hn'.at' fun o e => hk1 _ o hCp e) (hk1 _ _ hDp hl') hd' r1 ⟨h1, t1, by rw [e0]⟩ hle' hold' (fun b o hb hb2 e => hk1 b o hb (hkeep' b o hb hb2 e)) hgD hgC
  exact codeAny_compStart_list loop (hself _ _ _ hst₁ loop)

/-- [.. for ..] whose element turns an own object -/
theorem EvX_comp_own {Q : PyData → Rho → Prop} {elt target iter : Expr} {pos : Pos} {n : Nat} {κ : Nat → Str → Option PyData} {y : Str} {ad : Addr} {mm : Nat → Mut} {f : Nat → PyData} (src : ∀ B, DSrc a ρ B sc target iter n κ) (hy : ρ y = some (.own ad (mm 0))) (hk : sc.kind = .function) (hcell : ∀ y ∈ sc.names, y.2 ≠ .cell)
    (hfree : ∀ m, (m, NameKind.free) ∈ sc.names → ∃ c, a.env.cells.lookup m = some c) (hnames : ∀ y ∈ sc.names, y.2 = .local → sc.names.lookup y.1 = some .local)
    (elts : ∀ B, ∀ i, i < n → ∀ C g s, RelC a (ρ.set y (.own ad (mm i))) B C (κ i) g s → wpAny (model W.prog W.w) a.A (eval elt (compEnvC sc (clOf sc a.env) C a.env)) (fun v s' => ∃ g', ExtB (fun b => if b = ad then none else s.heap.get? b) g s g' s' ∧ Den g' v (f i) ∧ MutIs g' s'.heap ad (mm (i + 1)) ∧ g' ad = none) noE s)
    (hsz : Small n) (hq : Q (.list ((List.range n).map f)) (ρ.set y (.own ad (mm n)))) (hs : ∀ x, foldedSetIterable iter a.env x = pure x := by intro _; rfl) :
    EvX a (.ListComp elt [⟨target, iter, [], 0⟩] sc pos) ρ Q := fun B g s r => by
  rw [eval_ListComp]
  refine wpAny_comprehension_free (use := none) rfl hs (closureFor_of hfree) hk hnames (wpAny_mono (src B g s r) (fun xv s1 h1 => wpAny_mono h1 (fun it s2 h2 => ?_) fun _ _ e => e) fun _ _ e => e)
  obtain ⟨g2, I, fp, pv, St, rfl, x2, Dr, hst, hgp, hfp, hnew, hself⟩ := h2
  have r2 := Rel.stable r x2
  have O := r.off hnew
  refine comp_core_own (RR := fun acc C => compPost (model W.prog W.w) a.A noE none (fun v s' => ∃ g' d ρ', StepTo B g s g' s' ∧ Rel a ρ' B g' s' ∧ Den g' v d ∧ Q d ρ') acc C)
    hk hcell Dr hst r2 hy O hgp hfp hself (elts B) hsz ?_
  intro D0 C s' g' vs ep m hD hC hDC hnC hl hd r' same hle hold hkeep hgD hgC
  refine ⟨m, hnC, fun h' hs' => ?_⟩
  obtain ⟨h2, t2, e2⟩ := x2.same
  obtain ⟨h3, t3, e3⟩ := same
  have noneS : ∀ z, s2.heap.get? z = none → s.heap.get? z = none := fun z hz => by
    cases e : s.heap.get? z with
    | none => rfl
    | some o => rw [x2.keep _ _ e] at hz; cases hz
  have OO0 := r.off (pv := [D0, C]) (fun z hz => by
    rcases List.mem_cons.mp hz with rfl | hz
    · exact noneS _ hD
    · rw [List.mem_singleton.mp hz]; exact noneS _ hC)
  have OO : Off a (ρ.set y (.own ad (mm n))) B [D0, C] := ⟨OO0.b, OO0.l, OO0.c, fun x ad' m hx hz => by
    by_cases q : x = y
    · subst q; rw [Rho.set_self] at hx; cases hx; exact OO0.o _ _ _ hy hz
    · rw [Rho.set_ne q] at hx; exact OO0.o _ _ _ hx hz⟩
  have rf : Rel a (ρ.set y (.own ad (mm n))) B (frz g' D0 (lstO vs ep)) s' := by
    have hle2 := frz_le (o := lstO vs ep) hgD
    refine ⟨fun b o e => ?_, r'.kb, r'.top, ?_, r'.bL, fun x c hc => ⟨?_, (r'.gC x c hc).2⟩, fun x ad m hx => ?_, r'.oo, ?_⟩
    · by_cases q : b = D0
      · subst q; rw [frz_self] at e; cases e; exact hl
      · rw [frz_ne q] at e; exact r'.fz b o e
    · rw [frz_ne fun q => OO.l (by rw [q]; exact .head _)]; exact r'.gL
    · rw [frz_ne fun q => OO.c x c hc (by rw [q]; exact .head _)]; exact (r'.gC x c hc).1
    · obtain ⟨h1, h2⟩ := r'.own x ad m hx
      exact ⟨by rw [frz_ne fun q => OO.o x ad m hx (by rw [q]; exact .head _)]; exact h1, h2⟩
    · obtain ⟨V, vv, hv⟩ := r'.vars
      exact ⟨V, vv, fun x sl hx => let ⟨u, hu, hs⟩ := hv x sl hx; ⟨u, hu, hs.mono hle2 fun _ _ _ _ h => h⟩⟩
  have r4 : Rel a (ρ.set y (.own ad (mm n))) B (frz g' D0 (lstO vs ep)) { s' with heap := h', toks := s'.toks } := rf.moved (pv := [C]) (OO.sub fun z hz => .tail _ hz)
    (fun z hz => by rw [List.mem_singleton.mp hz, frz_ne (Ne.symm hDC)]; exact hgC) fun b o hb e => hs'.extBut b o (fun q => hb (by rw [q]; exact .head _)) e
  refine ⟨_, _, _, ⟨⟨h', s'.toks, by rw [e3, e2]⟩, (x2.le.trans hle).trans (frz_le hgD), fun b o e => ?_⟩, r4, .list frz_self (hd.mono (frz_le hgD)), hq⟩
  have hb := r.kb b o e
  have hne : b ≠ D0 := fun q => by
    have hb' := r.kb b o e
    rw [q, noneS _ hD] at hb'; cases hb'
  rw [frz_ne hne, hold b o (x2.keep b o hb)]
  exact x2.old b o hb
end
end Mine
namespace Mine
open PySem PySem.W PyProof.Rows PySem.Calls
variable {W : Wld}

/-- the element f(y) where y's cell holds an own object -/
theorem elt_fn {a : Act W} {ρ : Rho} {B : Frz} {sc : Scope} {C : Addr} {κ : Str → Option PyData} (hk : sc.kind = .function) {x y : Str} {np yp p : Pos} {fa ad : Addr} {o : Obj} {fd : FuncData} {k : Nat} {m m' : Mut} {d : PyData} (hx : sc.names.lookup x = some .globalImplicit) (hg : W.mg x = some (.ref fa)) (ho : W.H0.get? fa = some o) (hd : o.data = .func fd)
    (hyf : sc.names.lookup y = some .free) (hnd : (sc.names.map (·.1)).Nodup) (hya : a.env.kindOf y = some .cell) (hyc : ∃ c, a.env.cells.lookup y = some c) (hy : ρ y = some (.own ad m)) (hf : FnLent W x k m [] d m') (hka : k ≤ a.k) {g : Frz} {s : Shared} (i : RelC a ρ B C κ g s)
    (hdb : (x == ("__debug__" : Str)) = false := by decide) (hyb : (y == ("__debug__" : Str)) = false := by decide) (hs : ∀ env : Env, starEach [.Name y yp] env = (false, eval (.Name y yp) env) :: starEach [] env := by intro _; rfl) :
    wpAny (model W.prog W.w) a.A (eval (.Call (.Name x np) [.Name y yp] [] p) (compEnvC sc (clOf sc a.env) C a.env)) (fun v s' => ∃ g', ExtB (fun b => if b = ad then none else s.heap.get? b) g s g' s' ∧ Den g' v d ∧ MutIs g' s'.heap ad m' ∧ g' ad = none) noE s := by
  have G : GlobIs (a.vc ρ B sc C κ hk) x (.ref fa) := glob_vc hx (.inl hg)
  refine Call_ (glob_name G i ?_ hdb)
  refine callWith_def hd (args_cons (cname_load hk hyf hnd hya hyc hy i (fun v hv => ?_) hyb) (hs _)) (hs _)
  obtain ⟨rfl, hm⟩ := hv
  refine args_nil ?_
  have r := i.rel
  obtain ⟨h1, h2, h3, h4⟩ := r.own y ad m hy
  have H0 : ∀ b o, W.H0.get? b = some o → s.heap.get? b = some o := fun b o e => r.kb b o (r.top b o e)
  refine ⟨H0 _ _ ho, wpAny_call ?_⟩
  have hH0 : W.H0.get? ad = none := by
    cases e : W.H0.get? ad with
    | none => rfl
    | some o => rw [r.top _ _ e] at h2; cases h2
  refine codeAny_mono (hf fa hg a.A (Room.le ⟨a.hnd, a.dep, a.uni⟩ hka) g s ad [] r.fz H0 hH0 h1 hm .nil) ?_
  rintro rr s2 ⟨v, g2, rfl, x2, d2, hM, hgn⟩
  exact ⟨g2, x2, d2, hM, hgn⟩

/-- what a row of figures reads as -/
def valF (fs : List Int) : Int := fs.foldl (fun n f => n * 64 + f) 0
theorem valF_snoc {fs : List Int} {f : Int} : valF (fs ++ [f]) = valF fs * 64 + f := by simp [valF]
theorem valF_lt {fs : List Int} (hf : ∀ f ∈ fs, 0 ≤ f ∧ f < 64) : 0 ≤ valF fs ∧ valF fs < 64 ^ fs.length := by
  have : ∀ (l : List Int), (∀ f ∈ l, 0 ≤ f ∧ f < 64) → 0 ≤ valF l.reverse ∧ valF l.reverse < 64 ^ l.reverse.length := by
    intro l
    induction l with
    | nil => intro _; exact ⟨by simp [valF], by simp [valF]⟩
    | cons k r ih =>
      intro h
      rw [List.reverse_cons, valF_snoc, List.length_append, List.length_singleton, Int.pow_succ]
      have := ih fun f hf => h f (.tail _ hf)
      have := h k (.head _)
      omega
  have := this fs.reverse fun f h => hf f (List.mem_reverse.mp h)
  simpa using this
theorem valF_worth {fg : List Int} {row : List Nat} : valF (row.map fun k => fg.getD k 0) = worth fg row := by
  unfold valF worth
  rw [List.foldl_map]

theorem and64 (v f : Int) (h0 : 0 ≤ f) (h1 : f < 64) : Builtin.bitAnd (v * 2 ^ (6 : Int).toNat) f = 0 := by
  have e : v * 2 ^ (6 : Int).toNat = v * 64 := rfl
  rw [e]
  have z : ∀ x : Int, Builtin.bitAnd x 0 = 0 := fun x => by have := bitAnd_range x (y := 0) (by decide); omega
  have st : ∀ (x y : Int), x % 2 = 0 → Builtin.bitAnd x y = 2 * Builtin.bitAnd (x / 2) (y / 2) := fun x y hx => by
    rw [kbt_halves, if_neg (by omega)]; omega
  rw [st _ _ (by omega), st _ _ (by omega), st _ _ (by omega), st _ _ (by omega), st _ _ (by omega), st _ _ (by omega)]
  rw [show f / 2 / 2 / 2 / 2 / 2 / 2 = 0 by omega, z]
  rfl
theorem or64 (v f : Int) (h0 : 0 ≤ f) (h1 : f < 64) : Builtin.bitOr (v * 2 ^ (6 : Int).toNat) f = v * 64 + f := by
  rw [bitOr_and, and64 v f h0 h1]
  show v * 64 + f - 0 = _
  omega

/-- the octets of a row -/
def Octs (ds : List PyData) (i : Nat) (fs : List Int) : Prop := ∀ j, j < fs.length → ∃ o : Int, ds[i + j]? = some (.int o) ∧ Builtin.bitAnd o 63 = fs.getD j 0 ∧ Builtin.bitAnd o 64 = (if j + 1 = fs.length then 0 else 64)

theorem parse_varint_ok (P : Prg W) {ds : List PyData} {i : Nat} {fs : List Int} (hne : fs ≠ []) (hf : ∀ f ∈ fs, 0 ≤ f ∧ f < 64) (hl : fs.length ≤ 64) (ho : Octs ds i fs) : FnLent W "_parse_varint" 1 (.itr ds i) [] (.int (valF fs)) (.itr ds (i + fs.length)) := by
  obtain ⟨fa, o, fd, F⟩ := P.f1
  have hpos : 0 < fs.length := List.length_pos_iff.mpr hne
  refine FnLent.of F (p0 := "iterator") (pn := []) (F.binds binds1) (fun a ad hak hkind hhas hsc => ?_)
  generalize hρ : (fun y => List.lookup y ((("iterator" : Str) :: []).zip (Slot.own ad (.itr ds i) :: ([] : List PyData).map Slot.val))) = ρ0
  have e1 : ρ0 "iterator" = some (.own ad (.itr ds i)) := by rw [← hρ]; rfl
  clear hρ
  have snoc : ∀ j, j < fs.length → fs.take (j + 1) = fs.take j ++ [fs.getD j 0] := fun j hj => by rw [List.take_add_one, List.getElem?_eq_getElem hj]; simp [List.getD, hj]
  obtain ⟨o0, ho0, hb0, hc0⟩ := ho 0 hpos
  refine Tr_cons (Tr_assign (EvX_next (ad := ad) (ds := ds) (i := i) (d := .int o0) (by first | exact (hkind _).trans rfl | exact hkind _) P.next e1 (hhas _ (by first | exact .inl rfl | exact .inr rfl)) ho0 ?_) (hhas _ (by first | exact .inl rfl | exact .inr rfl)))
  refine Tr_cons (Tr_assign (EvX_pure (d := .int (valF (fs.take 1))) (fun B => (Ev_bin (Ev_name (d := .int o0) (by repeat (first | exact Rho.set_self | assumption | refine (Rho.set_ne (by decide)).trans ?_)) (hhas _ (by first | exact .inl rfl | exact .inr rfl))) Ev_const_int op_and).as (by rw [hb0, snoc 0 hpos, valF_snoc]; simp [valF])) ?_) (hhas _ (by first | exact .inl rfl | exact .inr rfl)))
  refine Tr_cons (Tr_while (fun n ρ => ∃ j o, j + n + 1 = fs.length ∧ ρ "iterator" = some (.own ad (.itr ds (i + j + 1))) ∧ ρ "b" = some (.val (.int o)) ∧ Builtin.bitAnd o 64 = (if j + 1 = fs.length then 0 else 64) ∧ ρ "val" = some (.val (.int (valF (fs.take (j + 1))))))
    (n₀ := fs.length - 1) ⟨0, o0, by omega, (by repeat (first | exact Rho.set_self | assumption | refine (Rho.set_ne (by decide)).trans ?_)), (by repeat (first | exact Rho.set_self | assumption | refine (Rho.set_ne (by decide)).trans ?_)), hc0, (by repeat (first | exact Rho.set_self | assumption | refine (Rho.set_ne (by decide)).trans ?_))⟩ ?_)
  rintro n ρ ⟨j, ob, hj, h1, h2, h3, h4⟩
  refine ⟨_, fun B => Ts_int (Ev_bin (Ev_name h2 (hhas _ (by first | exact .inl rfl | exact .inr rfl))) Ev_const_int op_and), fun hb => ?_, fun hb => ?_⟩
  · have hjn : j + 1 < fs.length := by
      rcases Nat.lt_or_ge (j + 1) fs.length with h | h
      · exact h
      · rw [h3, if_pos (by omega)] at hb; cases hb
    obtain ⟨o1, ho1, hb1, hc1⟩ := ho (j + 1) hjn
    have hv := valF_lt (fs := fs.take (j + 1)) fun f h => hf f (List.mem_of_mem_take h)
    have hp : (64 : Int) ^ (fs.take (j + 1)).length ≤ 64 ^ 64 := by
      have : (fs.take (j + 1)).length ≤ 64 := by rw [List.length_take]; omega
      have := Nat.pow_le_pow_right (n := 64) (by decide) this
      exact_mod_cast this
    have hf1 : 0 ≤ fs.getD (j + 1) 0 ∧ fs.getD (j + 1) 0 < 64 := hf _ (by rw [List.getD, List.getElem?_eq_getElem hjn]; exact List.getElem_mem hjn)
    refine Tr_cons (Tr_aug (d := .int (valF (fs.take (j + 1)) * 2 ^ (6 : Int).toNat)) h4 (hhas _ (by first | exact .inl rfl | exact .inr rfl)) (fun B => Ev_const_int) (fun B g s va vb r da db => ?_) ?_)
    · cases da; cases db
      refine ilshift_int (by decide) ?_ ⟨g, Ext.toks r.fz _, .int _ _⟩
      have : Builtin.Int.intBits (valF (fs.take (j + 1))) ≤ 384 := intBits_le_iff.mpr (worth_abs hv hp)
      omega
    refine Tr_cons (Tr_assign (EvX_next (ad := ad) (ds := ds) (i := i + j + 1) (d := .int o1) (by first | exact (hkind _).trans rfl | exact hkind _) P.next (by repeat (first | exact Rho.set_self | assumption | refine (Rho.set_ne (by decide)).trans ?_)) (hhas _ (by first | exact .inl rfl | exact .inr rfl)) ho1 ?_) (hhas _ (by first | exact .inl rfl | exact .inr rfl)))
    refine Tr_cons (Tr_aug (d := .int (valF (fs.take (j + 1 + 1)))) (by repeat (first | exact Rho.set_self | assumption | refine (Rho.set_ne (by decide)).trans ?_)) (hhas _ (by first | exact .inl rfl | exact .inr rfl)) (fun B => Ev_bin (Ev_name (d := .int o1) (by repeat (first | exact Rho.set_self | assumption | refine (Rho.set_ne (by decide)).trans ?_)) (hhas _ (by first | exact .inl rfl | exact .inr rfl))) Ev_const_int op_and) (fun B g s va vb r da db => ?_) ?_)
    · cases da; cases db
      refine ior_int ⟨g, Ext.toks r.fz _, ?_⟩
      rw [hb1, or64 _ _ hf1.1 hf1.2, snoc _ hjn, valF_snoc]
      exact .int _ _
    exact Tr_nil ⟨n - 1, by omega, j + 1, o1, by omega, (by repeat (first | exact Rho.set_self | assumption | refine (Rho.set_ne (by decide)).trans ?_)), (by repeat (first | exact Rho.set_self | assumption | refine (Rho.set_ne (by decide)).trans ?_)), hc1, (by repeat (first | exact Rho.set_self | assumption | refine (Rho.set_ne (by decide)).trans ?_))⟩
  · have hjn : j + 1 = fs.length := by
      rcases Nat.lt_or_ge (j + 1) fs.length with h | h
      · rw [h3, if_neg (by omega)] at hb; cases hb
      · omega
    rw [hjn, List.take_length] at h4
    rw [Nat.add_assoc, hjn] at h1
    exact Tr_cons (Tr_return (EvX_pure (fun B => Ev_name h4 (hhas _ (by first | exact .inl rfl | exact .inr rfl))) ⟨h1, rfl⟩))
end Mine
namespace Mine
open PySem PySem.W PyProof.Rows PySem.Calls
variable {W : Wld}

theorem cellsOf {a : Act W} {scope : Scope} (hkind : ∀ x, a.env.kindOf x = scope.names.lookup x) (hhas : ∀ x, scope.names.lookup x = some .local ∨ scope.names.lookup x = some .cell → a.has x) {x : Str} (h : scope.names.lookup x = some .cell) :
    a.env.kindOf x = some .cell ∧ ∃ c, a.env.cells.lookup x = some c := by
  refine ⟨(hkind x).trans h, ?_⟩
  rcases hhas x (.inr h) with q | q
  · rw [hkind, h] at q; cases q
  · exact q.2
theorem freeOf {a : Act W} {scope sc : Scope} (hkind : ∀ x, a.env.kindOf x = scope.names.lookup x) (hhas : ∀ x, scope.names.lookup x = some .local ∨ scope.names.lookup x = some .cell → a.has x) (hd : ∀ y ∈ sc.names, y.2 = .free → scope.names.lookup y.1 = some .cell) :
    ∀ m, (m, NameKind.free) ∈ sc.names → ∃ c, a.env.cells.lookup m = some c := fun m hm => (cellsOf hkind hhas (hd _ hm rfl)).2

/-- a row's octets -/
def octF (fg ms : List Int) (row : List Nat) (j : Nat) : Int := fg.getD (row.getD j 0) 0 + 64 + 128 * ms.getD (j % ms.length) 0
def octR (fg ms : List Int) (row : List Nat) : List Int := (List.range row.length).map (octF fg ms row)
def octL (fg ms : List Int) (row : List Nat) : List Int := (octR fg ms row).set (row.length - 1) (octF fg ms row (row.length - 1) - 64)
def octs (fg ms : List Int) (rows : List (List Nat)) : List Int := (rows.map (octL fg ms)).flatten
theorem octR_len {fg ms : List Int} {row : List Nat} : (octR fg ms row).length = row.length := by simp [octR]
theorem octL_len {fg ms : List Int} {row : List Nat} : (octL fg ms row).length = row.length := by simp [octL, octR]
theorem octs_snoc {fg ms : List Int} {rows : List (List Nat)} {row : List Nat} : octs fg ms (rows ++ [row]) = octs fg ms rows ++ octL fg ms row := by simp [octs]
theorem octs_len_le {fg ms : List Int} {rows : List (List Nat)} (h : ∀ r ∈ rows, r.length ≤ 64) : (octs fg ms rows).length ≤ 64 * rows.length := by
  induction rows with
  | nil => simp [octs]
  | cons r t ih =>
    have e : octs fg ms (r :: t) = octL fg ms r ++ octs fg ms t := by simp [octs]
    rw [e, List.length_append, octL_len, List.length_cons]
    have := ih fun r h' => h r (.tail _ h')
    have := h r (.head _)
    omega
theorem octs_split {fg ms : List Int} {rows : List (List Nat)} {i : Nat} {row : List Nat} (h : rows[i]? = some row) : ∃ t, octs fg ms rows = octs fg ms (rows.take i) ++ (octL fg ms row ++ t) := by
  have hi : i < rows.length := by
    rcases Nat.lt_or_ge i rows.length with q | q
    · exact q
    · rw [List.getElem?_eq_none q] at h; cases h
  refine ⟨octs fg ms (rows.drop (i + 1)), ?_⟩
  conv => lhs; rw [← List.take_append_drop i rows, List.drop_eq_getElem_cons hi]
  have e : rows[i] = row := by rw [List.getElem?_eq_getElem hi] at h; exact Option.some.inj h
  rw [e]
  simp [octs]
theorem octL_get {fg ms : List Int} {row : List Nat} {j : Nat} (h : j < row.length) : (octL fg ms row)[j]? = some (if j + 1 = row.length then octF fg ms row j - 64 else octF fg ms row j) := by
  unfold octL octR
  rw [List.getElem?_set]
  by_cases q : row.length - 1 = j
  · subst q
    rw [if_pos rfl, if_pos (by simp; omega), if_pos (by omega)]
  · rw [if_neg q, if_neg (by omega), List.getElem?_map, List.getElem?_range h]; rfl
theorem octF_bits {fg ms : List Int} {row : List Nat} {j : Nat} (hf : ∀ k, 0 ≤ fg.getD k 0 ∧ fg.getD k 0 < 64) :
    Builtin.bitAnd (octF fg ms row j) 63 = fg.getD (row.getD j 0) 0 ∧ Builtin.bitAnd (octF fg ms row j) 64 = 64 ∧ Builtin.bitAnd (octF fg ms row j - 64) 63 = fg.getD (row.getD j 0) 0 ∧ Builtin.bitAnd (octF fg ms row j - 64) 64 = 0 := by
  have h := hf (row.getD j 0)
  have b : ∀ x : Int, Builtin.bitAnd x 64 = (x / 64 % 2) * 64 := fun x => kbt_bit x 6
  rw [b, b, bitAnd_m6, bitAnd_m6]
  unfold octF
  omega
theorem octs_Octs {fg ms : List Int} {rows : List (List Nat)} {i : Nat} {row : List Nat} (hf : ∀ k, 0 ≤ fg.getD k 0 ∧ fg.getD k 0 < 64) (h : rows[i]? = some row) :
    Octs ((octs fg ms rows).map .int) (octs fg ms (rows.take i)).length (row.map fun k => fg.getD k 0) := fun j hj => by
  rw [List.length_map] at hj
  obtain ⟨t, e⟩ := octs_split (fg := fg) (ms := ms) h
  have hb := octF_bits (ms := ms) (row := row) (j := j) hf
  refine ⟨if j + 1 = row.length then octF fg ms row j - 64 else octF fg ms row j, ?_, ?_, ?_⟩
  · rw [e, List.getElem?_map, List.getElem?_append_right (by omega), Nat.add_sub_cancel_left, List.getElem?_append_left (by rw [octL_len]; exact hj), octL_get hj]
    rfl
  · have : (row.map fun k => fg.getD k 0).getD j 0 = fg.getD (row.getD j 0) 0 := by simp [List.getD, hj]
    rw [this]
    split
    · exact hb.2.2.1
    · exact hb.1
  · rw [List.length_map]
    split
    · exact hb.2.2.2
    · exact hb.2.1

theorem rowD_get {row : List Nat} {j : Nat} (h : j < row.length) : (row.map fun k => PyData.int (k : Nat)).getD j .none = .int (row.getD j 0 : Nat) := by simp [List.getD, h]
theorem ints_get {ns : List Int} {j : Nat} (h : j < ns.length) : (ns.map PyData.int)[j]? = some (.int (ns.getD j 0)) := by simp [List.getD, h]

theorem law_read_ok (P : Prg W) {fg ms : List Int} {rows : List (List Nat)} (hf : ∀ k, 0 ≤ fg.getD k 0 ∧ fg.getD k 0 < 64) (hm : ∀ m ∈ ms, 0 ≤ m ∧ m ≤ 1) (hm0 : 0 < ms.length) (hml : ms.length ≤ 64) (hfl : fg.length ≤ 64)
    (hr : ∀ r ∈ rows, r ≠ [] ∧ r.length ≤ 64 ∧ ∀ k ∈ r, k < fg.length) (hrl : rows.length ≤ 64) : FnPure W "_law_read" 2 [.list (rows.map rowD), .list (fg.map .int), .list (ms.map .int)] (.list (rows.map fun r => .int (worth fg r))) := by
  have hsz := sizeLine_eq
  obtain ⟨fa, o, fd, F⟩ := P.f10
  refine FnPure.of F (pn := ["rows", "figures", "marks"]) (F.binds binds10) (fun a hak hkind hhas hsc => ?_)
  generalize hρ : (fun y => List.lookup y ((["rows", "figures", "marks"] : List Str).zip ([PyData.list (rows.map rowD), .list (fg.map .int), .list (ms.map .int)].map Slot.val))) = ρ0
  have e1 : ρ0 "rows" = some (.val (.list (rows.map rowD))) := by rw [← hρ]; rfl
  have e2 : ρ0 "figures" = some (.val (.list (fg.map .int))) := by rw [← hρ]; rfl
  have e3 : ρ0 "marks" = some (.val (.list (ms.map .int))) := by rw [← hρ]; rfl
  clear hρ
  refine Tr_cons (Tr_assign_own (ds := []) (fun B => EvF_List EvAll_nil (by unfold Small; simp)) (fun ad => ?_) (hhas _ (by first | exact .inl rfl | exact .inr rfl)))
  refine Tr_cons (Tr_for (fun B => Src_list (ds := rows.map rowD) (Ev_name (by repeat (first | exact Rho.set_self | assumption | refine (Rho.set_ne (by decide)).trans ?_)) (hhas _ (by first | exact .inl rfl | exact .inr rfl)))) (hhas _ (by first | exact .inl rfl | exact .inr rfl)) (fun i ρ => ρ "rows" = some (.val (.list (rows.map rowD))) ∧ ρ "figures" = some (.val (.list (fg.map .int))) ∧ ρ "marks" = some (.val (.list (ms.map .int))) ∧
    ρ "octets" = some (.own ad (.lst ((octs fg ms (rows.take i)).map .int)))) ⟨(by repeat (first | exact Rho.set_self | assumption | refine (Rho.set_ne (by decide)).trans ?_)), (by repeat (first | exact Rho.set_self | assumption | refine (Rho.set_ne (by decide)).trans ?_)), (by repeat (first | exact Rho.set_self | assumption | refine (Rho.set_ne (by decide)).trans ?_)), Rho.set_self⟩ (fun i ρ hi hj => ?_) fun ρ hj => ?_)
  · obtain ⟨h1, h2, h3, h4⟩ := hj
    rw [List.length_map] at hi
    have hrow := hr _ (List.getElem_mem hi)
    have hg : rows[i]? = some rows[i] := List.getElem?_eq_getElem hi
    generalize rows[i] = row at hrow hg
    have hd : (rows.map rowD).getD i .none = rowD row := by rw [List.getD, List.getElem?_map, hg]; rfl
    have ht : rows.take (i + 1) = rows.take i ++ [row] := by rw [List.take_add_one, hg]; rfl
    have hlen := octs_len_le (fg := fg) (ms := ms) (rows := rows.take i) fun r h => (hr r (List.mem_of_mem_take h)).2.1
    have htl : (rows.take i).length ≤ 64 := by rw [List.length_take]; omega
    have hpos : 0 < row.length := List.length_pos_iff.mpr hrow.1
    rw [hd]
    refine Tr_cons (Tr_expr (EvX_extend (ad := ad) (ds := (octs fg ms (rows.take i)).map .int) (es := (octR fg ms row).map .int) (by repeat (first | exact Rho.set_self | assumption | refine (Rho.set_ne (by decide)).trans ?_)) (hhas _ (by first | exact .inl rfl | exact .inr rfl)) (fun B => ?_) (by unfold Small; rw [List.length_map, List.length_map, octR_len]; omega) ?_) not_interactive)
    · have : (octR fg ms row).map PyData.int = made (fun _ => true) (fun j => .int (octF fg ms row j)) (row.map fun k => PyData.int (k : Nat)).length := by rw [made_all, octR, List.map_map, List.length_map]; rfl
      rw [this]
      refine (EvF_comp (DSrc.enum (ds := row.map fun k => PyData.int (k : Nat)) ⟨(by first | exact (hkind _).trans rfl | exact hkind _), .inr P.enumerate⟩ (Ev_name Rho.set_self (hhas _ (by first | exact .inl rfl | exact .inr rfl))) rfl rfl (by decide) rfl) rfl (by decide) (freeOf hkind hhas (by decide)) (by decide) (fun j hj C => TsL_nil) (fun j hj _ C => ?_) (by unfold Small; rw [List.length_map]; omega)).ev.evL
      rw [List.length_map] at hj
      obtain ⟨c1, c2⟩ := cellsOf hkind hhas (x := "figures") rfl
      obtain ⟨c3, c4⟩ := cellsOf hkind hhas (x := "marks") rfl
      have hmm : j % ms.length < ms.length := Nat.mod_lt _ hm0
      have hkk : row.getD j 0 < fg.length := hrow.2.2 _ (by rw [List.getD, List.getElem?_eq_getElem hj]; exact List.getElem_mem hj)
      have hmv : 0 ≤ ms.getD (j % ms.length) 0 ∧ ms.getD (j % ms.length) 0 ≤ 1 := hm _ (by rw [List.getD, List.getElem?_eq_getElem hmm]; exact List.getElem_mem hmm)
      have rk := rowD_get hj
      refine Ev_bin (Ev_bin (Ev_item (k := (row.getD j 0 : Nat)) (Ev_fname rfl (by decide) c1 c2 (d := .list (fg.map .int)) (by repeat (first | exact Rho.set_self | assumption | refine (Rho.set_ne (by decide)).trans ?_))).evL (Ev_cname (d := .int (row.getD j 0 : Nat)) rfl ((if_pos rfl).trans (congrArg some rk))) (by omega) (by omega) (by rw [Int.toNat_natCast]; exact ints_get hkk)) Ev_const_int op_add)
        (Ev_bin Ev_const_int (Ev_item (k := (j % ms.length : Nat)) (d := .int (ms.getD (j % ms.length) 0)) (Ev_fname rfl (by decide) c3 c4 (d := .list (ms.map .int)) (by repeat (first | exact Rho.set_self | assumption | refine (Rho.set_ne (by decide)).trans ?_))).evL
          ((Ev_bin (Ev_cname (d := .int (j : Nat)) rfl ((if_neg (by decide)).trans (if_pos rfl))) (Ev_len (glob_vc rfl (.inr P.len)) (Ev_fname rfl (by decide) c3 c4 (d := .list (ms.map .int)) (by repeat (first | exact Rho.set_self | assumption | refine (Rho.set_ne (by decide)).trans ?_))).evL (by unfold Small; rw [List.length_map]; omega)) (op_mod (by rw [List.length_map]; omega))).as (by rw [List.length_map, Int.fmod_eq_emod_of_nonneg _ (by omega)]; rfl))
          (by omega) (by omega) (by rw [Int.toNat_natCast]; exact ints_get hmm)) (op_mul (mulOk 64 64 (by decide) (by omega)))) op_add
    have hlast : (octR fg ms row).getD (row.length - 1) 0 = octF fg ms row (row.length - 1) := by
      have : row.length - 1 < row.length := by omega
      simp [octR, List.getD, this]
    refine Tr_cons (Tr_setitem_neg (ad := ad) (ds := (octs fg ms (rows.take i)).map .int ++ (octR fg ms row).map .int) (k := -1) (d := .int (octF fg ms row (row.length - 1) - 64)) (by repeat (first | exact Rho.set_self | assumption | refine (Rho.set_ne (by decide)).trans ?_)) (hhas _ (by first | exact .inl rfl | exact .inr rfl))
      (fun B => Ev_bin (Ev_item_neg (ds := (octs fg ms (rows.take i)).map .int ++ (octR fg ms row).map .int) (k := -1) (EvL_own (ad := ad) (by repeat (first | exact Rho.set_self | assumption | refine (Rho.set_ne (by decide)).trans ?_)) (hhas _ (by first | exact .inl rfl | exact .inr rfl))) (Ev_neg Ev_const_int) (by omega) (by rw [List.length_append, List.length_map, List.length_map, octR_len]; omega) (by omega) ?_) Ev_const_int op_sub) (fun B => Ev_neg Ev_const_int) (by omega)
      (by rw [List.length_append, List.length_map, List.length_map, octR_len]; omega) (by omega) ?_)
    · rw [show ((-1 : Int) + (((octs fg ms (rows.take i)).map PyData.int ++ (octR fg ms row).map PyData.int).length : Nat)).toNat = ((octs fg ms (rows.take i)).map PyData.int).length + (row.length - 1) by rw [List.length_append, List.length_map, List.length_map, octR_len]; omega,
        List.getElem?_append_right (by omega), Nat.add_sub_cancel_left, ints_get (by rw [octR_len]; omega), hlast]
    refine Tr_nil ⟨(by repeat (first | exact Rho.set_self | assumption | refine (Rho.set_ne (by decide)).trans ?_)), (by repeat (first | exact Rho.set_self | assumption | refine (Rho.set_ne (by decide)).trans ?_)), (by repeat (first | exact Rho.set_self | assumption | refine (Rho.set_ne (by decide)).trans ?_)), ?_⟩
    refine Rho.set_self.trans ?_
    rw [show ((-1 : Int) + (((octs fg ms (rows.take i)).map PyData.int ++ (octR fg ms row).map PyData.int).length : Nat)).toNat = ((octs fg ms (rows.take i)).map PyData.int).length + (row.length - 1) by rw [List.length_append, List.length_map, List.length_map, octR_len]; omega,
        List.set_append_right _ _ (by omega), Nat.add_sub_cancel_left, ht, octs_snoc, List.map_append, octL, List.map_set]
  · obtain ⟨h1, h2, h3, h4⟩ := hj
    rw [List.length_map, List.take_length] at h4
    refine Tr_freeze h4 ?_
    refine Tr_cons (Tr_assign_iter (ds := (octs fg ms rows).map .int) (by first | exact (hkind _).trans rfl | exact hkind _) P.iter (fun B => Ev_name Rho.set_self (hhas _ (by first | exact .inl rfl | exact .inr rfl))) (hhas _ (by first | exact .inl rfl | exact .inr rfl)) (fun ad2 => ?_))
    obtain ⟨fa1, o1, fd1, q1, q2, q3⟩ := P.f1.get
    obtain ⟨c1, c2⟩ := cellsOf hkind hhas (x := "tape") rfl
    refine Tr_cons (Tr_return (EvX_comp_own (y := "tape") (ad := ad2) (mm := fun i => .itr ((octs fg ms rows).map .int) (octs fg ms (rows.take i)).length) (f := fun i => .int (worth fg (rows.getD i []))) (n := (rows.map rowD).length)
      (fun B => DSrc.ofSrc (Src_list (ds := rows.map rowD) (Ev_name (by repeat (first | exact Rho.set_self | assumption | refine (Rho.set_ne (by decide)).trans ?_)) (hhas _ (by first | exact .inl rfl | exact .inr rfl)))) rfl rfl) (by rw [Rho.set_self]; simp [octs]) rfl (by decide) (freeOf hkind hhas (by decide)) (by decide) (fun B i hi C g s rc => ?_) (by unfold Small; rw [List.length_map]; omega) ?_))
    · rw [List.length_map] at hi
      have hrow := hr _ (List.getElem_mem hi)
      have hg : rows[i]? = some rows[i] := List.getElem?_eq_getElem hi
      have hgd : rows.getD i [] = rows[i] := by simp [List.getD, hi]
      rw [hgd]
      generalize rows[i] = row at hrow hg
      have ht : rows.take (i + 1) = rows.take i ++ [row] := by rw [List.take_add_one, hg]; rfl
      rw [ht, octs_snoc, List.length_append, octL_len, ← valF_worth]
      have C := parse_varint_ok P (ds := (octs fg ms rows).map .int) (i := (octs fg ms (rows.take i)).length) (fs := row.map fun k => fg.getD k 0) (by simpa using hrow.1) (fun f hf' => by obtain ⟨k, _, rfl⟩ := List.mem_map.mp hf'; exact hf k) (by rw [List.length_map]; exact hrow.2.1) (octs_Octs hf hg)
      rw [List.length_map] at C
      exact elt_fn rfl rfl q1 q2 q3 rfl (by decide) c1 c2 Rho.set_self C (by omega) rc
    · show PyData.list _ = _
      rw [List.length_map]
      congr 1
      apply List.ext_getElem
      · simp
      · intro i h1 h2
        simp at h1
        simp [List.getD, h1]
end Mine
namespace Mine
open PySem PySem.W PyProof.Rows PySem.Calls
variable {W : Wld}

theorem rowD_eqv : ∀ a b : List Nat, PyData.eqv (rowD a) (rowD b) = decide (a = b) := by
  intro a
  show ∀ b : List Nat, PyData.eqvAll (a.map fun k => PyData.int (k : Nat)) (b.map fun k => PyData.int (k : Nat)) = decide (a = b)
  induction a with
  | nil => intro b; cases b <;> simp [PyData.eqvAll]
  | cons x a ih =>
    intro b
    cases b with
    | nil => simp [PyData.eqvAll]
    | cons y b =>
      simp only [List.map_cons, PyData.eqvAll, PyData.eqv, ih]
      rw [Bool.eq_iff_iff]
      simp only [Bool.and_eq_true, decide_eq_true_eq, beq_iff_eq, List.cons.injEq]
      constructor
      · rintro ⟨h, h2⟩; exact ⟨by omega, h2⟩
      · rintro ⟨h, h2⟩; exact ⟨by omega, h2⟩
theorem slc_map {α β : Type} {f : α → β} {lo hi : Option Int} {l : List α} : slc lo hi (l.map f) = (slc lo hi l).map f := by simp [slc, List.map_take, List.map_drop]
theorem slc_len_le {α : Type} {lo hi : Option Int} {l : List α} : (slc lo hi l).length ≤ l.length := by simp [slc]; omega
theorem flat_rowD {n : Nat} (row : List Nat) : flat (n + 1) (rowD row) = true := by simp [flat]

/-- the least kind from k on whose word is not met -/
def firstFree (met : List (List Nat)) (w : List Nat) : Nat → Nat → Nat
  | 0, k => k
  | n + 1, k => if met.contains (w ++ [k]) then firstFree met w n (k + 1) else k
def handW (width : Nat) (laid : List Nat) : List Nat := slc (some (1 - (width : Int))) none laid
def handSt (kinds width : Nat) : Nat → List Nat × List (List Nat)
  | 0 => (List.replicate width (kinds - 1), [])
  | n + 1 =>
    let st := handSt kinds width n
    let w := handW width st.1
    let k := firstFree st.2 w kinds 0
    (st.1 ++ [k], st.2 ++ [w ++ [k]])
def hand (kinds width : Nat) : List Nat := slc (some (width : Int)) none (handSt kinds width (kinds ^ width)).1
/-- no turn fails to find a kind -/
def handOk (kinds width : Nat) : Bool := (List.range (kinds ^ width)).all fun n =>
  let st := handSt kinds width n
  let w := handW width st.1
  !st.2.contains (w ++ [firstFree st.2 w kinds 0])

theorem EvF.as {V : Vw W} {e : Expr} {ds ds' : List PyData} (h : EvF V e ds) (q : ds = ds') : EvF V e ds' := q ▸ h
theorem flat_rep {α : Type} (x : α) : ∀ n : Nat, (List.replicate n [x]).flatten = List.replicate n x
  | 0 => rfl
  | n + 1 => by rw [List.replicate_succ, List.replicate_succ, List.flatten_cons, flat_rep x n]; rfl
theorem handSt_len {kinds width n : Nat} : (handSt kinds width n).1.length = width + n ∧ (handSt kinds width n).2.length = n := by
  induction n with
  | zero => simp [handSt]
  | succ n ih => simp [handSt, ih]; omega

theorem law_hand_ok (P : Prg W) {kinds width : Nat} (hk1 : 1 ≤ kinds) (hk2 : kinds ≤ 4) (hw1 : 1 ≤ width) (hw2 : width ≤ 4) (hok : handOk kinds width = true) : FnPure W "_law_hand" 1 [.int kinds, .int width] (rowD (hand kinds width)) := by
  have hsz := sizeLine_eq
  obtain ⟨fa, o, fd, F⟩ := P.f11
  refine FnPure.of F (pn := ["kinds", "width"]) (F.binds binds11) (fun a hak hkind hhas hsc => ?_)
  generalize hρ : (fun y => List.lookup y ((["kinds", "width"] : List Str).zip ([PyData.int kinds, .int width].map Slot.val))) = ρ0
  have e1 : ρ0 "kinds" = some (.val (.int kinds)) := by rw [← hρ]; rfl
  have e2 : ρ0 "width" = some (.val (.int width)) := by rw [← hρ]; rfl
  clear hρ
  have hpow : kinds ^ width ≤ 256 := by
    have h1 := Nat.pow_le_pow_left hk2 width
    have h2 := Nat.pow_le_pow_right (n := 4) (by decide) hw2
    exact Nat.le_trans h1 h2
  refine Tr_cons (Tr_assign_own (ds := (List.replicate width (kinds - 1)).map fun k => .int (k : Nat)) (fun B => ?_) (fun ad => ?_) (hhas _ (by first | exact .inl rfl | exact .inr rfl)))
  · refine (EvF_mul (V := a.vw ρ0 B) (EvF_List (EvAll_cons ((Ev_bin (Ev_name e1 (hhas _ (by first | exact .inl rfl | exact .inr rfl))) Ev_const_int op_sub).as (d' := .int ((kinds - 1 : Nat) : Int)) (by rw [Int.ofNat_sub hk1]; rfl)) EvAll_nil) (by show 1 ≤ sizeLine; omega)).ev.evL (Ev_name e2 (hhas _ (by first | exact .inl rfl | exact .inr rfl))) (by omega) (by omega) (by show 1 * (width : Int).toNat ≤ 2 ^ 24; omega)).as ?_
    rw [Int.toNat_natCast, List.map_replicate]
    exact flat_rep _ _
  refine Tr_cons (Tr_assign_own (ds := []) (fun B => EvF_List EvAll_nil (by unfold Small; simp)) (fun ad2 => ?_) (hhas _ (by first | exact .inl rfl | exact .inr rfl)))
  refine Tr_cons (Tr_for (n := kinds ^ width) (fun B => Src_range1 (b := (kinds ^ width : Nat)) ⟨(by first | exact (hkind _).trans rfl | exact hkind _), .inr P.range⟩ ((Ev_bin (Ev_name (d := .int kinds) (by repeat (first | exact Rho.set_self | assumption | refine (Rho.set_ne (by decide)).trans ?_)) (hhas _ (by first | exact .inl rfl | exact .inr rfl))) (Ev_name (d := .int width) (by repeat (first | exact Rho.set_self | assumption | refine (Rho.set_ne (by decide)).trans ?_)) (hhas _ (by first | exact .inl rfl | exact .inr rfl))) (op_pow (by omega) ?_)).as ?_) (.inl rfl) (by omega) (by omega)) (hhas _ (by first | exact .inl rfl | exact .inr rfl))
    (fun i ρ => ρ "kinds" = some (.val (.int kinds)) ∧ ρ "width" = some (.val (.int width)) ∧ ρ "laid" = some (.own ad (.lst ((handSt kinds width i).1.map fun k => .int (k : Nat)))) ∧ ρ "met" = some (.own ad2 (.lst ((handSt kinds width i).2.map rowD))))
    ⟨(by repeat (first | exact Rho.set_self | assumption | refine (Rho.set_ne (by decide)).trans ?_)), (by repeat (first | exact Rho.set_self | assumption | refine (Rho.set_ne (by decide)).trans ?_)), (by repeat (first | exact Rho.set_self | assumption | refine (Rho.set_ne (by decide)).trans ?_)), (by repeat (first | exact Rho.set_self | assumption | refine (Rho.set_ne (by decide)).trans ?_))⟩ (fun i ρ hi hj => ?_) fun ρ hj => ?_)
  · have : Builtin.Int.intBits (kinds : Int) ≤ 3 := intBits_le_iff.mpr (by rw [Int.natAbs_natCast]; omega)
    have : Builtin.Int.intBits (kinds : Int) * width ≤ 3 * 4 := Nat.mul_le_mul this hw2
    have : ((Builtin.Int.intBits (kinds : Int) * width : Nat) : Int) ≤ 12 := by omega
    rw [Int.natCast_mul] at this
    omega
  · rw [Int.toNat_natCast, Int.natCast_pow]
  · obtain ⟨h1, h2, h3, h4⟩ := hj
    have hl := handSt_len (kinds := kinds) (width := width) (n := i)
    have hok := List.all_eq_true.mp hok i (List.mem_range.mpr hi)
    simp only [Bool.not_eq_true'] at hok
    have est : handSt kinds width (i + 1) = ((handSt kinds width i).1 ++ [firstFree (handSt kinds width i).2 (handW width (handSt kinds width i).1) kinds 0], (handSt kinds width i).2 ++ [handW width (handSt kinds width i).1 ++ [firstFree (handSt kinds width i).2 (handW width (handSt kinds width i).1) kinds 0]]) := rfl
    generalize handSt kinds width i = st at h3 h4 hl hok est
    obtain ⟨laid, met⟩ := st
    simp only at h3 h4 hl hok est
    have hwl : (handW width laid).length ≤ laid.length := slc_len_le
    -- the word that is looked for
    have word : ∀ (ρ : Rho) (B : Frz) (k : Nat) (p1 p2 p3 p4 p5 p6 p7 p8 p9 : Pos) (n1 : Nat), ρ "width" = some (.val (.int width)) → ρ "laid" = some (.own ad (.lst (laid.map fun k => .int (k : Nat)))) → ρ "kind" = some (.val (.int k)) →
        Ev (a.vw ρ B) (.BinOp (.Subscript (.Name "laid" p1) (.Slice (some (.BinOp (.Constant (.int 1) n1 p2) .Sub (.Name "width" p3) p4)) none none p5) p6)   .Add (.List [.Name "kind" p7] p8) p9) (rowD (handW width laid ++ [k])) := by
      intro ρ B k p1 p2 p3 p4 p5 p6 p7 p8 p9 n1 h1 h2 h3
      have := (EvF_add (V := a.vw ρ B) (p := p9) (EvF_slice (p := p6) (p' := p5) (EvL_own (p := p1) h2 (hhas _ (by first | exact .inl rfl | exact .inr rfl))) (.some (Ev_bin (p := p4) (Ev_const_int (i := 1) (k := n1) (p := p2)) (Ev_name (p := p3) h1 (hhas _ (by first | exact .inl rfl | exact .inr rfl))) op_sub)) .none (by unfold Small; rw [List.length_map]; omega)).ev.evL
        (EvF_List (p := p8) (EvAll_cons (Ev_name (p := p7) h3 (hhas _ (by first | exact .inl rfl | exact .inr rfl))) EvAll_nil) (by show 1 ≤ sizeLine; omega)).ev.evL (by
          unfold Small; rw [slc_map, List.length_map]
          have : (slc (some (1 - (width : Int))) none laid).length ≤ laid.length := slc_len_le
          show _ + 1 ≤ sizeLine
          omega)).ev
      rw [slc_map] at this
      unfold rowD handW
      rw [List.map_append]
      exact this
    refine Tr_cons (Tr_assign (EvX_pure (d := .int (0 : Nat)) (fun B => Ev_const_int) ?_) (hhas _ (by first | exact .inl rfl | exact .inr rfl)))
    refine Tr_cons (Tr_while (fun n ρ => ∃ k : Nat, firstFree met (handW width laid) n k = firstFree met (handW width laid) kinds 0 ∧ ρ "kinds" = some (.val (.int kinds)) ∧ ρ "width" = some (.val (.int width)) ∧ ρ "laid" = some (.own ad (.lst (laid.map fun k => .int (k : Nat)))) ∧ ρ "met" = some (.own ad2 (.lst (met.map rowD))) ∧ ρ "kind" = some (.val (.int k)))
      (n₀ := kinds) ⟨0, rfl, (by repeat (first | exact Rho.set_self | assumption | refine (Rho.set_ne (by decide)).trans ?_)), (by repeat (first | exact Rho.set_self | assumption | refine (Rho.set_ne (by decide)).trans ?_)), (by repeat (first | exact Rho.set_self | assumption | refine (Rho.set_ne (by decide)).trans ?_)), (by repeat (first | exact Rho.set_self | assumption | refine (Rho.set_ne (by decide)).trans ?_)), (by repeat (first | exact Rho.set_self | assumption | refine (Rho.set_ne (by decide)).trans ?_))⟩ ?_)
    rintro n ρ ⟨k, hk, h1, h2, h3, h4, h5⟩
    have hany : ((met.map rowD).any fun y => PyData.eqv y (rowD (handW width laid ++ [k]))) = met.contains (handW width laid ++ [k]) := by
      rw [List.any_map, Bool.eq_iff_iff, List.any_eq_true, List.contains_iff_mem]
      constructor
      · rintro ⟨x, hx, q⟩
        have q : PyData.eqv (rowD x) (rowD (handW width laid ++ [k])) = true := q
        rw [rowD_eqv] at q
        rw [← of_decide_eq_true q]; exact hx
      · intro hx
        refine ⟨_, hx, ?_⟩
        show PyData.eqv (rowD _) (rowD _) = true
        rw [rowD_eqv]; exact decide_eq_true rfl
    refine ⟨_, fun B => Ts_in (word ρ B k _ _ _ _ _ _ _ _ _ _ h2 h3 h5) (EvL_own h4 (hhas _ (by first | exact .inl rfl | exact .inr rfl))) (flat_rowD (n := 7) _) (fun e he => by obtain ⟨r, _, rfl⟩ := List.mem_map.mp he; exact flat_rowD (n := 7) _), fun hb => ?_, fun hb => ?_⟩
    · rw [hany] at hb
      cases n with
      | zero => rw [← hk] at hok; simp only [firstFree] at hok; rw [hb] at hok; cases hok
      | succ n =>
        simp only [firstFree, hb, if_true] at hk
        refine Tr_cons (Tr_assign (EvX_pure (d := .int ((k + 1 : Nat) : Int)) (fun B => (Ev_bin (Ev_name h5 (hhas _ (by first | exact .inl rfl | exact .inr rfl))) Ev_const_int op_add).as (by push_cast; rfl)) ?_) (hhas _ (by first | exact .inl rfl | exact .inr rfl)))
        exact Tr_nil ⟨n, by omega, k + 1, hk, (by repeat (first | exact Rho.set_self | assumption | refine (Rho.set_ne (by decide)).trans ?_)), (by repeat (first | exact Rho.set_self | assumption | refine (Rho.set_ne (by decide)).trans ?_)), (by repeat (first | exact Rho.set_self | assumption | refine (Rho.set_ne (by decide)).trans ?_)), (by repeat (first | exact Rho.set_self | assumption | refine (Rho.set_ne (by decide)).trans ?_)), (by repeat (first | exact Rho.set_self | assumption | refine (Rho.set_ne (by decide)).trans ?_))⟩
    · rw [hany] at hb
      have hkk : k = firstFree met (handW width laid) kinds 0 := by
        rw [← hk]
        cases n with
        | zero => rfl
        | succ n => unfold firstFree; rw [hb]; rfl
      rw [hkk] at h5
      clear hk hany hb
      generalize firstFree met (handW width laid) kinds 0 = kk at h5 est
      rw [est]
      refine Tr_cons (Tr_expr (EvX_append (ad := ad2) (ds0 := met.map rowD) h4 (hhas _ (by first | exact .inl rfl | exact .inr rfl)) (EvX_pure (d := rowD (handW width laid ++ [kk])) (fun B => word ρ B kk _ _ _ _ _ _ _ _ _ _ h2 h3 h5) ⟨met.map rowD, h4, by unfold Small; rw [List.length_map]; omega, ?_⟩)) not_interactive)
      refine Tr_cons (Tr_expr (EvX_append (ad := ad) (ds0 := laid.map fun k => .int (k : Nat)) (by repeat (first | exact Rho.set_self | assumption | refine (Rho.set_ne (by decide)).trans ?_)) (hhas _ (by first | exact .inl rfl | exact .inr rfl)) (EvX_pure (d := .int (kk : Nat)) (fun B => Ev_name (by repeat (first | exact Rho.set_self | assumption | refine (Rho.set_ne (by decide)).trans ?_)) (hhas _ (by first | exact .inl rfl | exact .inr rfl))) ⟨laid.map fun k => .int (k : Nat), (by repeat (first | exact Rho.set_self | assumption | refine (Rho.set_ne (by decide)).trans ?_)), by unfold Small; rw [List.length_map]; omega, ?_⟩)) not_interactive)
      refine Tr_nil ⟨(by repeat (first | exact Rho.set_self | assumption | refine (Rho.set_ne (by decide)).trans ?_)), (by repeat (first | exact Rho.set_self | assumption | refine (Rho.set_ne (by decide)).trans ?_)), ?_, ?_⟩
      · rw [List.map_append]; exact (by repeat (first | exact Rho.set_self | assumption | refine (Rho.set_ne (by decide)).trans ?_))
      · rw [List.map_append]; exact (by repeat (first | exact Rho.set_self | assumption | refine (Rho.set_ne (by decide)).trans ?_))
  · obtain ⟨h1, h2, h3, h4⟩ := hj
    have hl := handSt_len (kinds := kinds) (width := width) (n := kinds ^ width)
    refine Tr_cons (Tr_return (EvX_pure (d := rowD (hand kinds width)) (fun B => ?_) rfl))
    exact ((EvF_slice (V := a.vw ρ B) (EvL_own h3 (hhas _ (by first | exact .inl rfl | exact .inr rfl))) (.some (Ev_name h2 (hhas _ (by first | exact .inl rfl | exact .inr rfl)))) .none (by unfold Small; rw [List.length_map]; omega)).as slc_map).ev
end Mine
namespace Mine
open PySem PySem.W PyProof.Rows PySem.Calls
variable {W : Wld}

section
variable {prog : Program} {w : World} {A : Around} {R : Result → Shared → Prop} {s : Shared} {elt target iter target2 iter2 : Expr} {scope : Scope} {pos : Pos} {it acc : Value} {env : Env}
theorem comp2_start
    (h0 : codeAny (model prog w) A (.compLoop (.ListComp elt [⟨target, iter, [], 0⟩, ⟨target2, iter2, [], 0⟩] scope pos) 1 it acc env) R s)
    (h : wpAny (model prog w) A (pyIter it) (fun it' s' => codeAny (model prog w) A (.compLoop (.ListComp elt [⟨target, iter, [], 0⟩, ⟨target2, iter2, [], 0⟩] scope pos) 1 it' acc env) R s')
      (notedBy (model prog w) A env fun x s' => R (.error x) s') s) :
    codeAny (model prog w) A (.compStart (.ListComp elt [⟨target, iter, [], 0⟩, ⟨target2, iter2, [], 0⟩] scope pos) 1 it acc env) R s := by
  refine codeAny_of_tree ?_
  show wpAny _ _ ((compStart (.ListComp elt [⟨target, iter, [], 0⟩, ⟨target2, iter2, [], 0⟩] scope pos) 1 it acc env).onRaise (fun x => do noteFrame x env; standAt theWindowsPlace)) _ _ s
  refine wpAny_notedAt ?_
  unfold compStart
  show wpAny _ _ (ask >>= _) _ _ s
  refine wpAny_bind (wpAny_askSetting (wpAny_ite ?_))
  split
  · first
      | exact wpAny_bind (wpAny_pure (wpAny_pure (And.intro rfl h0)))
      | exact wpAny_pure (And.intro rfl h0)
  · first
      | exact wpAny_bind (wpAny_rule (wpAny_bind (wpAny_standAt (wpAny_bind (wpAny_mono h (fun it' s' h' => wpAny_pure (And.intro rfl h')) fun _ _ x => x)))))
      | (refine wpAny_bind (wpAny_rule ?_); show wpAny _ _ (standAt iter2.pos >>= _) _ _ s; exact wpAny_bind (wpAny_standAt (wpAny_bind (wpAny_mono h (fun it' s' h' => wpAny_pure (And.intro rfl h')) fun _ _ x => x))))

theorem comp2_turn1 : compTurn (.ListComp elt [⟨target, iter, [], 0⟩, ⟨target2, iter2, [], 0⟩] scope pos) 1 it acc env = (standAt iter2.pos >>= fun _ => pyNext it >>= fun r => match r with
      | none => pure (.done .next)
      | some v => letOwnedTupleGo target2 it v >>= fun _ => assign target2 env v >>= fun _ =>
        (eval elt env >>= fun x => call (.builtin "list.append") [acc, x] >>= fun _ => pure ()) >>= fun _ =>
          again (.compLoop (.ListComp elt [⟨target, iter, [], 0⟩, ⟨target2, iter2, [], 0⟩] scope pos) 1 it acc env)) := by rfl
theorem comp2_turn0 : compTurn (.ListComp elt [⟨target, iter, [], 0⟩, ⟨target2, iter2, [], 0⟩] scope pos) 0 it acc env = (standAt iter.pos >>= fun _ => pyNext it >>= fun r => match r with
      | none => pure (.done .next)
      | some v => letOwnedTupleGo target it v >>= fun _ => assign target env v >>= fun _ =>
        (eval iter2 env >>= fun x => standAt iter2.pos >>= fun _ => foldedSetIterable iter2 env x >>= fun x => holding [x] (pyIter x) >>= fun i2 => runOwn (.compStart (.ListComp elt [⟨target, iter, [], 0⟩, ⟨target2, iter2, [], 0⟩] scope pos) 1 i2 acc env) env >>= fun _ =>
          again (.compLoop (.ListComp elt [⟨target, iter, [], 0⟩, ⟨target2, iter2, [], 0⟩] scope pos) 0 it acc env))) := by rfl

theorem comp2_inner (I : Nat → Shared → Prop)
    (turn : ∀ n s, I n s → wpAny (model prog w) A (pyNext it) (fun r s₁ => match r with
      | none => R (.ok .next) s₁
      | some v => wpAny (model prog w) A (letOwnedTupleGo target2 it v) (fun _ s₁ => wpAny (model prog w) A (assign target2 env v) (fun _ s₂ => wpAny (model prog w) A (eval elt env) (fun x s₃ =>
          wpAny (model prog w) A (call (.builtin "list.append") [acc, x]) (fun _ s₄ => ∃ m, m < n ∧ I m s₄) noE s₃) noE s₂) noE s₁) noE s₁) noE s)
    (n : Nat) (h : I n s) :
    codeAny (model prog w) A (.compLoop (.ListComp elt [⟨target, iter, [], 0⟩, ⟨target2, iter2, [], 0⟩] scope pos) 1 it acc env) R s := by
  refine codeAny_loop rfl I (fun n s hI => ?_) n h
  show wpAny _ A ((compTurn (.ListComp elt [⟨target, iter, [], 0⟩, ⟨target2, iter2, [], 0⟩] scope pos) 1 it acc env).onRaise (fun x => do noteFrame x env; theTreesLotGoes x)) _ _ s
  refine wpAny_noted ?_
  rw [comp2_turn1]
  refine wpAny_bind (wpAny_standAt (wpAny_bind (wpAny_mono (turn n s hI) (fun r s₁ h₁ => ?_) fun _ _ h' => h'.elim)))
  cases r with
  | none => exact wpAny_pure h₁
  | some v =>
    refine wpAny_bind (wpAny_mono h₁ (fun _ s₁ h₁ => ?_) fun _ _ h' => h'.elim)
    exact wpAny_bind (wpAny_mono h₁ (fun _ s₂ h₂ => wpAny_bind (wpAny_bind (wpAny_mono h₂ (fun x s₃ h₃ => wpAny_bind (wpAny_mono h₃
      (fun _ s₄ h₄ => wpAny_pure (wpAny_pure ⟨rfl, h₄⟩)) fun _ _ h' => h'.elim)) fun _ _ h' => h'.elim))) fun _ _ h' => h'.elim)

theorem comp2_outer (I : Nat → Shared → Prop)
    (turn : ∀ n s, I n s → wpAny (model prog w) A (pyNext it) (fun r s₁ => match r with
      | none => R (.ok .next) s₁
      | some v => wpAny (model prog w) A (letOwnedTupleGo target it v) (fun _ s₁ => wpAny (model prog w) A (assign target env v) (fun _ s₂ => wpAny (model prog w) A (eval iter2 env) (fun xv s₃ =>
          wpAny (model prog w) A (pyIter xv) (fun it2 s₄ => codeAny (model prog w) A (.compStart (.ListComp elt [⟨target, iter, [], 0⟩, ⟨target2, iter2, [], 0⟩] scope pos) 1 it2 acc env) (fun r s₅ => r = .ok .next ∧ ∃ m, m < n ∧ I m s₅) s₄) noE s₃) noE s₂) noE s₁) noE s₁) noE s)
    (hs2 : ∀ x, foldedSetIterable iter2 env x = pure x)
    (n : Nat) (h : I n s) :
    codeAny (model prog w) A (.compLoop (.ListComp elt [⟨target, iter, [], 0⟩, ⟨target2, iter2, [], 0⟩] scope pos) 0 it acc env) R s := by
  refine codeAny_loop rfl I (fun n s hI => ?_) n h
  show wpAny _ A ((compTurn (.ListComp elt [⟨target, iter, [], 0⟩, ⟨target2, iter2, [], 0⟩] scope pos) 0 it acc env).onRaise (fun x => do noteFrame x env; theTreesLotGoes x)) _ _ s
  refine wpAny_noted ?_
  rw [comp2_turn0]
  refine wpAny_bind (wpAny_standAt (wpAny_bind (wpAny_mono (turn n s hI) (fun r s₁ h₁ => ?_) fun _ _ h' => h'.elim)))
  cases r with
  | none => exact wpAny_pure h₁
  | some v =>
    refine wpAny_bind (wpAny_mono h₁ (fun _ s₁ h₁ => ?_) fun _ _ h' => h'.elim)
    refine wpAny_bind (wpAny_mono h₁ (fun _ s₂ h₂ => wpAny_bind (wpAny_mono h₂ (fun xv s₃ h₃ => wpAny_bind (wpAny_standAt ?_)) fun _ _ h' => h'.elim)) fun _ _ h' => h'.elim)
    refine wpAny_bind (wpAny_of_eq (hs2 xv) ?_)
    refine wpAny_bind (wpAny_holding (wpAny_mono h₃ (fun it2 s₄ h₄ => wpAny_bind (wpAny_runOwn (codeAny_mono h₄ (fun r s₅ h₅ => ?_)))) fun _ _ h' => h'.elim))
    obtain ⟨rfl, hm⟩ := h₅
    exact wpAny_pure ⟨rfl, hm⟩
end
end Mine
namespace Mine
open PySem PySem.W PyProof.Rows PySem.Calls
variable {W : Wld}

/-- what two nested generators make -/
def made2 (f : Nat → Nat → PyData) (n mi : Nat) : List PyData := (List.range n).flatMap fun i => (List.range mi).map (f i)
theorem made2_succ {f : Nat → Nat → PyData} {n mi : Nat} : made2 f (n + 1) mi = made2 f n mi ++ (List.range mi).map (f n) := by unfold made2; rw [List.range_succ, List.flatMap_append]; simp
theorem made2_len {f : Nat → Nat → PyData} {n mi : Nat} : (made2 f n mi).length = n * mi := by
  induction n with
  | zero => simp [made2]
  | succ n ih => rw [made2_succ, List.length_append, ih, List.length_map, List.length_range, Nat.add_mul]; omega
section
variable {a : Act W} {ρ : Rho} {B : Frz} {sc : Scope} {Q : FlowD → Rho → Prop}
theorem comp_core2 {elt target iter iter2 : Expr} {x2 : Str} {p2 : Pos} {pos : Pos} {g2 : Frz} {s2 : Shared} {I : Addr} {fp pv : List Addr} {n : Nat} {κ : Nat → Str → Option PyData} {St : Nat → Heap → Prop} (hk : sc.kind = .function) (hcell : ∀ y ∈ sc.names, y.2 ≠ .cell)
    (Dr : ∀ C, Drw W a.A (compEnvC sc (clOf sc a.env) C a.env) target (.ref I) g2 fp pv n κ St) (hst : St 0 s2.heap) (r2 : Rel a ρ B g2 s2) (O : Off a ρ B pv) (hgp : ∀ z ∈ pv, g2 z = none) (hfp : ∀ b ∈ fp, b < s2.heap.objs.size)
    (hself : ∀ (s : Shared) (Q : Value → Shared → Prop) (E : Value → Shared → Prop), St 0 s.heap → Q (.ref I) s → wpAny (model W.prog W.w) a.A (pyIter (.ref I)) Q E s)
    {mi : Nat} {D2 : Nat → Nat → PyData} {f : Nat → Nat → PyData} (hx2 : sc.names.lookup x2 = some .local) (src2 : ∀ i, i < n → ∀ C, Src (a.vc ρ B sc C (κ i) hk) iter2 mi (D2 i)) (hs2 : ∀ env x, foldedSetIterable iter2 env x = pure x)
    (elts : ∀ i j, i < n → j < mi → ∀ C, Ev (a.vc ρ B sc C (fun y => if y = x2 then some (D2 i j) else κ i y) hk) elt (f i j)) (hsz : Small (n * mi))
    {RR : Value → Addr → Result → Shared → Prop}
    (hRR : ∀ D0 C s' g' vs ep m, s2.heap.get? D0 = none → s2.heap.get? C = none → D0 ≠ C → s'.heap.Ns C m → s'.heap.get? D0 = some (lstO vs ep) → DenAll g' vs (made2 f n mi) → Rel a ρ B g' s' → (∃ h tk, s' = { s2 with heap := h, toks := tk }) → Le g2 g' →
      (∀ b o, s2.heap.get? b = some o → g' b = g2 b) → (∀ b o, b ∉ pv → s2.heap.get? b = some o → s'.heap.get? b = some o) → g' D0 = none → g' C = none → RR (.ref D0) C (.ok .next) s') :
    wpAny (model W.prog W.w) a.A (newList []) (fun acc s3 => wpAny (model W.prog W.w) a.A (newFunctionEnv sc a.env.globals (clOf sc a.env) [] a.env.qual none .none (some a.env)) (fun cenv s4 =>
      codeAny (model W.prog W.w) a.A (.compStart (.ListComp elt [⟨target, iter, [], 0⟩, ⟨.Name x2 p2, iter2, [], 0⟩] sc pos) 0 (.ref I) acc { cenv with scope := relabel sc a.env }) (RR acc cenv.locals) s4) noE s3) noE s2 := by
  refine wpAny_newObj_type (wpAny_newFunctionEnv hcell (by intro y hy; simp at hy) (fun h₁ hns₁ hsb₁ => ?_) hk)
  dsimp only at hns₁ hsb₁ ⊢
  generalize hH2 : s2.heap.push { cls := .type "list", dict := none, data := .seq ([] : List Value).toArray } = H2 at hns₁ hsb₁ ⊢
  have hC : H2.objs.size = s2.heap.objs.size + 1 := by rw [← hH2, Heap.size_push]
  have hDC : s2.heap.objs.size ≠ H2.objs.size := by rw [hC]; exact Nat.ne_of_lt (Nat.lt_succ_self _)
  have below : ∀ b, b < s2.heap.objs.size → b ≠ H2.objs.size ∧ b ≠ s2.heap.objs.size := fun b hb => ⟨by rw [hC]; exact Nat.ne_of_lt (Nat.lt_succ_of_lt hb), Nat.ne_of_lt hb⟩
  have hDf : s2.heap.objs.size ∉ fp := fun hm => Nat.lt_irrefl _ (hfp _ hm)
  have hCf : H2.objs.size ∉ fp := fun hm => by have := hfp _ hm; rw [hC] at this; exact Nat.lt_irrefl _ (Nat.lt_of_succ_lt this)
  have old : ∀ b o, s2.heap.get? b = some o → h₁.get? b = some o := fun b o e => hsb₁.extBut b o (below b (Heap.lt_size e)).1 (Heap.get?_push_of_some _ (hH2 ▸ Heap.get?_push_of_some _ e))
  have hacc : h₁.get? s2.heap.objs.size = some (lstO [] 0) := hsb₁.extBut _ _ hDC (Heap.get?_push_of_some _ (hH2 ▸ Heap.get?_push_size _ rfl))
  have fresh : ∀ z, s2.heap.objs.size ≤ z → s2.heap.get? z = none := fun z hz => by
    cases e : s2.heap.get? z with
    | none => rfl
    | some o' => exact absurd (Heap.lt_size e) (Nat.not_lt.mpr hz)
  have hDn := fresh s2.heap.objs.size (Nat.le_refl _)
  have hCn := fresh H2.objs.size (by rw [hC]; exact Nat.le_succ _)
  have gno : ∀ z, s2.heap.get? z = none → g2 z = none := fun z hz => by
    cases e : g2 z with
    | none => rfl
    | some o => rw [r2.fz z o e] at hz; cases hz
  have hst₁ : St 0 h₁ := (Dr 0).frame _ _ _ hst fun b _ o e => old b o e
  have hpvl : ∀ i h, St i h → ∀ b ∈ pv, ∃ o, h.get? b = some o := (Dr 0).live
  have hDp : s2.heap.objs.size ∉ pv := fun hm => by obtain ⟨o, ho⟩ := hpvl 0 _ hst _ hm; rw [hDn] at ho; cases ho
  have hCp : H2.objs.size ∉ pv := fun hm => by obtain ⟨o, ho⟩ := hpvl 0 _ hst _ hm; rw [hCn] at ho; cases ho
  have O3 : Off a ρ B (s2.heap.objs.size :: H2.objs.size :: pv) := by
    have o2 := r2.off (pv := [s2.heap.objs.size, H2.objs.size]) (fun z hz => by
      rcases List.mem_cons.mp hz with rfl | hz
      · exact hDn
      · rw [List.mem_singleton.mp hz]; exact hCn)
    refine ⟨fun z hz => ?_, fun hz => ?_, fun x c hc hz => ?_, fun x ad m hx hz => ?_⟩
    · rcases List.mem_cons.mp hz with rfl | hz
      · exact o2.b _ (.head _)
      · rcases List.mem_cons.mp hz with rfl | hz
        · exact o2.b _ (.tail _ (.head _))
        · exact O.b z hz
    · rcases List.mem_cons.mp hz with e | hz
      · exact o2.l (by rw [e]; exact .head _)
      · rcases List.mem_cons.mp hz with e | hz
        · exact o2.l (by rw [e]; exact .tail _ (.head _))
        · exact O.l hz
    · rcases List.mem_cons.mp hz with e | hz
      · exact o2.c x c hc (by rw [e]; exact .head _)
      · rcases List.mem_cons.mp hz with e | hz
        · exact o2.c x c hc (by rw [e]; exact .tail _ (.head _))
        · exact O.c x c hc hz
    · rcases List.mem_cons.mp hz with e | hz
      · exact o2.o x ad m hx (by rw [e]; exact .head _)
      · rcases List.mem_cons.mp hz with e | hz
        · exact o2.o x ad m hx (by rw [e]; exact .tail _ (.head _))
        · exact O.o x ad m hx hz
  have hg3 : ∀ {g' : Frz}, (∀ b ∈ pv, g' b = none) → g' s2.heap.objs.size = none → g' H2.objs.size = none → ∀ z ∈ s2.heap.objs.size :: H2.objs.size :: pv, g' z = none := fun {g'} h1 h2 h3 z hz => by
    rcases List.mem_cons.mp hz with rfl | hz
    · exact h2
    · rcases List.mem_cons.mp hz with rfl | hz
      · exact h3
      · exact h1 z hz
  have rel₁ : Rel a ρ B g2 { s2 with heap := h₁, toks := s2.toks + ([] : List (Str × Value)).length } := r2.moved O3 (hg3 hgp (gno _ hDn) (gno _ hCn)) fun b o _ e => old b o e
  have loop : codeAny (model W.prog W.w) a.A (.compLoop (.ListComp elt [⟨target, iter, [], 0⟩, ⟨.Name x2 p2, iter2, [], 0⟩] sc pos) 0 (.ref I) (.ref s2.heap.objs.size) (compEnvC sc (clOf sc a.env) H2.objs.size a.env)) (RR (.ref s2.heap.objs.size) H2.objs.size)
      { s2 with heap := h₁, toks := s2.toks + ([] : List (Str × Value)).length } := by
    refine comp2_outer (fun k s' => ∃ i g' vs ep m, i ≤ n ∧ k = n + 1 - i ∧ St i s'.heap ∧ s'.heap.get? s2.heap.objs.size = some (lstO vs ep) ∧ DenAll g' vs (made2 f i mi) ∧ s'.heap.Ns H2.objs.size m ∧ Rel a ρ B g' s' ∧
      (∃ h tk, s' = { s2 with heap := h, toks := tk }) ∧ Le g2 g' ∧ (∀ b o, s2.heap.get? b = some o → g' b = g2 b) ∧ (∀ b o, b ∉ pv → s2.heap.get? b = some o → s'.heap.get? b = some o) ∧ g' s2.heap.objs.size = none ∧ g' H2.objs.size = none) ?_ (hs2 _) (n + 1)
      ⟨0, g2, [], 0, _, Nat.zero_le _, rfl, hst₁, hacc, .nil, hns₁, rel₁, ⟨_, _, rfl⟩, .refl, fun _ _ _ => rfl, fun b o _ e => old b o e, gno _ hDn, gno _ hCn⟩
    rintro k s' ⟨i, g', vs, ep, m, hi, rfl, hst', hl', hd', hn', r', same', hle', hold', hkeep', hgD, hgC⟩
    have hgpv : ∀ b ∈ pv, g' b = none := fun b hb => by
      obtain ⟨o, ho⟩ := hpvl 0 _ hst b hb
      rw [hold' b o ho]; exact hgp b hb
    by_cases hlt : i < n
    · refine wpAny_mono ((Dr H2.objs.size).next i s' g' m hlt hst' hn' r'.fz hle' hgpv hgC hCf) (fun r s1 h1 => ?_) fun _ _ e => e
      cases r with
      | none => exact h1.elim
      | some v =>
        refine wpAny_mono h1 (fun _ s1 h1 => wpAny_mono h1 (fun _ s4 h4 => ?_) fun _ _ e => e) fun _ _ e => e
        obtain ⟨⟨h4', t4, rfl⟩, hst4, hk4, m4, hn4, hb4⟩ := h4
        replace hn4 : h4'.Ns H2.objs.size m4 := hn4
        replace hst4 : St (i + 1) h4' := hst4
        have r4 : Rel a ρ B g' { s' with heap := h4', toks := t4 } := r'.moved O3 (hg3 hgpv hgD hgC) fun b o hb e =>
          hk4 b o (fun q => hb (.tail _ (.tail _ q))) (fun q => hb (by rw [q]; exact .tail _ (.head _))) e
        have hl4 : h4'.get? s2.heap.objs.size = some (lstO vs ep) := hk4 _ _ hDp hDC hl'
        have i4 : RelC a ρ B H2.objs.size (κ i) g' { s' with heap := h4', toks := t4 } := ⟨r4, m4, hn4, hb4⟩
        obtain ⟨h0, t0, e0⟩ := same'
        have hk04 : ∀ b o, b ∉ pv → s2.heap.get? b = some o → h4'.get? b = some o := fun b o hb e => hk4 b o hb (below b (Heap.lt_size e)).1 (hkeep' b o hb e)
        have lv : ∀ {b : Addr} {o : Obj}, s2.heap.get? b = some o → ∃ o', h4'.get? b = some o' := fun {b o} e => by
          by_cases hb : b ∈ pv
          · exact hpvl _ _ hst4 b hb
          · exact ⟨o, hk04 b o hb e⟩
        have lC := ns_live hn4
        -- the inner source
        refine wpAny_mono (src2 i hlt H2.objs.size g' _ i4) (fun xv s5 h5 => wpAny_mono h5 (fun it2 s6 h6 => ?_) fun _ _ e => e) fun _ _ e => e
        obtain ⟨g6, I2, fp2, wr2, Pv2, St2, rfl, x6, it2, hnew2⟩ := h6
        have W2 := it2.walks
        have X4 : Ext g' { s' with heap := h4', toks := t4 } g6 s6 := x6
        have lw : ∀ b ∈ wr2, h4'.get? b = none := hnew2
        have r6 : Rel a ρ B g6 s6 := r4.stable X4
        have hl6 : s6.heap.get? s2.heap.objs.size = some (lstO vs ep) := X4.keep _ _ hl4
        have hn6 : s6.heap.Ns H2.objs.size m4 := hn4.keeps X4.keep
        have off2 : ∀ {b : Addr}, (∃ o, h4'.get? b = some o) → b ∉ wr2 := fun {b} ⟨o, ho⟩ hb => by rw [lw b hb] at ho; cases ho
        have hDw : s2.heap.objs.size ∉ wr2 := off2 ⟨_, hl4⟩
        have hCw : H2.objs.size ∉ wr2 := off2 lC
        have O6 : Off a ρ B wr2 := r4.off lw
        have hgD6 : g6 s2.heap.objs.size = none := by rw [X4.old _ _ hl4]; exact hgD
        have hgC6 : g6 H2.objs.size = none := by obtain ⟨o, ho⟩ := lC; rw [X4.old _ _ ho]; exact hgC
        have hfp2 : ∀ b ∈ fp2, b ≠ s2.heap.objs.size ∧ b ≠ H2.objs.size := fun b hb => by
          rcases it2.fro b hb with h | ⟨o, h⟩
          · exact ⟨fun q => hDw (q ▸ h), fun q => hCw (q ▸ h)⟩
          · exact ⟨fun q => (by rw [q, hgD6] at h; cases h), fun q => (by rw [q, hgC6] at h; cases h)⟩
        have self2 : ∀ (s : Shared) (Q : Value → Shared → Prop) (E : Value → Shared → Prop), St2 0 s.heap → Q (.ref I2) s → wpAny (model W.prog W.w) a.A (pyIter (.ref I2)) Q E s := fun s Q E hst hq => W2.self 0 s Q E hst hq
        have inner : codeAny (model W.prog W.w) a.A (.compLoop (.ListComp elt [⟨target, iter, [], 0⟩, ⟨.Name x2 p2, iter2, [], 0⟩] sc pos) 1 (.ref I2) (.ref s2.heap.objs.size) (compEnvC sc (clOf sc a.env) H2.objs.size a.env))
            (fun r s₅ => r = .ok .next ∧ ∃ m, m < n + 1 - i ∧ ∃ i g' vs ep m', i ≤ n ∧ m = n + 1 - i ∧ St i s₅.heap ∧ s₅.heap.get? s2.heap.objs.size = some (lstO vs ep) ∧ DenAll g' vs (made2 f i mi) ∧ s₅.heap.Ns H2.objs.size m' ∧ Rel a ρ B g' s₅ ∧
              (∃ h tk, s₅ = { s2 with heap := h, toks := tk }) ∧ Le g2 g' ∧ (∀ b o, s2.heap.get? b = some o → g' b = g2 b) ∧ (∀ b o, b ∉ pv → s2.heap.get? b = some o → s₅.heap.get? b = some o) ∧ g' s2.heap.objs.size = none ∧ g' H2.objs.size = none) s6 := by
          refine comp2_inner (fun k s' => ∃ j g7 vs7 ep7 m7, j ≤ mi ∧ k = mi + 1 - j ∧ St2 j s'.heap ∧ s'.heap.get? s2.heap.objs.size = some (lstO vs7 ep7) ∧ DenAll g7 vs7 (made2 f i mi ++ (List.range j).map (f i)) ∧ s'.heap.Ns H2.objs.size m7 ∧ (∀ y d, y ≠ x2 → κ i y = some d → ∃ v, m7 y = some v ∧ Den g7 v d) ∧ Rel a ρ B g7 s' ∧
              (∃ h tk, s' = { s6 with heap := h, toks := tk }) ∧ Le g6 g7 ∧ (∀ b o, s6.heap.get? b = some o → g7 b = g6 b) ∧ (∀ b o, b ∉ wr2 → b ≠ s2.heap.objs.size → b ≠ H2.objs.size → s6.heap.get? b = some o → s'.heap.get? b = some o) ∧ g7 s2.heap.objs.size = none ∧ g7 H2.objs.size = none) ?_ (mi + 1)
            ⟨0, g6, vs, ep, m4, Nat.zero_le _, rfl, it2.st, hl6, by simpa using hd'.mono X4.le, hn6, fun y d _ hy => (let ⟨v, hv, hdv⟩ := hb4 y d hy; ⟨v, hv, hdv.mono X4.le⟩), r6, ⟨_, _, rfl⟩, .refl, fun _ _ _ => rfl, fun b o _ _ _ e => e, hgD6, hgC6⟩
          rintro k s7 ⟨j, g7, vs7, ep7, m7, hj, rfl, hst7, hl7, hd7, hn7, hb7, r7, ⟨h7, t7, rfl⟩, hle7, hold7, hkeep7, hgD7, hgC7⟩
          replace hst7 : St2 j h7 := hst7
          replace hl7 : h7.get? s2.heap.objs.size = some (lstO vs7 ep7) := hl7
          replace hn7 : h7.Ns H2.objs.size m7 := hn7
          have hgw7 : ∀ b ∈ wr2, g7 b = none := fun b hb => by
            obtain ⟨o, ho⟩ := it2.live 0 _ it2.st b hb
            rw [hold7 b o ho]; exact it2.off b hb
          by_cases hjl : j < mi
          · refine W2.item j _ _ _ hjl hst7 fun v h8 tk8 hv hst8 hk8 => ?_
            refine wpAny_pure ?_
            have hn8 : h8.Ns H2.objs.size m7 := hn7.at' fun o e => hk8 _ o hCw e
            refine wpAny_assign_Name (wpAny_storeName_local (env := compEnvC sc (clOf sc a.env) H2.objs.size a.env) (lookup_relabel_local hx2) hn8 (fun h9 hn9 hs9 => ?_) (by show (sc.kind == .class || (sc.kind == .module && _)) = false; rw [hk]; rfl))
            replace hs9 : Heap.SameBut H2.objs.size h8 h9 := hs9
            replace hn9 : h9.Ns H2.objs.size (fun y => if y = x2 then some v else m7 y) := hn9
            have O9 : Off a ρ B (H2.objs.size :: wr2) := ⟨fun z hz => by
                rcases List.mem_cons.mp hz with rfl | hz
                · exact O3.b _ (.tail _ (.head _))
                · exact O6.b z hz, fun hz => by
                rcases List.mem_cons.mp hz with e | hz
                · exact O3.l (by rw [e]; exact .tail _ (.head _))
                · exact O6.l hz, fun x c hc hz => by
                rcases List.mem_cons.mp hz with e | hz
                · exact O3.c x c hc (by rw [e]; exact .tail _ (.head _))
                · exact O6.c x c hc hz, fun x ad m hx hz => by
                rcases List.mem_cons.mp hz with e | hz
                · exact O3.o x ad m hx (by rw [e]; exact .tail _ (.head _))
                · exact O6.o x ad m hx hz⟩
            have keep9 : ∀ b o, b ∉ wr2 → b ≠ H2.objs.size → h7.get? b = some o → h9.get? b = some o := fun b o h1 h2 e => hs9.extBut b o h2 (hk8 b o h1 e)
            have r9 : ∀ tk, Rel a ρ B g7 { { s6 with heap := h7, toks := t7 } with heap := h9, toks := tk } := fun tk => r7.moved O9 (fun z hz => by
                rcases List.mem_cons.mp hz with rfl | hz
                · exact hgC7
                · exact hgw7 z hz) fun b o hb e => keep9 b o (fun q => hb (.tail _ q)) (fun q => hb (by rw [q]; exact .head _)) e
            have hst9 : St2 (j + 1) h9 := W2.frame _ _ _ hst8 fun b hb o e => hs9.extBut b o (hfp2 b hb).2 e
            have hl9 : h9.get? s2.heap.objs.size = some (lstO vs7 ep7) := keep9 _ _ hDw hDC hl7
            have hdv : Den g7 v (D2 i j) := it2.den j v g7 hle7 hjl hv
            have hb9 : ∀ y d, (if y = x2 then some (D2 i j) else κ i y) = some d → ∃ u, (if y = x2 then some v else m7 y) = some u ∧ Den g7 u d := fun y d hy => by
              by_cases q : y = x2
              · simp only [q, if_true] at hy ⊢
                cases hy; exact ⟨v, rfl, hdv⟩
              · simp only [q, if_false] at hy ⊢
                exact hb7 y d q hy
            refine wpAny_mono (elts i j hlt hjl H2.objs.size g7 _ ⟨r9 _, _, hn9, hb9⟩) (fun w s10 ⟨g10, x10, dw⟩ => ?_) fun _ _ e => e
            have r10 := (r9 _).stable x10
            have hl10 := x10.keep _ _ hl9
            have hmade : (made2 f i mi ++ (List.range j).map (f i)).length ≤ n * mi := by
              rw [List.length_append, made2_len, List.length_map, List.length_range]
              have : (i + 1) * mi ≤ n * mi := Nat.mul_le_mul_right _ hlt
              rw [Nat.add_mul] at this
              omega
            have hsmall : vs7.toArray.size ≤ sizeLine := by
              rw [List.size_toArray, hd7.length]
              unfold Small at hsz; omega
            refine wpAny_list_append_plain (hsz := hsmall) (items := vs7.toArray) ⟨ep7, hl10⟩ fun h11 hl11 hs11 => ?_
            obtain ⟨ep11, hl11⟩ := hl11
            obtain ⟨h10, t10, e10⟩ := x10.same
            have hgD10 : g10 s2.heap.objs.size = none := by rw [x10.old _ _ hl9]; exact hgD7
            have hgC10 : g10 H2.objs.size = none := by obtain ⟨o, ho⟩ := ns_live hn9; rw [x10.old _ _ ho]; exact hgC7
            have r11 : Rel a ρ B g10 { s10 with heap := h11, toks := s10.toks } := r10.moved (pv := [s2.heap.objs.size]) (O3.sub fun z hz => by rw [List.mem_singleton.mp hz]; exact .head _)
              (fun z hz => by rw [List.mem_singleton.mp hz]; exact hgD10) fun b o hb e => hs11.extBut b o (fun q => hb (by rw [q]; exact .head _)) e
            refine ⟨mi + 1 - (j + 1), by omega, j + 1, g10, vs7 ++ [w], ep11, _, hjl, rfl, W2.frame _ _ _ hst9 (fun b hb o e => hs11.extBut b o (hfp2 b hb).1 (x10.keep b o e)), by simpa using hl11, ?_, (hn9.keeps x10.keep).sameBut hs11 (Ne.symm hDC), fun y d hy hκ => ?_, r11, ⟨h11, s10.toks, by rw [e10]⟩, hle7.trans x10.le, fun b o e => ?_, fun b o h1 h2 h3 e => hs11.extBut b o h2 (x10.keep b o (keep9 b o h1 h3 (hkeep7 b o h1 h2 h3 e))), hgD10, hgC10⟩
            · rw [List.range_succ, List.map_append, ← List.append_assoc]; exact (hd7.mono x10.le).append (.one dw)
            · simp only [hy, if_false]
              obtain ⟨u, hu, hdu⟩ := hb7 y d hy hκ
              exact ⟨u, hu, hdu.mono x10.le⟩
            · have : ∃ o', h9.get? b = some o' := by
                by_cases q1 : b ∈ wr2
                · exact it2.live _ _ hst9 b q1
                · by_cases q2 : b = s2.heap.objs.size
                  · exact ⟨_, q2 ▸ hl9⟩
                  · by_cases q3 : b = H2.objs.size
                    · exact q3 ▸ ns_live hn9
                    · exact ⟨o, keep9 b o q1 q3 (hkeep7 b o q1 q2 q3 e)⟩
              obtain ⟨o', ho'⟩ := this
              rw [x10.old b o' ho']; exact hold7 b o e
          · have hjn : j = mi := by omega
            subst hjn
            refine W2.done _ _ _ hst7 fun h8 tk8 hk8 => ?_
            have r8 : Rel a ρ B g7 { { s6 with heap := h7, toks := t7 } with heap := h8, toks := tk8 } := r7.moved O6 hgw7 fun b o hb e => hk8 b o hb e
            obtain ⟨e6, k6, q6⟩ := X4.same
            have keep8 : ∀ b o, b ≠ s2.heap.objs.size → b ≠ H2.objs.size → h4'.get? b = some o → h8.get? b = some o := fun b o h1 h2 e =>
              hk8 b o (off2 ⟨o, e⟩) (hkeep7 b o (off2 ⟨o, e⟩) h1 h2 (X4.keep b o e))
            refine ⟨rfl, n + 1 - (i + 1), by omega, i + 1, g7, vs7, ep7, m7, hlt, rfl, (Dr 0).frame _ _ _ hst4 (fun b hb o e => keep8 b o (fun q => hDf (q ▸ hb)) (fun q => hCf (q ▸ hb)) e), hk8 _ _ hDw hl7, ?_, hn7.at' fun o e => hk8 _ o hCw e, r8, ⟨h8, tk8, by rw [q6, e0]⟩, (hle'.trans X4.le).trans hle7, fun b o e => ?_, fun b o hb e => keep8 b o (below b (Heap.lt_size e)).2 (below b (Heap.lt_size e)).1 (hk04 b o hb e), hgD7, hgC7⟩
            · rw [made2_succ]; exact hd7
            · obtain ⟨o', ho'⟩ := lv e
              rw [hold7 b o' (X4.keep b o' ho'), X4.old b o' ho']; exact hold' b o e
        exact comp2_start inner (self2 _ _ _ it2.st inner)
    · have hin : i = n := by omega
      subst hin
      refine wpAny_mono ((Dr H2.objs.size).done s' hst') (fun r s1 ⟨e1, ⟨h1, t1, e1'⟩, hk1⟩ => ?_) fun _ _ e => e
      subst e1 e1'
      obtain ⟨h0, t0, e0⟩ := same'
      have r1 : Rel a ρ B g' { s' with heap := h1, toks := t1 } := r'.moved O hgpv fun b o hb e => hk1 b o hb e
      exact hRR _ _ { s' with heap := h1, toks := t1 } g' vs ep m hDn hCn hDC (hn'.at' fun o e => hk1 _ o hCp e) (hk1 _ _ hDp hl') hd' r1 ⟨h1, t1, by rw [e0]⟩ hle' hold' (fun b o hb e => hk1 b o hb (hkeep' b o hb e)) hgD hgC
  exact codeAny_compStart_list loop (hself _ _ _ hst₁ loop)

/-- x = [..] where the name is a plain local: the stores are exchanged -/
theorem Tr_assign_comp2 {y x2 : Str} {p2 : Pos} {elt target iter iter2 : Expr} {py pos p : Pos} {n : Nat} {κ : Nat → Str → Option PyData} {mi : Nat} {D2 : Nat → Nat → PyData} {f : Nat → Nat → PyData} (src : ∀ B, DSrc a ρ B sc target iter n κ) (hy : a.env.kindOf y = some .local) (hk : sc.kind = .function) (hcell : ∀ y ∈ sc.names, y.2 ≠ .cell)
    (hfree : ∀ m, (m, NameKind.free) ∈ sc.names → ∃ c, a.env.cells.lookup m = some c) (hnames : ∀ y ∈ sc.names, y.2 = .local → sc.names.lookup y.1 = some .local)
    (hx2 : sc.names.lookup x2 = some .local) (src2 : ∀ B, ∀ i, i < n → ∀ C, Src (a.vc ρ B sc C (κ i) hk) iter2 mi (D2 i)) (elts : ∀ B, ∀ i j, i < n → j < mi → ∀ C, Ev (a.vc ρ B sc C (fun y => if y = x2 then some (D2 i j) else κ i y) hk) elt (f i j)) (hsz : Small (n * mi)) (hq : Q .nxt (ρ.set y (.val (.list (made2 f n mi)))))
    (hsw : swapsWith (.ListComp elt [⟨target, iter, [], 0⟩, ⟨.Name x2 p2, iter2, [], 0⟩] sc pos) (some (.Name y py)) p.line a.env = pure true) (hs : ∀ x, foldedSetIterable iter a.env x = pure x := by intro _; rfl) (hs2 : ∀ env x, foldedSetIterable iter2 env x = pure x := by intro _ _; rfl) :
    Tr a (exec (.Assign [.Name y py] (.ListComp elt [⟨target, iter, [], 0⟩, ⟨.Name x2 p2, iter2, [], 0⟩] sc pos) p) a.env) ρ Q := fun B g s r => by
  rw [exec_Assign_Name_used _ _ _ _ hsw]
  refine wpAny_bind (wpAny_standAt (wpAny_bind ?_))
  show wpAny _ a.A (do let _ ← comprehension (.ListComp elt [⟨target, iter, [], 0⟩, ⟨.Name x2 p2, iter2, [], 0⟩] sc pos) sc a.env _ (newList []) false (eval iter a.env) (some (assign (.Name y py) a.env))) _ _ s
  refine wpAny_bind (wpAny_mono (wpAny_comprehension_free (use := some (assign (.Name y py) a.env)) (Q := fun _ s' => ∃ g' fd ρ', StepTo B g s g' s' ∧ Rel a ρ' B g' s' ∧ FlowIs g' .next fd ∧ Q fd ρ') rfl hs (closureFor_of hfree) hk hnames
    (wpAny_mono (src B g s r) (fun xv s1 h1 => wpAny_mono h1 (fun it s2 h2 => ?_) fun _ _ e => e) fun _ _ e => e)) (fun _ s' hq => wpAny_pure (wpAny_pure hq)) fun _ _ e => e)
  obtain ⟨g2, I, fp, pv, St, rfl, x2, Dr, hst, hgp, hfp, hnew, hself⟩ := h2
  have r2 := Rel.stable r x2
  have O := r.off hnew
  refine comp_core2 (RR := fun acc C => compPost (model W.prog W.w) a.A noE (some (assign (.Name y py) a.env)) (fun _ s' => ∃ g' fd ρ', StepTo B g s g' s' ∧ Rel a ρ' B g' s' ∧ FlowIs g' .next fd ∧ Q fd ρ') acc C)
    hk hcell Dr hst r2 O hgp hfp hself hx2 (src2 B) hs2 (elts B) hsz ?_
  intro D0 C s' g' vs ep m hD hC hDC hnC hl hd r' same hle hold hkeep hgD hgC
  show wpAny _ a.A (assign (.Name y py) a.env (.ref D0)) _ _ _
  -- freeze the list, guard the block
  have noneS : ∀ z, s2.heap.get? z = none → s.heap.get? z = none := fun z hz => by
    cases e : s.heap.get? z with
    | none => rfl
    | some o => rw [x2.keep _ _ e] at hz; cases hz
  have OO := r.off (pv := [D0, C]) (fun z hz => by
    rcases List.mem_cons.mp hz with rfl | hz
    · exact noneS _ hD
    · rw [List.mem_singleton.mp hz]; exact noneS _ hC)
  have rf : Rel a ρ B (frz g' D0 (lstO vs ep)) s' := by
    have hle2 := frz_le (o := lstO vs ep) hgD
    refine ⟨fun b o e => ?_, r'.kb, r'.top, ?_, r'.bL, fun x c hc => ⟨?_, (r'.gC x c hc).2⟩, fun x ad m hx => ?_, r'.oo, ?_⟩
    · by_cases q : b = D0
      · subst q; rw [frz_self] at e; cases e; exact hl
      · rw [frz_ne q] at e; exact r'.fz b o e
    · rw [frz_ne fun q => OO.l (by rw [q]; exact .head _)]; exact r'.gL
    · rw [frz_ne fun q => OO.c x c hc (by rw [q]; exact .head _)]; exact (r'.gC x c hc).1
    · obtain ⟨h1, h2⟩ := r'.own x ad m hx
      exact ⟨by rw [frz_ne fun q => OO.o x ad m hx (by rw [q]; exact .head _)]; exact h1, h2⟩
    · obtain ⟨V, vv, hv⟩ := r'.vars
      exact ⟨V, vv, fun x sl hx => let ⟨u, hu, hs⟩ := hv x sl hx; ⟨u, hu, hs.mono hle2 fun _ _ _ _ h => h⟩⟩
  have rg : Rel a ρ (Bw [C] B s'.heap) (frz g' D0 (lstO vs ep)) s' := rf.guard (fun b hb => OO.b b (by rw [List.mem_singleton.mp hb]; exact .tail _ (.head _))) (fun hb => OO.l (by rw [List.mem_singleton.mp hb]; exact .tail _ (.head _)))
    (fun x c hc hb => OO.c x c hc (by rw [List.mem_singleton.mp hb]; exact .tail _ (.head _))) (fun x ad m hx hb => OO.o x ad m hx (by rw [List.mem_singleton.mp hb]; exact .tail _ (.head _)))
  refine wpAny_assign_Name (store_name rg (.inl hy) (sl := .val (.list (made2 f n mi))) (.list frz_self (hd.mono (frz_le hgD))) (fun ad m e => nomatch e) fun h3 t3 r3 => ?_)
  have hBC : B C = none := OO.b C (.tail _ (.head _))
  refine ⟨m, hnC.at' fun o e => r3.kb C o (by rw [Bw_in (.head _)]; exact e), fun h4 hs4 => ?_⟩
  obtain ⟨e1, t1, q1⟩ := x2.same
  obtain ⟨e2, t2, q2⟩ := same
  have r4 : Rel a (ρ.set y (.val (.list (made2 f n mi)))) B (frz g' D0 (lstO vs ep)) { { s' with heap := h3, toks := t3 } with heap := h4, toks := t3 } := by
    have hBB : ∀ b o, B b = some o → Bw [C] B s'.heap b = some o := fun b o e => by
      rw [Bw_off fun hb => by rw [List.mem_singleton.mp hb, hBC] at e; cases e]; exact e
    refine (r3.weaken hBB r.top).moved (pv := [C]) ⟨fun z hz => by rw [List.mem_singleton.mp hz]; exact hBC, fun hz => OO.l (by rw [List.mem_singleton.mp hz]; exact .tail _ (.head _)), fun x c hc hz => OO.c x c hc (by rw [List.mem_singleton.mp hz]; exact .tail _ (.head _)), fun x ad m hx hz => ?_⟩
      (fun z hz => by rw [List.mem_singleton.mp hz, frz_ne (Ne.symm hDC)]; exact hgC) fun b o hb e => hs4.extBut b o (fun q => hb (by rw [q]; exact .head _)) e
    by_cases q : x = y
    · subst q; rw [Rho.set_self] at hx; cases hx
    · rw [Rho.set_ne q] at hx
      exact OO.o x ad m hx (by rw [List.mem_singleton.mp hz]; exact .tail _ (.head _))
  refine ⟨_, .nxt, _, ⟨⟨h4, t3, by rw [q2, q1]⟩, (x2.le.trans hle).trans (frz_le hgD), fun b o e => ?_⟩, r4, trivial, hq⟩
  have hb := r.kb b o e
  have hne : b ≠ D0 := fun q => by
    have hb' := r.kb b o e
    rw [q, noneS _ hD] at hb'; cases hb'
  rw [frz_ne hne, hold b o (x2.keep b o hb)]
  exact x2.old b o hb
end
end Mine
namespace Mine
open PySem PySem.W PyProof.Rows PySem.Calls

abbrev le2 (x y : Int × Int) : Prop := pairLt y x = false
theorem lt2_iff {x y : Int × Int} : pairLt x y = true ↔ x.1 < y.1 ∨ (x.1 = y.1 ∧ x.2 < y.2) := by
  unfold pairLt
  by_cases h : x.1 = y.1
  · rw [if_pos h]; simp only [decide_eq_true_eq]; omega
  · rw [if_neg h]; simp only [decide_eq_true_eq]; omega
theorem le2_iff {x y : Int × Int} : le2 x y ↔ x.1 < y.1 ∨ (x.1 = y.1 ∧ x.2 ≤ y.2) := by
  unfold le2
  rw [← Bool.not_eq_true, lt2_iff]
  omega
theorem le2_trans {x y z : Int × Int} (h : le2 x y) (k : le2 y z) : le2 x z := by rw [le2_iff] at *; omega
theorem le2_refl {x : Int × Int} : le2 x x := by rw [le2_iff]; omega
theorem le2_of_lt {x y : Int × Int} (h : pairLt x y = true) : le2 x y := by rw [lt2_iff] at h; rw [le2_iff]; omega
theorem le2_antisymm {x y : Int × Int} (h : le2 x y) (k : le2 y x) : x = y := by
  rw [le2_iff] at h k
  exact Prod.ext (by omega) (by omega)
theorem lt_le2 {x y z : Int × Int} (h : pairLt x y = true) (k : le2 y z) : le2 x z := le2_trans (le2_of_lt h) k

abbrev dd : Int × Int := (0, 0)
abbrev at2 (H : List (Int × Int)) (i : Nat) : Int × Int := H.getD i dd
theorem at2_set {H : List (Int × Int)} {p i : Nat} {x : Int × Int} (hp : p < H.length) : at2 (H.set p x) i = if i = p then x else at2 H i := by
  unfold at2
  rw [List.getD, List.getD, List.getElem?_set]
  by_cases h : p = i
  · subst h; simp [hp]
  · rw [if_neg h, if_neg (Ne.symm h)]

def isHeap (H : List (Int × Int)) : Prop := ∀ i, 0 < i → i < H.length → le2 (at2 H ((i - 1) / 2)) (at2 H i)

/-- the swap that a step down makes -/
theorem swap_perm {H : List (Int × Int)} {p q : Nat} {x : Int × Int} (hp : p < H.length) (hq : q < H.length) (hne : p ≠ q) : ((H.set p (at2 H q)).set q x).Perm (H.set p x) := by
  have h1 : p < (H.set p x).length := by rw [List.length_set]; exact hp
  have h2 : q < (H.set p x).length := by rw [List.length_set]; exact hq
  have e1 : (H.set p x)[q] = at2 H q := by rw [List.getElem_set_ne hne]; simp [at2, List.getD, hq]
  have e2 : (H.set p x)[p] = x := by rw [List.getElem_set_self]
  have := List.set_set_perm h1 h2
  rw [e1, e2, List.set_set] at this
  exact this

structure InvD (H : List (Int × Int)) (x : Int × Int) (p : Nat) : Prop where
  lt : p < H.length
  a : ∀ i, 0 < i → i < H.length → i ≠ p → le2 (if (i - 1) / 2 = p then x else at2 H ((i - 1) / 2)) (at2 H i)
  b : ∀ i, 0 < i → i < H.length → (i - 1) / 2 = p → 0 < p → le2 (at2 H ((p - 1) / 2)) (at2 H i)

theorem sdown_ok : ∀ (p : Nat) (H : List (Int × Int)) (x : Int × Int), InvD H x p → isHeap (sdown H x p) ∧ (sdown H x p).Perm (H.set p x) := by
  intro p
  induction p using Nat.strongRecOn with
  | ind p ih =>
    intro H x inv
    have hlt := inv.lt
    have stay : (0 < p → le2 (at2 H ((p - 1) / 2)) x) → isHeap (H.set p x) := fun h i h0 hi => by
      rw [List.length_set] at hi
      rw [at2_set hlt, at2_set hlt]
      by_cases hip : i = p
      · subst hip
        rw [if_pos rfl, if_neg (by omega)]
        exact h h0
      · rw [if_neg hip]; exact inv.a i h0 hi hip
    rw [sdown]
    by_cases hp : p = 0
    · rw [if_pos hp]
      exact ⟨stay (fun h => absurd h (by omega)), .refl _⟩
    · rw [if_neg hp]
      by_cases hx : pairLt x (at2 H ((p - 1) / 2)) = true
      · rw [if_pos hx]
        have hq : (p - 1) / 2 < p := by omega
        have hne : p ≠ (p - 1) / 2 := by omega
        have hql : (p - 1) / 2 < H.length := by omega
        have aq := inv.a ((p - 1) / 2)
        suffices inv2 : InvD (H.set p (at2 H ((p - 1) / 2))) x ((p - 1) / 2) by
          obtain ⟨h1, h2⟩ := ih ((p - 1) / 2) hq (H.set p (at2 H ((p - 1) / 2))) x inv2
          exact ⟨h1, h2.trans (swap_perm hlt hql hne)⟩
        refine ⟨by rw [List.length_set]; exact hql, fun i h0 hi hiq => ?_, fun i h0 hi hpar hq0 => ?_⟩
        · rw [List.length_set] at hi
          rw [at2_set hlt, at2_set hlt]
          by_cases hip : i = p
          · subst hip
            rw [if_pos rfl, if_pos rfl]
            exact le2_of_lt hx
          · rw [if_neg hip]
            have ha := inv.a i h0 hi hip
            by_cases hpar : (i - 1) / 2 = (p - 1) / 2
            · rw [if_pos hpar]
              rw [if_neg (by omega), hpar] at ha
              exact lt_le2 hx ha
            · rw [if_neg hpar]
              by_cases hpp : (i - 1) / 2 = p
              · rw [if_pos hpp]; exact inv.b i h0 hi hpp (by omega)
              · rw [if_neg hpp] at ha ⊢; exact ha
        · rw [List.length_set] at hi
          rw [at2_set hlt, at2_set hlt, if_neg (by omega)]
          have h3 := aq hq0 hql (by omega)
          rw [if_neg (by omega)] at h3
          by_cases hip : i = p
          · rw [if_pos hip]; exact h3
          · rw [if_neg hip]
            have ha := inv.a i h0 hi hip
            rw [if_neg (by omega), hpar] at ha
            exact le2_trans h3 ha
      · rw [if_neg hx]
        exact ⟨stay (fun _ => by simpa using hx), .refl _⟩

structure InvU (H : List (Int × Int)) (p : Nat) : Prop where
  lt : p < H.length
  a : ∀ i, 0 < i → i < H.length → i ≠ p → (i - 1) / 2 ≠ p → le2 (at2 H ((i - 1) / 2)) (at2 H i)
  b : ∀ i, 0 < i → i < H.length → (i - 1) / 2 = p → 0 < p → le2 (at2 H ((p - 1) / 2)) (at2 H i)

theorem sup_step {H : List (Int × Int)} {p c : Nat} (inv : InvU H p) (hc : c < H.length) (hpar : (c - 1) / 2 = p) (h0 : 0 < c) (hsib : ∀ i, 0 < i → i < H.length → (i - 1) / 2 = p → le2 (at2 H c) (at2 H i)) : InvU (H.set p (at2 H c)) c := by
  have hlt := inv.lt
  refine ⟨by rw [List.length_set]; exact hc, fun i hi0 hi hic hpc => ?_, fun i hi0 hi hpc hc0 => ?_⟩
  · rw [List.length_set] at hi
    rw [at2_set hlt, at2_set hlt]
    by_cases hip : i = p
    · subst hip
      rw [if_neg (by omega), if_pos rfl]
      exact inv.b c h0 hc hpar hi0
    · rw [if_neg hip]
      by_cases hpp : (i - 1) / 2 = p
      · rw [if_pos hpp]; exact hsib i hi0 hi hpp
      · rw [if_neg hpp]; exact inv.a i hi0 hi hip hpp
  · rw [List.length_set] at hi
    rw [at2_set hlt, at2_set hlt, hpar, if_pos rfl, if_neg (by omega)]
    have := inv.a i hi0 hi (by omega) (by omega)
    rw [hpc] at this
    exact this

theorem sup_ok : ∀ (n p : Nat) (H : List (Int × Int)) (x : Int × Int), H.length - p = n → InvU H p → isHeap (sup H x p) ∧ (sup H x p).Perm (H.set p x) := by
  intro n
  induction n using Nat.strongRecOn with
  | ind n ih =>
    intro p H x hn inv
    have hlt := inv.lt
    rw [sup]
    by_cases hch : 2 * p + 1 < H.length
    · rw [dif_pos hch]
      by_cases hr : 2 * p + 2 < H.length ∧ pairLt (at2 H (2 * p + 1)) (at2 H (2 * p + 2)) = false
      · rw [if_pos hr]
        have st := sup_step (c := 2 * p + 2) inv hr.1 (by omega) (by omega) fun i h0 hi hp => by
          have : i = 2 * p + 1 ∨ i = 2 * p + 2 := by omega
          rcases this with e | e
          · rw [e]; exact hr.2
          · rw [e]; exact le2_refl
        obtain ⟨h1, h2⟩ := ih _ (by rw [List.length_set]; omega) (2 * p + 2) _ x rfl st
        exact ⟨h1, h2.trans (swap_perm hlt hr.1 (by omega))⟩
      · rw [if_neg hr]
        have st := sup_step (c := 2 * p + 1) inv hch (by omega) (by omega) fun i h0 hi hp => by
          have : i = 2 * p + 1 ∨ i = 2 * p + 2 := by omega
          rcases this with e | e
          · rw [e]; exact le2_refl
          · rw [e] at hi ⊢
            refine le2_of_lt ?_
            cases hb : pairLt (at2 H (2 * p + 1)) (at2 H (2 * p + 2)) with
            | true => rfl
            | false => exact absurd ⟨hi, hb⟩ hr
        obtain ⟨h1, h2⟩ := ih _ (by rw [List.length_set]; omega) (2 * p + 1) _ x rfl st
        exact ⟨h1, h2.trans (swap_perm hlt hch (by omega))⟩
    · rw [dif_neg hch]
      suffices inv2 : InvD (H.set p x) x p by
        obtain ⟨h1, h2⟩ := sdown_ok p (H.set p x) x inv2
        rw [List.set_set] at h2; exact ⟨h1, h2⟩
      refine ⟨by rw [List.length_set]; exact hlt, fun i h0 hi hip => ?_, fun i h0 hi hpar h0p => ?_⟩
      · rw [List.length_set] at hi
        have hpar : (i - 1) / 2 ≠ p := by omega
        rw [if_neg hpar, at2_set hlt, at2_set hlt, if_neg hpar, if_neg hip]
        exact inv.a i h0 hi hip hpar
      · rw [List.length_set] at hi; omega

theorem push_heap {H : List (Int × Int)} {x : Int × Int} (h : isHeap H) : isHeap (push H x) ∧ (push H x).Perm (x :: H) := by
  have e : ∀ i, i < H.length → at2 (H ++ [x]) i = at2 H i := fun i hi => by
    unfold at2; rw [List.getD, List.getD, List.getElem?_append_left hi]
  suffices inv2 : InvD (H ++ [x]) x H.length by
    obtain ⟨h1, h2⟩ := sdown_ok H.length (H ++ [x]) x inv2
    refine ⟨h1, h2.trans ?_⟩
    rw [List.set_append_right _ _ (Nat.le_refl _), Nat.sub_self]
    exact List.perm_append_singleton x H
  refine ⟨by simp, fun i h0 hi hip => ?_, fun i h0 hi hpar h0p => ?_⟩
  · have hi : i < H.length + 1 := by simpa using hi
    rw [if_neg (by omega), e _ (by omega), e _ (by omega)]
    exact h i h0 (by omega)
  · have hi : i < H.length + 1 := by simpa using hi
    omega
theorem heap_root {H : List (Int × Int)} (h : isHeap H) : ∀ i, i < H.length → le2 (at2 H 0) (at2 H i) := by
  intro i
  induction i using Nat.strongRecOn with
  | ind i ih =>
    intro hi
    by_cases h0 : i = 0
    · subst h0; exact le2_refl
    · exact le2_trans (ih ((i - 1) / 2) (by omega) (by omega)) (h i (by omega) hi)
theorem mem_at2 {H : List (Int × Int)} {y : Int × Int} (h : y ∈ H) : ∃ i, i < H.length ∧ at2 H i = y := by
  obtain ⟨i, hi, e⟩ := List.getElem_of_mem h
  exact ⟨i, hi, by simp [at2, List.getD, hi, e]⟩
theorem pop_heap {L : List (Int × Int)} {x : Int × Int} (h : isHeap (L ++ [x])) : isHeap (popH L x) ∧ (popV L x :: popH L x).Perm (L ++ [x]) ∧ ∀ y ∈ popH L x, le2 (popV L x) y := by
  cases L with
  | nil => exact ⟨fun i _ hi => absurd hi (Nat.not_lt_zero _), .refl _, fun y hy => absurd hy List.not_mem_nil⟩
  | cons y r =>
    have e : ∀ i, 0 < i → i < r.length + 1 → at2 (x :: r) i = at2 (y :: r ++ [x]) i := fun i h0 hi => by
      cases i with
      | zero => omega
      | succ i =>
        unfold at2
        rw [List.getD, List.getD, List.cons_append, List.getElem?_cons_succ, List.getElem?_cons_succ, List.getElem?_append_left (by omega)]
    obtain ⟨h1, h2⟩ := sup_ok _ 0 (x :: r) x rfl ⟨by simp, fun i h0 hi hip hpar => by
      have hi : i < r.length + 1 := by simpa using hi
      rw [e _ (by omega) (by omega), e _ h0 hi]
      exact h i h0 (by simp; omega), fun i _ _ _ hp => absurd hp (Nat.lt_irrefl _)⟩
    have h2 : (popH (y :: r) x).Perm (x :: r) := h2
    have hp : (y :: popH (y :: r) x).Perm (y :: r ++ [x]) := by
      rw [List.cons_append]
      exact .cons _ (h2.trans (List.perm_append_singleton x r).symm)
    refine ⟨h1, hp, fun z hz => ?_⟩
    have : z ∈ y :: r ++ [x] := hp.mem_iff.mp (.tail _ hz)
    obtain ⟨i, hi, e⟩ := mem_at2 this
    rw [← e]
    exact heap_root h i hi
end Mine
namespace Mine
open PySem PySem.W PyProof.Rows PySem.Calls

def lexLt : List Nat → List Nat → Bool
  | a :: r, b :: s => decide (a < b) || (a == b && lexLt r s)
  | _, _ => false

/-- the figures: they grow, within 0 to 63 -/
structure Fig (fg : List Int) (K : Nat) : Prop where
  len : fg.length = K
  rng : ∀ k, 0 ≤ fg.getD k 0 ∧ fg.getD k 0 < 64
  up : ∀ i j, i < j → j < K → fg.getD i 0 < fg.getD j 0

theorem foldl_init (fg : List Int) : ∀ (r : List Nat) (n : Int), r.foldl (fun n k => n * 64 + fg.getD k 0) n = n * 64 ^ r.length + worth fg r := by
  intro r
  induction r with
  | nil => intro n; simp [worth]
  | cons k r ih =>
    intro n
    unfold worth
    rw [List.foldl_cons, List.foldl_cons, ih, ih, List.length_cons, Int.pow_succ]
    have : (n * 64 + fg.getD k 0) * 64 ^ r.length = n * (64 ^ r.length * 64) + fg.getD k 0 * 64 ^ r.length := by rw [Int.add_mul, Int.mul_assoc, Int.mul_comm 64]
    have h2 : ((0 : Int) * 64 + fg.getD k 0) * 64 ^ r.length = fg.getD k 0 * 64 ^ r.length := by rw [Int.zero_mul, Int.zero_add]
    omega
theorem worth_cons {fg : List Int} {k : Nat} {r : List Nat} : worth fg (k :: r) = fg.getD k 0 * 64 ^ r.length + worth fg r := by
  have := foldl_init fg r (0 * 64 + fg.getD k 0)
  have e : (0 : Int) * 64 + fg.getD k 0 = fg.getD k 0 := by omega
  conv at this => rhs; rw [e]
  exact this

theorem lex_tri {fg : List Int} {K : Nat} (F : Fig fg K) : ∀ (r s : List Nat), r.length = s.length → (∀ k ∈ r, k < K) → (∀ k ∈ s, k < K) →
    (lexLt r s = true → worth fg r < worth fg s) ∧ (lexLt s r = true → worth fg s < worth fg r) ∧ (lexLt r s = false → lexLt s r = false → r = s) := by
  have big : ∀ (a b : Nat) (r s : List Nat), r.length = s.length → a < b → b < K → fg.getD a 0 * 64 ^ r.length + worth fg r < fg.getD b 0 * 64 ^ s.length + worth fg s := fun a b r s hl hab hb => by
    have h1 := F.up a b hab hb
    have h2 := worth_lt F.rng r
    have h3 := worth_lt F.rng s
    rw [hl] at h2 ⊢
    have h4 : (fg.getD a 0 + 1) * 64 ^ s.length ≤ fg.getD b 0 * 64 ^ s.length := Int.mul_le_mul_of_nonneg_right (by omega) (Int.pow_nonneg (by decide))
    rw [Int.add_mul, Int.one_mul] at h4
    omega
  intro r
  induction r with
  | nil =>
    intro s hl _ _
    cases s with
    | nil => exact ⟨fun h => by simp [lexLt] at h, fun h => by simp [lexLt] at h, fun _ _ => rfl⟩
    | cons b s => simp at hl
  | cons a r ih =>
    intro s hl hr hs
    cases s with
    | nil => simp at hl
    | cons b s =>
      have hl2 : r.length = s.length := by simpa using hl
      clear hl
      obtain ⟨h1, h2, h3⟩ := ih s hl2 (fun k h => hr k (.tail _ h)) (fun k h => hs k (.tail _ h))
      have ha := hr a (.head _)
      have hb := hs b (.head _)
      rw [worth_cons, worth_cons]
      refine ⟨fun h => ?_, fun h => ?_, fun h k => ?_⟩
      · simp only [lexLt, Bool.or_eq_true, decide_eq_true_eq, Bool.and_eq_true, beq_iff_eq] at h
        rcases h with h | ⟨rfl, h⟩
        · exact big a b r s hl2 h hb
        · rw [hl2]; have := h1 h; omega
      · simp only [lexLt, Bool.or_eq_true, decide_eq_true_eq, Bool.and_eq_true, beq_iff_eq] at h
        rcases h with h | ⟨rfl, h⟩
        · exact big b a s r hl2.symm h ha
        · rw [hl2]; have := h2 h; omega
      · simp only [lexLt, Bool.or_eq_false_iff, decide_eq_false_iff_not] at h k
        have hab : a = b := by omega
        subst hab
        simp only [beq_self_eq_true, Bool.true_and] at h k
        rw [h3 h.2 k.2]

def Word (K W : Nat) (r : List Nat) : Prop := r.length = W ∧ ∀ k ∈ r, k < K
theorem worth_lt_of {fg : List Int} {K W : Nat} (F : Fig fg K) {r s : List Nat} (hr : Word K W r) (hs : Word K W s) (h : lexLt r s = true) : worth fg r < worth fg s := (lex_tri F r s (hr.1.trans hs.1.symm) hr.2 hs.2).1 h
theorem worth_le_of {fg : List Int} {K W : Nat} (F : Fig fg K) {r s : List Nat} (hr : Word K W r) (hs : Word K W s) (h : lexLt s r = false) : worth fg r ≤ worth fg s := by
  obtain ⟨h1, h2, h3⟩ := lex_tri F r s (hr.1.trans hs.1.symm) hr.2 hs.2
  cases hb : lexLt r s with
  | true => exact Int.le_of_lt (h1 hb)
  | false => rw [h3 hb h]; exact Int.le_refl _
theorem worth_inj {fg : List Int} {K W : Nat} (F : Fig fg K) {r s : List Nat} (hr : Word K W r) (hs : Word K W s) (h : worth fg r = worth fg s) : r = s := by
  obtain ⟨h1, h2, h3⟩ := lex_tri F r s (hr.1.trans hs.1.symm) hr.2 hs.2
  cases hb : lexLt r s with
  | true => have := h1 hb; omega
  | false =>
    cases hc : lexLt s r with
    | true => have := h2 hc; omega
    | false => exact h3 hb hc

/-- all words; a word's turns; its least turn; its period -/
def rowsOf (K : Nat) : Nat → List (List Nat)
  | 0 => [[]]
  | t + 1 => (rowsOf K t).flatMap fun r => (List.range K).map fun k => r ++ [k]
def rots (W : Nat) (r : List Nat) : List (List Nat) := (List.range W).map fun p => r.drop p ++ r.take p
def sizeOf' (W : Nat) (r : List Nat) : Nat := 1 + ((rots W r).drop 1 ++ (rots W r).take 1).idxOf r
def minRot (W : Nat) (r : List Nat) : List Nat := (rots W r).foldl (fun m q => if lexLt q m then q else m) r
def necks (K W : Nat) : List (List Nat) := (rowsOf K W).filter fun r => minRot W r == r
def ringOf (K W : Nat) : List Nat := (necks K W).flatMap fun r => r.take (sizeOf' W r)
def wins (W : Nat) (R : List Nat) : List (List Nat) := (List.range R.length).map fun p => ((R ++ R).drop p).take W

def isWord (K W : Nat) (r : List Nat) : Bool := r.length == W && r.all fun k => decide (k < K)
theorem isWord_iff {K W : Nat} {r : List Nat} (h : isWord K W r = true) : Word K W r := by
  unfold isWord at h
  rw [Bool.and_eq_true, beq_iff_eq, List.all_eq_true] at h
  exact ⟨h.1, fun k hk => of_decide_eq_true (h.2 k hk)⟩
def sortedBy (f : List Nat → List Nat → Bool) : List (List Nat) → Bool
  | [] => true
  | r :: l => l.all (f r) && sortedBy f l
theorem sortedBy_iff {f : List Nat → List Nat → Bool} : ∀ {l : List (List Nat)}, sortedBy f l = true → l.Pairwise fun r s => f r s = true
  | [], _ => .nil
  | r :: l, h => by
    unfold sortedBy at h
    rw [Bool.and_eq_true, List.all_eq_true] at h
    exact .cons h.1 (sortedBy_iff h.2)

/-- what is asked of one pair (kinds, width): closed, by computation -/
def goodKW (K W : Nat) : Bool :=
  (rowsOf K W).all (fun r => isWord K W r && (rots W r).all (fun q => isWord K W q && !lexLt q (minRot W r)) && (rots W r).contains (minRot W r) && ((rots W r).head? == some r) && decide (sizeOf' W r ≤ W)) &&
  sortedBy lexLt (rowsOf K W) && sortedBy lexLt (necks K W) &&
  ((rowsOf K W).map fun r => (minRot W r, sizeOf' W r)).isPerm ((necks K W).flatMap fun r => List.replicate (sizeOf' W r) (r, sizeOf' W r)) &&
  (wins W (ringOf K W)).isPerm (rowsOf K W) && (ringOf K W == hand K W) && handOk K W && isWord K (K ^ W) (ringOf K W) && decide ((rowsOf K W).length = K ^ W)

theorem good23 : goodKW 2 3 = true := by decide +kernel
theorem good32 : goodKW 3 2 = true := by decide +kernel
theorem good24 : goodKW 2 4 = true := by decide +kernel
theorem good42 : goodKW 4 2 = true := by decide +kernel
theorem good33 : goodKW 3 3 = true := by decide +kernel
end Mine
namespace Mine
open PySem PySem.W PyProof.Rows PySem.Calls

structure Good (K W : Nat) : Prop where
  word : ∀ r ∈ rowsOf K W, Word K W r
  rot : ∀ r ∈ rowsOf K W, ∀ q ∈ rots W r, Word K W q ∧ lexLt q (minRot W r) = false
  minIn : ∀ r ∈ rowsOf K W, minRot W r ∈ rots W r
  head : ∀ r ∈ rowsOf K W, (rots W r).head? = some r
  size : ∀ r ∈ rowsOf K W, sizeOf' W r ≤ W
  sorted : (rowsOf K W).Pairwise fun r s => lexLt r s = true
  nsorted : (necks K W).Pairwise fun r s => lexLt r s = true
  perm : ((rowsOf K W).map fun r => (minRot W r, sizeOf' W r)).Perm ((necks K W).flatMap fun r => List.replicate (sizeOf' W r) (r, sizeOf' W r))
  wperm : (wins W (ringOf K W)).Perm (rowsOf K W)
  ring : ringOf K W = hand K W
  handOk : handOk K W = true
  rword : Word K (K ^ W) (ringOf K W)
  rlen : (rowsOf K W).length = K ^ W
theorem Good.of {K W : Nat} (h : goodKW K W = true) : Good K W := by
  unfold goodKW at h
  simp only [Bool.and_eq_true, List.all_eq_true, beq_iff_eq, decide_eq_true_eq, List.isPerm_iff, Bool.not_eq_true', List.contains_iff_mem] at h
  obtain ⟨⟨⟨⟨⟨⟨⟨⟨h1, h2⟩, h3⟩, h4⟩, h5⟩, h6⟩, h7⟩, h8⟩, h9⟩ := h
  exact ⟨fun r hr => isWord_iff (h1 r hr).1.1.1.1, fun r hr q hq => ⟨isWord_iff ((h1 r hr).1.1.1.2 q hq).1, ((h1 r hr).1.1.1.2 q hq).2⟩, fun r hr => (h1 r hr).1.1.2, fun r hr => (h1 r hr).1.2, fun r hr => (h1 r hr).2,
    sortedBy_iff h2, sortedBy_iff h3, h4, h5, h6, h7, isWord_iff h8, h9⟩

def item (fg : List Int) (W : Nat) (r : List Nat) : Int × Int := (worth fg (minRot W r), (sizeOf' W r : Nat))
def told (fg : List Int) (W : Nat) (r : List Nat) : List Int := (rots W r).map (worth fg)
def target (fg : List Int) (K W : Nat) : List (Int × Int) := (necks K W).flatMap fun r => List.replicate (sizeOf' W r) (worth fg r, ((sizeOf' W r : Nat) : Int))

section
variable {K W : Nat} {fg : List Int}
theorem Good.neck (G : Good K W) {r : List Nat} (h : r ∈ necks K W) : r ∈ rowsOf K W := (List.mem_filter.mp h).1
theorem Good.itemsPerm (G : Good K W) : ((rowsOf K W).map (item fg W)).Perm (target fg K W) := by
  have := G.perm.map fun x : List Nat × Nat => (worth fg x.1, ((x.2 : Nat) : Int))
  rw [List.map_map, List.map_flatMap] at this
  refine this.trans (.of_eq ?_)
  unfold target
  congr 1
  funext r
  rw [List.map_replicate]
theorem Good.targetSorted (G : Good K W) (F : Fig fg K) : (target fg K W).Pairwise le2 := by
  unfold target
  rw [List.pairwise_flatMap]
  refine ⟨fun r _ => ?_, ?_⟩
  · rw [List.pairwise_replicate]
    exact .inr le2_refl
  · refine (List.Pairwise.and_mem.mp G.nsorted).imp ?_
    rintro r s ⟨hr, hs, h⟩ x hx y hy
    rw [List.eq_of_mem_replicate hx, List.eq_of_mem_replicate hy]
    have := worth_lt_of F (G.word _ (G.neck hr)) (G.word _ (G.neck hs)) h
    rw [le2_iff]
    exact .inl this
theorem Good.came (G : Good K W) (F : Fig fg K) {L : List (Int × Int)} (hp : L.Perm ((rowsOf K W).map (item fg W))) (hs : L.Pairwise le2) : L = target fg K W :=
  List.Perm.eq_of_pairwise (fun a b _ _ => le2_antisymm) hs (G.targetSorted F) (hp.trans G.itemsPerm)
theorem idxOf_map {α β : Type} [BEq α] [LawfulBEq α] [BEq β] [LawfulBEq β] {f : α → β} {x : α} : ∀ {l : List α}, (∀ y ∈ l, f y = f x → y = x) → (l.map f).idxOf (f x) = l.idxOf x
  | [], _ => rfl
  | y :: l, h => by
    rw [List.map_cons, List.idxOf_cons, List.idxOf_cons, idxOf_map fun z hz => h z (.tail _ hz)]
    by_cases q : y = x
    · subst q; rw [beq_self_eq_true, beq_self_eq_true]
    · have q2 : ¬ f y = f x := fun e => q (h y (.head _) e)
      rw [beq_eq_false_iff_ne.mpr q, beq_eq_false_iff_ne.mpr q2]
theorem Good.toldLen (r : List Nat) : (told fg W r).length = W := by simp [told, rots]
theorem Good.toldHead (G : Good K W) {r : List Nat} (h : r ∈ rowsOf K W) : (told fg W r)[0]? = some (worth fg r) := by
  unfold told
  have := G.head r h
  rw [List.head?_eq_getElem?] at this
  rw [List.getElem?_map, this]
  rfl
theorem Good.size' (G : Good K W) (F : Fig fg K) {r : List Nat} (h : r ∈ rowsOf K W) : 1 + ((told fg W r).drop 1 ++ (told fg W r).take 1).idxOf (worth fg r) = sizeOf' W r := by
  unfold told sizeOf'
  rw [← List.map_drop, ← List.map_take, ← List.map_append, idxOf_map]
  intro y hy e
  refine worth_inj F (G.rot r h y ?_).1 (G.word r h) e
  rcases List.mem_append.mp hy with q | q
  · exact List.mem_of_mem_drop q
  · exact List.mem_of_mem_take q
theorem Good.sizeIn (G : Good K W) {r : List Nat} (h : r ∈ rowsOf K W) : worth fg r ∈ (told fg W r).drop 1 ++ (told fg W r).take 1 := by
  have h0 := G.toldHead (fg := fg) h
  have : worth fg r ∈ (told fg W r).take 1 := by
    cases e : told fg W r with
    | nil => rw [e] at h0; simp at h0
    | cons x l => rw [e] at h0; simp at h0; subst h0; simp
  exact List.mem_append.mpr (.inr this)
theorem Good.min (G : Good K W) (F : Fig fg K) {r : List Nat} (h : r ∈ rowsOf K W) : worth fg (minRot W r) ∈ told fg W r ∧ ∀ n ∈ told fg W r, worth fg (minRot W r) ≤ n := by
  refine ⟨List.mem_map_of_mem (G.minIn r h), fun n hn => ?_⟩
  obtain ⟨q, hq, rfl⟩ := List.mem_map.mp hn
  obtain ⟨h1, h2⟩ := G.rot r h q hq
  exact worth_le_of F (G.rot r h _ (G.minIn r h)).1 h1 h2
theorem Good.index (G : Good K W) (F : Fig fg K) {r : List Nat} (h : r ∈ rowsOf K W) : ((rowsOf K W).map (worth fg)).idxOf (worth fg r) = (rowsOf K W).idxOf r :=
  idxOf_map fun y hy e => worth_inj F (G.word y hy) (G.word r h) e
theorem Good.dueSorted (G : Good K W) (F : Fig fg K) : ((rowsOf K W).map (worth fg)).Pairwise (· ≤ ·) := by
  rw [List.pairwise_map]
  refine (List.Pairwise.and_mem.mp G.sorted).imp ?_
  rintro r s ⟨hr, hs, h⟩
  exact Int.le_of_lt (worth_lt_of F (G.word r hr) (G.word s hs) h)
theorem Good.windows (G : Good K W) (F : Fig fg K) (l : List Int) (hp : l.Perm ((wins W (ringOf K W)).map (worth fg))) (hs : l.Pairwise (· ≤ ·)) : l = (rowsOf K W).map (worth fg) :=
  List.Perm.eq_of_pairwise (fun a b _ _ => Int.le_antisymm) hs (G.dueSorted F) (hp.trans (G.wperm.map _))
end
end Mine
namespace Mine
open PySem PySem.W PyProof.Rows PySem.Calls
variable {W : Wld}

theorem Ev_index {V : Vw W} {e x : Expr} {ap p : Pos} {ns : List Int} {k : Int} (he : EvL V e (ns.map .int)) (hx : Ev V x (.int k)) (hk : k ∈ ns) (hz : Small ns.length)
    (hbase : attributeBase e "index" V.env (eval e V.env) = eval e V.env := by rfl) (hline : (ap.endLine == p.line) = true := by rfl) (hs : backTo p (starEach [x] V.env) = [(false, eval x V.env)] := by rfl) :
    Ev V (.Call (.Attribute e "index" ap) [x] [] p) (.int (ns.idxOf k : Nat)) := fun g s i => by
  refine wpAny_Call_method_late hbase (by rw [hs]; rfl) hline rfl (wpAny_mono (he g s i) (fun v s1 ⟨g1, ad, vs, n, x1, ev, ho, hd⟩ => ?_) fun _ _ e => e)
  subst ev
  refine ⟨"list", "list.index", F.plainAttrs_list, F.slot_list_index, F.type_list_index, ⟨_, ho, rfl⟩, fun b e => by cases e; exact ⟨_, ho, rfl⟩, ?_⟩
  rw [hs]
  refine PySem.P.index_list (wpAny_mono (hx g1 s1 (V.stable i x1)) (fun u s2 ⟨g2, x2, hu⟩ => ?_) fun _ _ e => e)
  obtain ⟨t, rfl⟩ := hu.int_inv
  have hI := hd.ints
  have hlen := hI.length
  have hj : ns.idxOf k < ns.length := List.idxOf_lt_length_iff.mpr hk
  have hsz := sizeLine_eq
  unfold Small at hz
  refine ⟨vs.toArray, n, isInt k, ns.idxOf k, by rw [List.size_toArray]; omega, x2.keep _ _ ho, fun y hy => eq_isInt k t hI y (by simpa using hy), by omega, ?_, fun m hm hlt => ?_, ?_⟩
  · show isInt k vs[ns.idxOf k] = true
    rw [isInt_at k hI _ (by omega) hj]
    simpa using List.getElem_idxOf hj
  · show isInt k vs[m] = false
    rw [isInt_at k hI m (by simpa using hm) (by omega)]
    exact ne_of_lt_idxOf hlt _
  · exact ⟨g2, x1.trans (x2.trans (Ext.toks x2.fz _)), .int _ _⟩

section
variable {a : Act W} {ρ : Rho} {Q : FlowD → Rho → Prop}
/-- if e is not None: .. where e gives None -/
theorem Tr_if_isnot {l : Expr} {k : Nat} {p1 p2 p3 : Pos} {body orelse : List Stmt} (h : EvX a l ρ (fun d ρ' => d = .none ∧ Tr a (execs orelse a.env) ρ' Q)) (hm : behindInMarks .IsNot (.Constant .none k p1) = false := by with_unfolding_all rfl) :
    Tr a (exec (.If (.Compare l [.IsNot] [.Constant .none k p1] p2) body orelse p3) a.env) ρ Q := fun B g s r =>
  wpAny_If (wpAny_isTrue_Compare1 (wpAny_mono (h B g s r) (fun va s1 ⟨g1, d, ρ1, x1, r1, hd, e, ht⟩ => by
    subst e
    obtain rfl := hd.none_inv
    refine wpAny_pure (wpAny_isNot_self rfl (wpAny_truthy_bool ?_))
    exact wpAny_mono (ht B g1 s1 r1) (fun f s2 ⟨g2, fd, ρ2, x2, r2, hf, hq⟩ => ⟨g2, fd, ρ2, x1.trans x2, r2, hf, hq⟩) fun _ _ e => e) fun _ _ e => e) hm)
end
end Mine
namespace Mine
open PySem PySem.W PyProof.Rows PySem.Calls
variable {W : Wld}

theorem slc_take {α : Type} {s : Nat} {l : List α} : slc none (some (s : Int)) l = l.take s := by
  unfold slc clipLo clipHi
  have e : (max 0 (min (if (s : Int) < 0 then (s : Int) + l.length else s) l.length)).toNat = min s l.length := by
    rw [if_neg (by omega)]; omega
  simp only [e, List.drop_zero, Nat.sub_zero]
  rw [List.take_eq_take_iff]; omega
theorem slc_drop {α : Type} {p : Nat} {l : List α} : slc (some (p : Int)) none l = l.drop p := by
  unfold slc clipLo clipHi
  have e : (max 0 (min (if (p : Int) < 0 then (p : Int) + l.length else p) l.length)).toNat = min p l.length := by
    rw [if_neg (by omega)]; omega
  simp only [e]
  rcases Nat.le_total p l.length with h | h
  · rw [Nat.min_eq_left h, List.take_of_length_le (by rw [List.length_drop]; omega)]
  · rw [Nat.min_eq_right h, List.drop_length, List.drop_of_length_le h, List.take_nil]
theorem slc_mid {α : Type} {p w : Nat} {l : List α} : slc (some (p : Int)) (some ((p : Int) + w)) l = (l.drop p).take w := by
  unfold slc clipLo clipHi
  have e : (max 0 (min (if (p : Int) < 0 then (p : Int) + l.length else p) l.length)).toNat = min p l.length := by
    rw [if_neg (by omega)]; omega
  have e2 : (max 0 (min (if (p : Int) + w < 0 then (p : Int) + w + l.length else p + w) l.length)).toNat = min (p + w) l.length := by
    rw [if_neg (by omega)]; omega
  simp only [e, e2]
  rcases Nat.le_total p l.length with h | h
  · rw [Nat.min_eq_left h, List.take_eq_take_iff, List.length_drop]; omega
  · rw [Nat.min_eq_right h, List.drop_length, List.drop_of_length_le h, List.take_nil, List.take_nil]
theorem slc_last {α : Type} {k : Nat} {l : List α} (h : k ≤ l.length) (hk : 0 < k) : slc (some (-(k : Int))) none l = l.drop (l.length - k) := by
  unfold slc clipLo clipHi
  have e : (max 0 (min (if (-(k : Int)) < 0 then (-(k : Int)) + l.length else -(k : Int)) l.length)).toNat = l.length - k := by
    rw [if_pos (by omega)]; omega
  simp only [e]
  rw [List.take_of_length_le (by rw [List.length_drop]; omega)]
theorem slc_init {α : Type} {k : Nat} {l : List α} (h : k ≤ l.length) (hk : 0 < k) : slc none (some (-(k : Int))) l = l.take (l.length - k) := by
  unfold slc clipLo clipHi
  have e : (max 0 (min (if (-(k : Int)) < 0 then (-(k : Int)) + l.length else -(k : Int)) l.length)).toNat = l.length - k := by
    rw [if_pos (by omega)]; omega
  simp only [e, List.drop_zero, Nat.sub_zero]

theorem eqv_self {d : PyData} (h : flat 8 d = true) : PyData.eqv d d = true := SeqAt.eqv_refl d (flat_lay 8 d h).1
theorem Cmp.as {V : Vw W} {op : CmpOp} {x y : PyData} {b b' : Bool} (h : Cmp V op x y b) (q : b = b') : Cmp V op x y b' := q ▸ h
theorem Ts.as {V : Vw W} {e : Expr} {b b' : Bool} (h : Ts V e b) (q : b = b') : Ts V e b' := q ▸ h
theorem flat_ints {n : Nat} (ns : List Int) : flat (n + 1) (.list (ns.map .int)) = true := by simp [flat]
theorem flat_prs {n : Nat} (xs : List (Int × Int)) : flat (n + 2) (.list (xs.map pr)) = true := by simp [flat]

/-- the law's activation -/
structure LawAct (a : Act W) : Prop where
  k : 3 ≤ a.k
  kind : ∀ x, a.env.kindOf x = (scOf 12).names.lookup x
  has : ∀ {x}, (scOf 12).names.lookup x = some .local ∨ (scOf 12).names.lookup x = some .cell → a.has x

theorem Ev_worth (P : Prg W) {V : Vw W} (hG : V.env.kindOf "_law_worth" = some .globalImplicit) (hV : 1 ≤ V.k) {fg : List Int} {row : List Nat} {e f : Expr} {np p : Pos} (h1 : Ev V e (rowD row)) (h2 : Ev V f (.list (fg.map .int)))
    (hf : ∀ k, 0 ≤ fg.getD k 0 ∧ fg.getD k 0 < 64) (hr : ∀ k ∈ row, k < fg.length) (hfl : fg.length ≤ 64) (hz : row.length ≤ 64)
    (hs : starEach [e, f] V.env = (false, eval e V.env) :: starEach [f] V.env := by rfl) (hs2 : starEach [f] V.env = (false, eval f V.env) :: starEach [] V.env := by rfl) : Ev V (.Call (.Name "_law_worth" np) [e, f] [] p) (.int (worth fg row)) := by
  obtain ⟨fa, o, fd, q1, q2, q3⟩ := P.f9.get
  exact Ev_fn ⟨hG, .inl q1⟩ q1 q2 q3 (law_worth_ok P hf hr hfl hz) hV (EvAll_cons h1 (EvAll_cons h2 EvAll_nil hs2) hs) (by decide) hs
theorem Ev_read (P : Prg W) {V : Vw W} (hG : V.env.kindOf "_law_read" = some .globalImplicit) (hV : 2 ≤ V.k) {fg ms : List Int} {rows : List (List Nat)} {e f m : Expr} {np p : Pos} (h1 : Ev V e (.list (rows.map rowD))) (h2 : Ev V f (.list (fg.map .int))) (h3 : Ev V m (.list (ms.map .int)))
    (hf : ∀ k, 0 ≤ fg.getD k 0 ∧ fg.getD k 0 < 64) (hm : ∀ m ∈ ms, 0 ≤ m ∧ m ≤ 1) (hm0 : 0 < ms.length) (hml : ms.length ≤ 64) (hfl : fg.length ≤ 64)
    (hr : ∀ r ∈ rows, r ≠ [] ∧ r.length ≤ 64 ∧ ∀ k ∈ r, k < fg.length) (hrl : rows.length ≤ 64)
    (hs : starEach [e, f, m] V.env = (false, eval e V.env) :: starEach [f, m] V.env := by rfl) (hs2 : starEach [f, m] V.env = (false, eval f V.env) :: starEach [m] V.env := by rfl) (hs3 : starEach [m] V.env = (false, eval m V.env) :: starEach [] V.env := by rfl) :
    Ev V (.Call (.Name "_law_read" np) [e, f, m] [] p) (.list ((rows.map (worth fg)).map .int)) := by
  obtain ⟨fa, o, fd, q1, q2, q3⟩ := P.f10.get
  rw [List.map_map]
  exact Ev_fn ⟨hG, .inl q1⟩ q1 q2 q3 (law_read_ok P hf hm hm0 hml hfl hr hrl) hV (EvAll_cons h1 (EvAll_cons h2 (EvAll_cons h3 EvAll_nil hs3) hs2) hs) (by decide) hs

theorem rep_flat {α : Type} (l : List α) : ∀ n, (List.replicate n l).flatten.length = n * l.length
  | 0 => by simp
  | n + 1 => by rw [List.replicate_succ, List.flatten_cons, List.length_append, rep_flat l n, Nat.add_mul]; omega

abbrev rep (fg : List Int) (w : Nat) (r : List Nat) : List (Int × Int) := List.replicate (sizeOf' w r) (worth fg r, ((sizeOf' w r : Nat) : Int))
theorem law_D (P : Prg W) {a : Act W} (C : LawAct a) {K w : Nat} (hK1 : 1 ≤ K) (hK2 : K ≤ 4) (hw1 : 1 ≤ w) (hw2 : w ≤ 4) (hKw : K ^ w ≤ 27) (G : Good K w) {fg ms : List Int} (F : Fig fg K) (hm : ∀ m ∈ ms, 0 ≤ m ∧ m ≤ 1) (hm0 : 0 < ms.length) (hml : ms.length ≤ 64) {ρ : Rho}
    (h1 : ρ "kinds" = some (.val (.int K))) (h2 : ρ "width" = some (.val (.int w))) (h3 : ρ "figures" = some (.val (.list (fg.map .int)))) (h4 : ρ "marks" = some (.val (.list (ms.map .int)))) (h5 : ρ "rows" = some (.val (.list ((rowsOf K w).map rowD))))
    (h6 : ρ "due" = some (.val (.list (((rowsOf K w).map (worth fg)).map .int)))) (h7 : ρ "came" = some (.val (.list ((target fg K w).map pr)))) (h8 : ρ "bent" = some (.val (.list []))) :
    Tr a (execs ((bdOf 12).drop 13) a.env) ρ (fun fd ρ' => match fd with | .ret d => d = .bool true | _ => False) := by
  have hsz := sizeLine_eq
  have hfl : fg.length ≤ 64 := by rw [F.len]; omega
  have hrl : (rowsOf K w).length ≤ 27 := by rw [G.rlen]; exact hKw
  have hnl : (necks K w).length ≤ 27 := Nat.le_trans (List.length_filter_le _ _) hrl
  have size_pos : ∀ r, 0 < sizeOf' w r := fun r => by unfold sizeOf'; omega
  refine Tr_cons (Tr_assign (EvX_pure (d := rowD []) (fun B => (EvF_List EvAll_nil (by show 0 ≤ sizeLine; omega)).ev) ?_) (C.has (by first | exact .inl rfl | exact .inr rfl)))
  refine Tr_cons (Tr_while (fun m ρ => ∃ dn rest, necks K w = dn ++ rest ∧ m = rest.length ∧ ρ "kinds" = some (.val (.int K)) ∧ ρ "width" = some (.val (.int w)) ∧ ρ "figures" = some (.val (.list (fg.map .int))) ∧ ρ "marks" = some (.val (.list (ms.map .int))) ∧ ρ "rows" = some (.val (.list ((rowsOf K w).map rowD))) ∧
    ρ "due" = some (.val (.list (((rowsOf K w).map (worth fg)).map .int))) ∧ ρ "came" = some (.val (.list ((rest.flatMap (rep fg w)).map pr))) ∧ ρ "bent" = some (.val (.list [])) ∧ ρ "ring" = some (.val (rowD (dn.flatMap fun r => r.take (sizeOf' w r)))))
    (n₀ := (necks K w).length) ⟨[], necks K w, rfl, rfl, (by repeat (first | exact Rho.set_self | assumption | refine (Rho.set_ne (by decide)).trans ?_)), (by repeat (first | exact Rho.set_self | assumption | refine (Rho.set_ne (by decide)).trans ?_)), (by repeat (first | exact Rho.set_self | assumption | refine (Rho.set_ne (by decide)).trans ?_)), (by repeat (first | exact Rho.set_self | assumption | refine (Rho.set_ne (by decide)).trans ?_)), (by repeat (first | exact Rho.set_self | assumption | refine (Rho.set_ne (by decide)).trans ?_)), (by repeat (first | exact Rho.set_self | assumption | refine (Rho.set_ne (by decide)).trans ?_)), (by repeat (first | exact Rho.set_self | assumption | refine (Rho.set_ne (by decide)).trans ?_)), (by repeat (first | exact Rho.set_self | assumption | refine (Rho.set_ne (by decide)).trans ?_)), Rho.set_self⟩ ?_)
  clear h1 h2 h3 h4 h5 h6 h7 h8
  rintro m ρ ⟨dn, rest, hdr, rfl, h1, h2, h3, h4, h5, h6, h7, h8, h9⟩
  have clen : (rest.flatMap (rep fg w)).length ≤ 108 := by
    have : ∀ l : List (List Nat), (∀ r ∈ l, sizeOf' w r ≤ 4) → (l.flatMap (rep fg w)).length ≤ 4 * l.length := by
      intro l
      induction l with
      | nil => intro _; simp
      | cons r l ih =>
        intro h
        rw [List.flatMap_cons, List.length_append, List.length_replicate, List.length_cons]
        have := ih fun r hr => h r (.tail _ hr)
        have := h r (.head _)
        omega
    have h0 := this rest fun r hr => Nat.le_trans (G.size r (G.neck (by rw [hdr]; exact List.mem_append.mpr (.inr hr)))) hw2
    have : rest.length ≤ (necks K w).length := by rw [hdr, List.length_append]; omega
    omega
  have rlen : (dn.flatMap fun r => r.take (sizeOf' w r)).length ≤ 27 := by
    have e : ringOf K w = (dn.flatMap fun r => r.take (sizeOf' w r)) ++ rest.flatMap fun r => r.take (sizeOf' w r) := by unfold ringOf; rw [hdr, List.flatMap_append]
    have := G.rword.1
    rw [e, List.length_append] at this
    omega
  refine ⟨_, fun B => Ts_list (Ev_name h7 (C.has (by first | exact .inl rfl | exact .inr rfl))).evL (by unfold Small; rw [List.length_map]; omega), fun hb => ?_, fun hb => ?_⟩
  · cases rest with
    | nil => cases hb
    | cons r rest =>
      have hrN : r ∈ rowsOf K w := G.neck (by rw [hdr]; exact List.mem_append.mpr (.inr (.head _)))
      have hsp := size_pos r
      have hsw := G.size r hrN
      generalize hsr : sizeOf' w r = sr at hsp hsw
      have hcame : (r :: rest).flatMap (rep fg w) = List.replicate sr (worth fg r, ((sr : Nat) : Int)) ++ rest.flatMap (rep fg w) := by rw [List.flatMap_cons]; unfold rep; rw [hsr]
      rw [hcame] at h7 clen
      rw [List.length_append, List.length_replicate] at clen
      refine Tr_cons (Tr_assign2 (d1 := .int (worth fg r)) (d2 := .int (sr : Nat)) (fun B => .inl (Ev_item (k := 0) (Ev_name h7 (C.has (by first | exact .inl rfl | exact .inr rfl))).evL Ev_const_int (by omega) (by omega) ?_)) (C.has (by first | exact .inl rfl | exact .inr rfl)) (C.has (by first | exact .inl rfl | exact .inr rfl)) ?_)
      · obtain ⟨n, rfl⟩ := Nat.exists_eq_succ_of_ne_zero (Nat.ne_of_gt hsp)
        rw [List.replicate_succ]; rfl
      have hrow : (rowsOf K w)[(rowsOf K w).idxOf r]? = some r := by
        have := List.idxOf_lt_length_iff.mpr hrN
        rw [List.getElem?_eq_getElem this, List.getElem_idxOf]
      have hil : (rowsOf K w).idxOf r < (rowsOf K w).length := List.idxOf_lt_length_iff.mpr hrN
      refine Tr_cons (Tr_if (b := false) (fun B => ?_) (fun q => nomatch q) (fun _ => ?_))
      · refine (Ts_cmp ((EvF_slice (ds := (List.replicate sr (worth fg r, ((sr : Nat) : Int)) ++ rest.flatMap (rep fg w)).map pr) (Ev_name (by repeat (first | exact Rho.set_self | assumption | refine (Rho.set_ne (by decide)).trans ?_)) (C.has (by first | exact .inl rfl | exact .inr rfl))).evL .none (.some (Ev_name (d := .int (sr : Nat)) (by repeat (first | exact Rho.set_self | assumption | refine (Rho.set_ne (by decide)).trans ?_)) (C.has (by first | exact .inl rfl | exact .inr rfl)))) (by unfold Small; rw [List.length_map, List.length_append, List.length_replicate]; omega)).as (ds' := (List.replicate sr (worth fg r, ((sr : Nat) : Int))).map pr) ?_).ev
          ((EvF_mul (ds := [pr (worth fg r, ((sr : Nat) : Int))]) (k := (sr : Nat)) (EvF_List (EvAll_cons (Ev_Tuple (EvAll_cons (Ev_name (d := .int (worth fg r)) (by repeat (first | exact Rho.set_self | assumption | refine (Rho.set_ne (by decide)).trans ?_)) (C.has (by first | exact .inl rfl | exact .inr rfl))) (EvAll_cons (Ev_name (d := .int (sr : Nat)) (by repeat (first | exact Rho.set_self | assumption | refine (Rho.set_ne (by decide)).trans ?_)) (C.has (by first | exact .inl rfl | exact .inr rfl))) EvAll_nil)) (by show 2 ≤ sizeLine; omega)) EvAll_nil) (by show 1 ≤ sizeLine; omega)).ev.evL (Ev_name (d := .int (sr : Nat)) (by repeat (first | exact Rho.set_self | assumption | refine (Rho.set_ne (by decide)).trans ?_)) (C.has (by first | exact .inl rfl | exact .inr rfl))) (by omega) (by omega) (by show 1 * (sr : Int).toNat ≤ 2 ^ 24; omega)).as (ds' := (List.replicate sr (worth fg r, ((sr : Nat) : Int))).map pr) ?_).ev
          (cmp_ne (flat_prs (n := 6) _) (flat_prs (n := 6) _))).as ?_
        · rw [slc_take, List.map_append, List.take_left' (by rw [List.length_map, List.length_replicate])]
        · rw [Int.toNat_natCast, flat_rep, List.map_replicate]
        · rw [eqv_self (flat_prs (n := 6) _)]; rfl
      refine Tr_nil ?_
      show Tr _ _ _ _
      refine Tr_cons (Tr_assign (EvX_pure (d := rowD ((dn.flatMap fun r => r.take (sizeOf' w r)) ++ r.take sr)) (fun B => ?_) ?_) (C.has (by first | exact .inl rfl | exact .inr rfl)))
      · refine ((EvF_add (ds := (dn.flatMap fun r => r.take (sizeOf' w r)).map fun k => PyData.int (k : Nat)) (es := (r.take sr).map fun k => PyData.int (k : Nat)) (Ev_name (by repeat (first | exact Rho.set_self | assumption | refine (Rho.set_ne (by decide)).trans ?_)) (C.has (by first | exact .inl rfl | exact .inr rfl))).evL
          ((EvF_slice (ds := r.map fun k => PyData.int (k : Nat)) (Ev_item (k := ((rowsOf K w).idxOf r : Nat)) (ds := (rowsOf K w).map rowD) (d := rowD r) (Ev_name (by repeat (first | exact Rho.set_self | assumption | refine (Rho.set_ne (by decide)).trans ?_)) (C.has (by first | exact .inl rfl | exact .inr rfl))).evL
            ((Ev_index (ns := (rowsOf K w).map (worth fg)) (Ev_name (by repeat (first | exact Rho.set_self | assumption | refine (Rho.set_ne (by decide)).trans ?_)) (C.has (by first | exact .inl rfl | exact .inr rfl))).evL (Ev_name (d := .int (worth fg r)) (by repeat (first | exact Rho.set_self | assumption | refine (Rho.set_ne (by decide)).trans ?_)) (C.has (by first | exact .inl rfl | exact .inr rfl))) (List.mem_map_of_mem hrN) (by unfold Small; rw [List.length_map]; omega)).as (by rw [G.index F hrN])) (by omega) (by omega) (by rw [Int.toNat_natCast, List.getElem?_map, hrow]; rfl)).evL
            .none (.some (Ev_name (d := .int (sr : Nat)) (by repeat (first | exact Rho.set_self | assumption | refine (Rho.set_ne (by decide)).trans ?_)) (C.has (by first | exact .inl rfl | exact .inr rfl)))) (by unfold Small; rw [List.length_map, (G.word r hrN).1]; omega)).as (by rw [slc_take, List.map_take])).ev.evL ?_).as ?_).ev
        · unfold Small; rw [List.length_map, List.length_map, List.length_take, (G.word r hrN).1]; omega
        · rw [List.map_append]
      refine Tr_cons (Tr_assign (EvX_pure (d := .list ((rest.flatMap (rep fg w)).map pr)) (fun B => ?_) ?_) (C.has (by first | exact .inl rfl | exact .inr rfl)))
      · refine ((EvF_slice (ds := (List.replicate sr (worth fg r, ((sr : Nat) : Int)) ++ rest.flatMap (rep fg w)).map pr) (Ev_name (by repeat (first | exact Rho.set_self | assumption | refine (Rho.set_ne (by decide)).trans ?_)) (C.has (by first | exact .inl rfl | exact .inr rfl))).evL (.some (Ev_name (d := .int (sr : Nat)) (by repeat (first | exact Rho.set_self | assumption | refine (Rho.set_ne (by decide)).trans ?_)) (C.has (by first | exact .inl rfl | exact .inr rfl)))) .none (by unfold Small; rw [List.length_map, List.length_append, List.length_replicate]; omega)).as ?_).ev
        rw [slc_drop, List.map_append, List.drop_left' (by rw [List.length_map, List.length_replicate])]
      refine Tr_nil ⟨rest.length, by rw [List.length_cons]; omega, dn ++ [r], rest, by rw [hdr, List.append_assoc]; rfl, rfl, (by repeat (first | exact Rho.set_self | assumption | refine (Rho.set_ne (by decide)).trans ?_)), (by repeat (first | exact Rho.set_self | assumption | refine (Rho.set_ne (by decide)).trans ?_)), (by repeat (first | exact Rho.set_self | assumption | refine (Rho.set_ne (by decide)).trans ?_)), (by repeat (first | exact Rho.set_self | assumption | refine (Rho.set_ne (by decide)).trans ?_)), (by repeat (first | exact Rho.set_self | assumption | refine (Rho.set_ne (by decide)).trans ?_)), (by repeat (first | exact Rho.set_self | assumption | refine (Rho.set_ne (by decide)).trans ?_)), (by repeat (first | exact Rho.set_self | assumption | refine (Rho.set_ne (by decide)).trans ?_)), (by repeat (first | exact Rho.set_self | assumption | refine (Rho.set_ne (by decide)).trans ?_)), ?_⟩
      rw [List.flatMap_append, List.flatMap_singleton, hsr]
      exact (by repeat (first | exact Rho.set_self | assumption | refine (Rho.set_ne (by decide)).trans ?_))
  · have hrest : rest = [] := by
      cases rest with
      | nil => rfl
      | cons r rest =>
        have : ((r :: rest).flatMap (rep fg w)).map pr ≠ [] := by
          have := size_pos r
          obtain ⟨n, hn⟩ := Nat.exists_eq_succ_of_ne_zero (Nat.ne_of_gt this)
          rw [List.flatMap_cons]
          unfold rep
          rw [hn, List.replicate_succ]
          simp
        cases h : ((r :: rest).flatMap (rep fg w)).map pr with
        | nil => exact absurd h this
        | cons x l => rw [h] at hb; cases hb
    subst hrest
    rw [List.append_nil] at hdr
    subst hdr
    have hR := G.rword
    have hring : ((necks K w).flatMap fun r => r.take (sizeOf' w r)) = ringOf K w := rfl
    rw [hring] at h9 rlen
    have hperm := G.wperm
    have hhand := G.ring
    have hwin : ∀ r ∈ wins w (ringOf K w), Word K w r := fun r hr => G.word r (hperm.mem_iff.mp hr)
    have hpos : 0 < K ^ w := Nat.pow_pos hK1
    have hwl : (wins w (ringOf K w)).length = K ^ w := by rw [hperm.length_eq, G.rlen]
    have hsort := G.windows F
    have hwd : wins w (ringOf K w) = (List.range (ringOf K w).length).map fun p => ((ringOf K w ++ ringOf K w).drop p).take w := rfl
    generalize ringOf K w = R at h9 rlen hR hhand hwin hwl hsort hwd
    have hRl := hR.1
    have hRpos : 0 < R.length := by rw [hRl]; exact hpos
    generalize wins w R = Wn at hwin hwl hsort hwd
    clear hb clen hring hperm hnl
    refine Tr_cons (Tr_assign (EvX_pure (d := rowD (R ++ R)) (fun B => ((EvF_add (Ev_name h9 (C.has (by first | exact .inl rfl | exact .inr rfl))).evL (Ev_name h9 (C.has (by first | exact .inl rfl | exact .inr rfl))).evL (by unfold Small; rw [List.length_map]; omega)).as (by rw [List.map_append])).ev) ?_) (C.has (by first | exact .inl rfl | exact .inr rfl)))
    have hlastl : (R.drop (R.length - 1)).length = 1 := by rw [List.length_drop]; omega
    have hall : ∀ r ∈ Wn ++ [R.drop (R.length - 1), R], r ≠ [] ∧ r.length ≤ 64 ∧ ∀ k ∈ r, k < fg.length := by
      intro r hr
      rw [F.len]
      rcases List.mem_append.mp hr with h | h
      · have := hwin r h
        exact ⟨fun e => by rw [e] at this; have := this.1; simp at this; omega, by rw [this.1]; omega, this.2⟩
      · rcases List.mem_cons.mp h with rfl | h
        · exact ⟨fun e => by rw [e] at hlastl; simp at hlastl, by omega, fun k hk => hR.2 k (List.mem_of_mem_drop hk)⟩
        · rw [List.mem_singleton.mp h]
          exact ⟨fun e => by rw [e] at hRpos; simp at hRpos, by omega, hR.2⟩
    refine Tr_cons (Tr_assign (EvX_pure (d := .list (((Wn ++ [R.drop (R.length - 1), R]).map (worth fg)).map .int)) (fun B => ?_) ?_) (C.has (by first | exact .inl rfl | exact .inr rfl)))
    · refine Ev_read P ((C.kind _).trans rfl) (Nat.le_trans (by decide) C.k) (ms := ms) ?_ (Ev_name (d := .list (fg.map .int)) (by repeat (first | exact Rho.set_self | assumption | refine (Rho.set_ne (by decide)).trans ?_)) (C.has (by first | exact .inl rfl | exact .inr rfl))) (Ev_name (d := .list (ms.map .int)) (by repeat (first | exact Rho.set_self | assumption | refine (Rho.set_ne (by decide)).trans ?_)) (C.has (by first | exact .inl rfl | exact .inr rfl))) F.rng hm hm0 hml hfl hall (by rw [List.length_append, hwl]; show _ + 2 ≤ 64; omega)
      obtain ⟨c1, c2⟩ := cellsOf C.kind (fun x => C.has) (x := "twice") rfl
      obtain ⟨c3, c4⟩ := cellsOf C.kind (fun x => C.has) (x := "width") rfl
      refine ((EvF_add (ds := Wn.map rowD) (es := [R.drop (R.length - 1), R].map rowD) ?_ ?_ (by unfold Small; rw [List.length_map, hwl]; show _ + 2 ≤ sizeLine; omega)).as (by rw [List.map_append])).ev
      · refine ((EvF_comp (pz := fun _ => true) (f := fun p => rowD (((R ++ R).drop p).take w)) (n := R.length) (DSrc.ofSrc (Src_range1 (n := R.length) ⟨((C.kind _).trans rfl), .inr P.range⟩ (Ev_len ⟨((C.kind _).trans rfl), .inr P.len⟩ (Ev_name (d := rowD R) (by repeat (first | exact Rho.set_self | assumption | refine (Rho.set_ne (by decide)).trans ?_)) (C.has (by first | exact .inl rfl | exact .inr rfl))).evL (by unfold Small; rw [List.length_map]; omega)) (.inl (by rw [List.length_map])) (by rw [List.length_map]; omega) (by rw [List.length_map]; omega)) rfl rfl) rfl (by decide) (freeOf C.kind (fun x => C.has) (by decide)) (by decide)
          (fun j hj C' => TsL_nil) (fun j hj _ C' => ?_) (by unfold Small; omega)).as ?_).ev.evL
        · refine ((EvF_slice (ds := (R ++ R).map fun k => PyData.int (k : Nat)) (Ev_fname rfl (by decide) c1 c2 (d := rowD (R ++ R)) Rho.set_self).evL (.some (Ev_cname (d := .int (0 + (j : Nat))) rfl (if_pos rfl))) (.some (Ev_bin (Ev_cname (d := .int (0 + (j : Nat))) rfl (if_pos rfl)) (Ev_fname rfl (by decide) c3 c4 (d := .int w) (by repeat (first | exact Rho.set_self | assumption | refine (Rho.set_ne (by decide)).trans ?_))) op_add)) (by unfold Small; rw [List.length_map, List.length_append]; omega)).as ?_).ev
          rw [Int.zero_add, slc_mid, List.map_take, List.map_drop]
        · rw [made_all, hwd, List.map_map]; rfl
      · refine (EvF_List (EvAll_cons ((EvF_slice (Ev_name (d := rowD R) (by repeat (first | exact Rho.set_self | assumption | refine (Rho.set_ne (by decide)).trans ?_)) (C.has (by first | exact .inl rfl | exact .inr rfl))).evL (.some (Ev_neg Ev_const_int)) .none (by unfold Small; rw [List.length_map]; omega)).as (ds' := (R.drop (R.length - 1)).map fun k => PyData.int (k : Nat)) ?_).ev (EvAll_cons (Ev_name (d := rowD R) (by repeat (first | exact Rho.set_self | assumption | refine (Rho.set_ne (by decide)).trans ?_)) (C.has (by first | exact .inl rfl | exact .inr rfl))) EvAll_nil)) (by show 2 ≤ sizeLine; omega)).ev.evL
        have := slc_last (k := 1) (l := R.map fun k => PyData.int (k : Nat)) (by rw [List.length_map]; omega) (by decide)
        refine this.trans ?_
        rw [List.length_map, List.map_drop]
    have hrdl : ((Wn ++ [R.drop (R.length - 1), R]).map (worth fg)).length = K ^ w + 2 := by rw [List.length_map, List.length_append, hwl]; rfl
    have hlast : R.getD (R.length - 1) 0 < K := hR.2 _ (by rw [List.getD, List.getElem?_eq_getElem (by omega)]; exact List.getElem_mem _)
    have hdrop : R.drop (R.length - 1) = [R.getD (R.length - 1) 0] := by
      rw [List.drop_eq_getElem_cons (by omega), List.drop_of_length_le (by omega)]
      simp [List.getD, show R.length - 1 < R.length by omega]
    refine Tr_cons (Tr_if (b := false) (fun B => ?_) (fun q => nomatch q) (fun _ => ?_))
    · refine (Ts_or (a := false) ((Ts_cmp (EvF.as (Ev_sorted (ns := Wn.map (worth fg)) (ns' := (rowsOf K w).map (worth fg)) ⟨((C.kind _).trans rfl), .inr P.sorted⟩ ((EvF_slice (Ev_name (d := .list (((Wn ++ [R.drop (R.length - 1), R]).map (worth fg)).map .int)) (by repeat (first | exact Rho.set_self | assumption | refine (Rho.set_ne (by decide)).trans ?_)) (C.has (by first | exact .inl rfl | exact .inr rfl))).evL .none (.some (Ev_neg Ev_const_int)) (by unfold Small; rw [List.length_map, hrdl]; omega)).as ?_).ev.evL (by rw [List.length_map, hwl]; omega) hsort) rfl).ev
        (Ev_name (d := .list (((rowsOf K w).map (worth fg)).map .int)) (by repeat (first | exact Rho.set_self | assumption | refine (Rho.set_ne (by decide)).trans ?_)) (C.has (by first | exact .inl rfl | exact .inr rfl))) (cmp_ne (flat_ints (n := 7) _) (flat_ints (n := 7) _))).as (by rw [eqv_self (flat_ints (n := 7) _)]; rfl)) fun _ => (Ts_cmp (c := false) ((EvF_slice (Ev_name (d := .list (((Wn ++ [R.drop (R.length - 1), R]).map (worth fg)).map .int)) (by repeat (first | exact Rho.set_self | assumption | refine (Rho.set_ne (by decide)).trans ?_)) (C.has (by first | exact .inl rfl | exact .inr rfl))).evL (.some (Ev_neg Ev_const_int)) .none (by unfold Small; rw [List.length_map, hrdl]; omega)).as (ds' := [worth fg [R.getD (R.length - 1) 0], worth fg R].map .int) ?_).ev
        (EvF.as (ds' := [worth fg [R.getD (R.length - 1) 0], worth fg R].map .int) (EvF_List (EvAll_cons (Ev_item (k := (R.getD (R.length - 1) 0 : Nat)) (ds := fg.map .int) (d := .int (worth fg [R.getD (R.length - 1) 0])) (Ev_name (by repeat (first | exact Rho.set_self | assumption | refine (Rho.set_ne (by decide)).trans ?_)) (C.has (by first | exact .inl rfl | exact .inr rfl))).evL
          (Ev_item_neg (k := -1) (ds := R.map fun k => PyData.int (k : Nat)) (Ev_name (by repeat (first | exact Rho.set_self | assumption | refine (Rho.set_ne (by decide)).trans ?_)) (C.has (by first | exact .inl rfl | exact .inr rfl))).evL (Ev_neg Ev_const_int) (by omega) (by rw [List.length_map]; omega) (by omega) ?_) (by omega) (by omega) ?_) (EvAll_cons (Ev_worth P ((C.kind _).trans rfl) (Nat.le_trans (by decide) C.k) (Ev_name (d := rowD R) (by repeat (first | exact Rho.set_self | assumption | refine (Rho.set_ne (by decide)).trans ?_)) (C.has (by first | exact .inl rfl | exact .inr rfl))) (Ev_name (d := .list (fg.map .int)) (by repeat (first | exact Rho.set_self | assumption | refine (Rho.set_ne (by decide)).trans ?_)) (C.has (by first | exact .inl rfl | exact .inr rfl))) F.rng (by rw [F.len]; exact hR.2) hfl (by omega)) EvAll_nil)) (by show 2 ≤ sizeLine; omega)) rfl).ev
        (Cmp.as (cmp_ne (flat_ints (n := 7) _) (flat_ints (n := 7) _)) (by rw [eqv_self (flat_ints (n := 7) _)]; rfl)))).as rfl
      · have := slc_init (k := 2) (l := ((Wn ++ [R.drop (R.length - 1), R]).map (worth fg)).map PyData.int) (by rw [List.length_map, hrdl]; omega) (by decide)
        refine this.trans ?_
        rw [List.length_map, hrdl, Nat.add_sub_cancel, ← hwl, List.map_append, List.map_append, List.take_left' (by rw [List.length_map, List.length_map])]
      · have := slc_last (k := 2) (l := ((Wn ++ [R.drop (R.length - 1), R]).map (worth fg)).map PyData.int) (by rw [List.length_map, hrdl]; omega) (by decide)
        refine this.trans ?_
        rw [List.length_map, hrdl, Nat.add_sub_cancel, ← hwl, List.map_append, List.map_append, List.drop_left' (by rw [List.length_map, List.length_map]), hdrop]
        rfl
      · rw [List.length_map, show ((-1 : Int) + (R.length : Nat)).toNat = R.length - 1 by omega, List.getElem?_map, List.getElem?_eq_getElem (by omega)]
        simp [List.getD, show R.length - 1 < R.length by omega]
      · rw [Int.toNat_natCast, ints_get (by rw [F.len]; exact hlast)]
        simp [worth]
    refine Tr_nil ?_
    show Tr _ _ _ _
    obtain ⟨fa, o, fd, q1, q2, q3⟩ := P.f11.get
    refine Tr_cons (Tr_return (EvX_pure (d := .bool true) (fun B => (Ev_and (a := true) (b := true) ((Ev_cmp (Ev_name (d := rowD R) (by repeat (first | exact Rho.set_self | assumption | refine (Rho.set_ne (by decide)).trans ?_)) (C.has (by first | exact .inl rfl | exact .inr rfl))) (Ev_fn (d := rowD (hand K w)) ⟨((C.kind _).trans rfl), .inl q1⟩ q1 q2 q3 (law_hand_ok P hK1 hK2 hw1 hw2 G.handOk) (Nat.le_trans (by decide) C.k) (EvAll_cons (Ev_name (d := .int K) (by repeat (first | exact Rho.set_self | assumption | refine (Rho.set_ne (by decide)).trans ?_)) (C.has (by first | exact .inl rfl | exact .inr rfl))) (EvAll_cons (Ev_name (d := .int w) (by repeat (first | exact Rho.set_self | assumption | refine (Rho.set_ne (by decide)).trans ?_)) (C.has (by first | exact .inl rfl | exact .inr rfl))) EvAll_nil)))
      (cmp_eq (flat_rowD (n := 7) _) (flat_rowD (n := 7) _))).as (by rw [rowD_eqv, hhand, decide_eq_true rfl])) fun _ => (Ev_cmp (Ev_name (d := .list []) (by repeat (first | exact Rho.set_self | assumption | refine (Rho.set_ne (by decide)).trans ?_)) (C.has (by first | exact .inl rfl | exact .inr rfl))) (EvF_List EvAll_nil (by show 0 ≤ sizeLine; omega)).ev (cmp_eq rfl rfl)).as rfl).as rfl) rfl))
end Mine
namespace Mine
open PySem PySem.W PyProof.Rows PySem.Calls
variable {W : Wld}

theorem made_none {f : Nat → PyData} {n : Nat} : made (fun _ => false) f n = [] := by unfold made; rw [List.filter_eq_nil_iff.mpr (by intro _ _ h; cases h)]; rfl
theorem snoc_of {α : Type} {l : List α} (h : 0 < l.length) : ∃ L x, l = L ++ [x] := by
  refine ⟨l.dropLast, l.getLast (List.ne_nil_of_length_pos h), ?_⟩
  rw [List.dropLast_concat_getLast]

theorem law_C (P : Prg W) {a : Act W} (C : LawAct a) {K w : Nat} (hK1 : 1 ≤ K) (hK2 : K ≤ 4) (hw1 : 1 ≤ w) (hw2 : w ≤ 4) (hKw : K ^ w ≤ 27) (G : Good K w) {fg ms : List Int} (F : Fig fg K) (hm : ∀ m ∈ ms, 0 ≤ m ∧ m ≤ 1) (hm0 : 0 < ms.length) (hml : ms.length ≤ 64) {ρ : Rho} {adh : Addr} {H : List (Int × Int)}
    (h1 : ρ "kinds" = some (.val (.int K))) (h2 : ρ "width" = some (.val (.int w))) (h3 : ρ "figures" = some (.val (.list (fg.map .int)))) (h4 : ρ "marks" = some (.val (.list (ms.map .int)))) (h5 : ρ "rows" = some (.val (.list ((rowsOf K w).map rowD))))
    (h6 : ρ "due" = some (.val (.list (((rowsOf K w).map (worth fg)).map .int)))) (h7 : ρ "heap" = some (.own adh (.lst (H.map pr)))) (hH : isHeap H) (hp : H.Perm ((rowsOf K w).map (item fg w))) :
    Tr a (execs ((bdOf 12).drop 10) a.env) ρ (fun fd ρ' => match fd with | .ret d => d = .bool true | _ => False) := by
  have hsz := sizeLine_eq
  have hrl : (rowsOf K w).length = K ^ w := G.rlen
  have hHl : H.length = K ^ w := by rw [hp.length_eq, List.length_map, hrl]
  refine Tr_cons (Tr_assign_own (ds := []) (fun B => EvF_List EvAll_nil (by show 0 ≤ sizeLine; omega)) (fun adc => ?_) (C.has (by first | exact .inl rfl | exact .inr rfl)))
  refine Tr_cons (Tr_assign_own (ds := []) (fun B => EvF_List EvAll_nil (by show 0 ≤ sizeLine; omega)) (fun adb => ?_) (C.has (by first | exact .inl rfl | exact .inr rfl)))
  refine Tr_cons (Tr_for (n := K ^ w) (fun B => Src_range1 (b := (K ^ w : Nat)) ⟨((C.kind _).trans rfl), .inr P.range⟩ ((Ev_len ⟨((C.kind _).trans rfl), .inr P.len⟩ (Ev_name (d := .list ((rowsOf K w).map rowD)) (by repeat (first | exact Rho.set_self | assumption | refine (Rho.set_ne (by decide)).trans ?_)) (C.has (by first | exact .inl rfl | exact .inr rfl))).evL (by unfold Small; rw [List.length_map]; omega)).as (by rw [List.length_map, hrl])) (.inl rfl) (by omega) (by omega)) (C.has (by first | exact .inl rfl | exact .inr rfl))
    (fun i ρ => ∃ (Hc cm : List (Int × Int)), cm.length = i ∧ isHeap Hc ∧ cm.Pairwise le2 ∧ (∀ c ∈ cm, ∀ h ∈ Hc, le2 c h) ∧ (cm ++ Hc).Perm ((rowsOf K w).map (item fg w)) ∧ ρ "kinds" = some (.val (.int K)) ∧ ρ "width" = some (.val (.int w)) ∧ ρ "figures" = some (.val (.list (fg.map .int))) ∧ ρ "marks" = some (.val (.list (ms.map .int))) ∧ ρ "rows" = some (.val (.list ((rowsOf K w).map rowD))) ∧
      ρ "due" = some (.val (.list (((rowsOf K w).map (worth fg)).map .int))) ∧ ρ "heap" = some (.own adh (.lst (Hc.map pr))) ∧ ρ "came" = some (.own adc (.lst (cm.map pr))) ∧ ρ "bent" = some (.own adb (.lst [])))
    ⟨H, [], rfl, hH, .nil, fun c hc => absurd hc List.not_mem_nil, hp, (by repeat (first | exact Rho.set_self | assumption | refine (Rho.set_ne (by decide)).trans ?_)), (by repeat (first | exact Rho.set_self | assumption | refine (Rho.set_ne (by decide)).trans ?_)), (by repeat (first | exact Rho.set_self | assumption | refine (Rho.set_ne (by decide)).trans ?_)), (by repeat (first | exact Rho.set_self | assumption | refine (Rho.set_ne (by decide)).trans ?_)), (by repeat (first | exact Rho.set_self | assumption | refine (Rho.set_ne (by decide)).trans ?_)), (by repeat (first | exact Rho.set_self | assumption | refine (Rho.set_ne (by decide)).trans ?_)), (by repeat (first | exact Rho.set_self | assumption | refine (Rho.set_ne (by decide)).trans ?_)), (by repeat (first | exact Rho.set_self | assumption | refine (Rho.set_ne (by decide)).trans ?_)), (by repeat (first | exact Rho.set_self | assumption | refine (Rho.set_ne (by decide)).trans ?_))⟩ (fun i ρ hi hj => ?_) fun ρ hj => ?_)
  · clear h1 h2 h3 h4 h5 h6 h7 hH hp hHl
    obtain ⟨Hc, cm, hcl, hH, hcs, hch, hp, h1, h2, h3, h4, h5, h6, h7, h8, h9⟩ := hj
    have hlen : cm.length + Hc.length = K ^ w := by have := hp.length_eq; rw [List.length_append, List.length_map, hrl] at this; exact this
    obtain ⟨c1, c2⟩ := cellsOf C.kind (fun x => C.has) (x := "heap") rfl
    refine Tr_cons (Tr_expr (EvX_extend (ad := adb) (ds := []) (es := []) (by repeat (first | exact Rho.set_self | assumption | refine (Rho.set_ne (by decide)).trans ?_)) (C.has (by first | exact .inl rfl | exact .inr rfl)) (fun B => ?_) (by show 0 + 0 ≤ sizeLine; omega) ?_) not_interactive)
    · refine ((EvF_comp (pz := fun _ => false) (f := fun _ => .none) (n := Hc.length - 1) (DSrc.ofSrc (Src_range2 (a := 1) (b := (Hc.length : Nat)) (n := Hc.length - 1) ⟨((C.kind _).trans rfl), .inr P.range⟩ Ev_const_int ((Ev_len (ds := Hc.map pr) ⟨((C.kind _).trans rfl), .inr P.len⟩ (EvL_own (ad := adh) (by repeat (first | exact Rho.set_self | assumption | refine (Rho.set_ne (by decide)).trans ?_)) (C.has (by first | exact .inl rfl | exact .inr rfl))) (by unfold Small; rw [List.length_map]; omega)).as (by rw [List.length_map])) (by omega) (by omega) (by omega) (by omega) (by omega)) rfl rfl) rfl (by decide) (freeOf C.kind (fun x => C.has) (by decide)) (by decide)
        (fun j hj C' => ?_) (fun j hj q => nomatch q) (by unfold Small; omega)).as made_none).ev.evL
      refine TsL_one ((Ts_cmp (Ev_item (k := (j + 1 : Nat)) (d := pr (at2 Hc (j + 1))) (EvL_fname (ad := adh) (ds := Hc.map pr) rfl (by decide) c1 c2 (by repeat (first | exact Rho.set_self | assumption | refine (Rho.set_ne (by decide)).trans ?_))) ((Ev_cname (d := .int (1 + (j : Nat))) rfl (if_pos rfl)).as (by rw [Int.add_comm]; rfl)) (by omega) (by omega) (getD_map (by omega)))
        (Ev_item (k := (j / 2 : Nat)) (d := pr (at2 Hc (j / 2))) (EvL_fname (ad := adh) (ds := Hc.map pr) rfl (by decide) c1 c2 (by repeat (first | exact Rho.set_self | assumption | refine (Rho.set_ne (by decide)).trans ?_))) ((Ev_bin (Ev_bin (Ev_cname (d := .int (1 + (j : Nat))) rfl (if_pos rfl)) Ev_const_int op_sub) Ev_const_int (op_floordiv (by decide) (by decide))).as ?_) (by omega) (by omega) (getD_map (by omega))) cmp_lt_pair).as ?_)
      · rw [Int.fdiv_eq_ediv_of_nonneg _ (by decide)]
        congr 1
        omega
      · exact hH (j + 1) (by omega) (by omega)
    obtain ⟨L, x, hLx⟩ := snoc_of (l := Hc) (by omega)
    subst hLx
    rw [List.length_append, List.length_singleton] at hlen
    obtain ⟨g1, g2, g3⟩ := pop_heap hH
    obtain ⟨fa, o, fd, q1, q2, q3⟩ := P.f4.get
    refine Tr_cons (Tr_expr (EvX_append (ad := adc) (ds0 := cm.map pr) (by repeat (first | exact Rho.set_self | assumption | refine (Rho.set_ne (by decide)).trans ?_)) (C.has (by first | exact .inl rfl | exact .inr rfl)) (EvX_fn (ad := adh) (m := .lst ((L ++ [x]).map pr)) ((C.kind _).trans rfl) q1 q2 q3 (by repeat (first | exact Rho.set_self | assumption | refine (Rho.set_ne (by decide)).trans ?_)) (C.has (by first | exact .inl rfl | exact .inr rfl)) (heappop_ok P (by unfold Small; omega)) C.k (fun B => EvAll_nil) ⟨cm.map pr, (by repeat (first | exact Rho.set_self | assumption | refine (Rho.set_ne (by decide)).trans ?_)), by unfold Small; rw [List.length_map]; omega, ?_⟩)) not_interactive)
    refine Tr_nil ⟨popH L x, cm ++ [popV L x], by rw [List.length_append, hcl]; rfl, g1, ?_, ?_, ?_, (by repeat (first | exact Rho.set_self | assumption | refine (Rho.set_ne (by decide)).trans ?_)), (by repeat (first | exact Rho.set_self | assumption | refine (Rho.set_ne (by decide)).trans ?_)), (by repeat (first | exact Rho.set_self | assumption | refine (Rho.set_ne (by decide)).trans ?_)), (by repeat (first | exact Rho.set_self | assumption | refine (Rho.set_ne (by decide)).trans ?_)), (by repeat (first | exact Rho.set_self | assumption | refine (Rho.set_ne (by decide)).trans ?_)), (by repeat (first | exact Rho.set_self | assumption | refine (Rho.set_ne (by decide)).trans ?_)), (by repeat (first | exact Rho.set_self | assumption | refine (Rho.set_ne (by decide)).trans ?_)), ?_, (by repeat (first | exact Rho.set_self | assumption | refine (Rho.set_ne (by decide)).trans ?_))⟩
    · rw [List.pairwise_append]
      refine ⟨hcs, List.pairwise_singleton _ _, fun c hc y hy => ?_⟩
      rw [List.mem_singleton.mp hy]
      exact hch c hc _ (g2.mem_iff.mp (.head _))
    · intro c hc h hh
      rcases List.mem_append.mp hc with q | q
      · exact hch c q h (g2.mem_iff.mp (.tail _ hh))
      · rw [List.mem_singleton.mp q]; exact g3 h hh
    · rw [List.append_assoc]
      exact (g2.append_left cm).trans hp
    · rw [List.map_append]; exact Rho.set_self
  · clear h1 h2 h3 h4 h5 h6 h7 hH hp hHl
    obtain ⟨Hc, cm, hcl, hH, hcs, hch, hp, h1, h2, h3, h4, h5, h6, h7, h8, h9⟩ := hj
    have hlen : cm.length + Hc.length = K ^ w := by have := hp.length_eq; rw [List.length_append, List.length_map, hrl] at this; exact this
    have hnil : Hc = [] := List.eq_nil_of_length_eq_zero (by omega)
    subst hnil
    rw [List.append_nil] at hp
    have hcame := G.came F hp hcs
    subst hcame
    refine Tr_freeze h8 (Tr_freeze (x := "bent") (ad := adb) (ds := []) (by repeat (first | exact Rho.set_self | assumption | refine (Rho.set_ne (by decide)).trans ?_)) ?_)
    exact law_D P C hK1 hK2 hw1 hw2 hKw G F hm hm0 hml (by repeat (first | exact Rho.set_self | assumption | refine (Rho.set_ne (by decide)).trans ?_)) (by repeat (first | exact Rho.set_self | assumption | refine (Rho.set_ne (by decide)).trans ?_)) (by repeat (first | exact Rho.set_self | assumption | refine (Rho.set_ne (by decide)).trans ?_)) (by repeat (first | exact Rho.set_self | assumption | refine (Rho.set_ne (by decide)).trans ?_)) (by repeat (first | exact Rho.set_self | assumption | refine (Rho.set_ne (by decide)).trans ?_)) (by repeat (first | exact Rho.set_self | assumption | refine (Rho.set_ne (by decide)).trans ?_)) (by repeat (first | exact Rho.set_self | assumption | refine (Rho.set_ne (by decide)).trans ?_)) Rho.set_self
end Mine
namespace Mine
open PySem PySem.W PyProof.Rows PySem.Calls
variable {W : Wld}

theorem Ev_cell (P : Prg W) {V : Vw W} (hG : V.env.kindOf "_law_cell" = some .globalImplicit) (hV : 1 ≤ V.k) {ns : List Int} {k : Nat} {e f : Expr} {np p : Pos} (h1 : Ev V e (.list (ns.map .int))) (h2 : Ev V f (.int k)) (hz : ns.length ≤ 63) (hk : k < 2 ^ 32)
    (hs : starEach [e, f] V.env = (false, eval e V.env) :: starEach [f] V.env := by rfl) (hs2 : starEach [f] V.env = (false, eval f V.env) :: starEach [] V.env := by rfl) : Ev V (.Call (.Name "_law_cell" np) [e, f] [] p) (.int (cell ns k)) := by
  obtain ⟨fa, o, fd, q1, q2, q3⟩ := P.f8.get
  exact Ev_fn ⟨hG, .inl q1⟩ q1 q2 q3 (law_cell_ok P hz hk) hV (EvAll_cons h1 (EvAll_cons h2 EvAll_nil hs2) hs) (by decide) hs

theorem erase_map {α β : Type} {f : α → β} {l : List α} {i : Nat} : (l.map f).eraseIdx i = (l.eraseIdx i).map f := by
  rw [List.eraseIdx_eq_take_drop_succ, List.eraseIdx_eq_take_drop_succ, List.map_append, List.map_take, List.map_drop]
theorem erase_perm {α : Type} {l : List α} {i : Nat} (h : i < l.length) : (l[i] :: l.eraseIdx i).Perm l := by
  rw [List.eraseIdx_eq_take_drop_succ]
  refine (List.perm_middle (l₁ := l.take i)).symm.trans (.of_eq ?_)
  rw [← List.drop_eq_getElem_cons h, List.take_append_drop]

theorem law_B (P : Prg W) {a : Act W} (C : LawAct a) {K w : Nat} (hK1 : 1 ≤ K) (hK2 : K ≤ 4) (hw1 : 1 ≤ w) (hw2 : w ≤ 4) (hKw : K ^ w ≤ 27) (G : Good K w) {ns fg ms : List Int} (hns : ns.length ≤ 63) (F : Fig fg K) (hm : ∀ m ∈ ms, 0 ≤ m ∧ m ≤ 1) (hm0 : 0 < ms.length) (hml : ms.length ≤ 64) {ρ : Rho}
    (h0 : ρ "script" = some (.val (.list (ns.map .int)))) (h1 : ρ "kinds" = some (.val (.int K))) (h2 : ρ "width" = some (.val (.int w))) (h3 : ρ "figures" = some (.val (.list (fg.map .int)))) (h4 : ρ "marks" = some (.val (.list (ms.map .int)))) (h5 : ρ "rows" = some (.val (.list ((rowsOf K w).map rowD))))
    (h6 : ρ "due" = some (.val (.list (((rowsOf K w).map (worth fg)).map .int)))) :
    Tr a (execs ((bdOf 12).drop 7) a.env) ρ (fun fd ρ' => match fd with | .ret d => d = .bool true | _ => False) := by
  have hsz := sizeLine_eq
  have hfl : fg.length ≤ 64 := by rw [F.len]; omega
  have hrl : (rowsOf K w).length = K ^ w := G.rlen
  refine Tr_cons (Tr_assign_own (ds := []) (fun B => EvF_List EvAll_nil (by show 0 ≤ sizeLine; omega)) (fun adh => ?_) (C.has (by first | exact .inl rfl | exact .inr rfl)))
  refine Tr_cons (Tr_assign_own (ds := (rowsOf K w).map rowD) (fun B => EvF_list ⟨((C.kind _).trans rfl), .inr P.list⟩ (Ev_name (by repeat (first | exact Rho.set_self | assumption | refine (Rho.set_ne (by decide)).trans ?_)) (C.has (by first | exact .inl rfl | exact .inr rfl))).evL (by unfold Small; rw [List.length_map]; omega)) (fun adl => ?_) (C.has (by first | exact .inl rfl | exact .inr rfl)))
  refine Tr_cons (Tr_for (n := K ^ w) (fun B => Src_range1 (b := (K ^ w : Nat)) ⟨((C.kind _).trans rfl), .inr P.range⟩ ((Ev_len ⟨((C.kind _).trans rfl), .inr P.len⟩ (Ev_name (d := .list ((rowsOf K w).map rowD)) (by repeat (first | exact Rho.set_self | assumption | refine (Rho.set_ne (by decide)).trans ?_)) (C.has (by first | exact .inl rfl | exact .inr rfl))).evL (by unfold Small; rw [List.length_map]; omega)).as (by rw [List.length_map, hrl])) (.inl rfl) (by omega) (by omega)) (C.has (by first | exact .inl rfl | exact .inr rfl))
    (fun i ρ => ∃ (left : List (List Nat)) (Hc : List (Int × Int)), left.length + i = K ^ w ∧ isHeap Hc ∧ (Hc ++ left.map (item fg w)).Perm ((rowsOf K w).map (item fg w)) ∧ (∀ r ∈ left, r ∈ rowsOf K w) ∧ ρ "script" = some (.val (.list (ns.map .int))) ∧ ρ "kinds" = some (.val (.int K)) ∧ ρ "width" = some (.val (.int w)) ∧ ρ "figures" = some (.val (.list (fg.map .int))) ∧ ρ "marks" = some (.val (.list (ms.map .int))) ∧ ρ "rows" = some (.val (.list ((rowsOf K w).map rowD))) ∧
      ρ "due" = some (.val (.list (((rowsOf K w).map (worth fg)).map .int))) ∧ ρ "heap" = some (.own adh (.lst (Hc.map pr))) ∧ ρ "left" = some (.own adl (.lst (left.map rowD))))
    ⟨rowsOf K w, [], hrl, fun i _ hi => absurd hi (Nat.not_lt_zero _), .refl _, fun r hr => hr, (by repeat (first | exact Rho.set_self | assumption | refine (Rho.set_ne (by decide)).trans ?_)), (by repeat (first | exact Rho.set_self | assumption | refine (Rho.set_ne (by decide)).trans ?_)), (by repeat (first | exact Rho.set_self | assumption | refine (Rho.set_ne (by decide)).trans ?_)), (by repeat (first | exact Rho.set_self | assumption | refine (Rho.set_ne (by decide)).trans ?_)), (by repeat (first | exact Rho.set_self | assumption | refine (Rho.set_ne (by decide)).trans ?_)), (by repeat (first | exact Rho.set_self | assumption | refine (Rho.set_ne (by decide)).trans ?_)), (by repeat (first | exact Rho.set_self | assumption | refine (Rho.set_ne (by decide)).trans ?_)), (by repeat (first | exact Rho.set_self | assumption | refine (Rho.set_ne (by decide)).trans ?_)), (by repeat (first | exact Rho.set_self | assumption | refine (Rho.set_ne (by decide)).trans ?_))⟩ (fun i ρ hi hj => ?_) fun ρ hj => ?_)
  · clear h0 h1 h2 h3 h4 h5 h6
    obtain ⟨left, Hc, hll, hH, hp, hin, h0, h1, h2, h3, h4, h5, h6, h7, h8⟩ := hj
    have hlen : Hc.length + left.length = K ^ w := by have := hp.length_eq; rw [List.length_append, List.length_map, List.length_map, hrl] at this; exact this
    have hn : (0 : Int) < left.length := by omega
    have m1 := Int.fmod_nonneg_of_pos (cell ns (6 + i)) hn
    have m2 := Int.fmod_lt_of_pos (cell ns (6 + i)) hn
    obtain ⟨j, hj⟩ : ∃ j : Nat, ((left.length : Nat) : Int) - 1 - (cell ns (6 + i)).fmod (left.length : Nat) = j := ⟨(((left.length : Nat) : Int) - 1 - (cell ns (6 + i)).fmod (left.length : Nat)).toNat, by omega⟩
    have hjl : j < left.length := by omega
    have hrow : left[j]? = some left[j] := List.getElem?_eq_getElem hjl
    have herase : (left[j] :: left.eraseIdx j).Perm left := erase_perm hjl
    have hrin : left[j] ∈ rowsOf K w := hin _ (List.getElem_mem hjl)
    have hel : (left.eraseIdx j).length + 1 = left.length := by rw [List.length_eraseIdx, if_pos hjl]; omega
    generalize left[j] = r at hrow herase hrin
    refine Tr_cons (Tr_assign (EvX_pop_at (ad := adl) (ds := left.map rowD) (i := (j : Nat)) (d := rowD r) (by repeat (first | exact Rho.set_self | assumption | refine (Rho.set_ne (by decide)).trans ?_)) (C.has (by first | exact .inl rfl | exact .inr rfl)) (by unfold Small; rw [List.length_map]; omega) (fun B => ?_) (by omega) (by rw [Int.toNat_natCast, List.getElem?_map, hrow]; rfl) ?_) (C.has (by first | exact .inl rfl | exact .inr rfl)))
    · exact (Ev_bin (Ev_bin (Ev_len (ds := left.map rowD) ⟨((C.kind _).trans rfl), .inr P.len⟩ (EvL_own (ad := adl) (by repeat (first | exact Rho.set_self | assumption | refine (Rho.set_ne (by decide)).trans ?_)) (C.has (by first | exact .inl rfl | exact .inr rfl))) (by unfold Small; rw [List.length_map]; omega)) Ev_const_int op_sub)
        (Ev_bin (Ev_cell P (k := 6 + i) ((C.kind _).trans rfl) (Nat.le_trans (by decide) C.k) (Ev_name (d := .list (ns.map .int)) (by repeat (first | exact Rho.set_self | assumption | refine (Rho.set_ne (by decide)).trans ?_)) (C.has (by first | exact .inl rfl | exact .inr rfl))) ((Ev_bin Ev_const_int (Ev_name (d := .int (0 + (i : Nat))) (by repeat (first | exact Rho.set_self | assumption | refine (Rho.set_ne (by decide)).trans ?_)) (C.has (by first | exact .inl rfl | exact .inr rfl))) op_add).as (by rw [Int.zero_add]; rfl)) hns (by omega)) (Ev_len (ds := left.map rowD) ⟨((C.kind _).trans rfl), .inr P.len⟩ (EvL_own (ad := adl) (by repeat (first | exact Rho.set_self | assumption | refine (Rho.set_ne (by decide)).trans ?_)) (C.has (by first | exact .inl rfl | exact .inr rfl))) (by unfold Small; rw [List.length_map]; omega)) (op_mod (by rw [List.length_map]; omega))) op_sub).as (by rw [List.length_map, hj])
    rw [Int.toNat_natCast, erase_map]
    have hword := G.word r hrin
    have hrpos : r ≠ [] := fun e => by rw [e] at hword; have := hword.1; simp at this; omega
    have hrots := G.rot r hrin
    obtain ⟨c1, c2⟩ := cellsOf C.kind (fun x => C.has) (x := "row") rfl
    refine Tr_cons (Tr_assign (EvX_pure (d := .list ((told fg w r).map .int)) (fun B => ?_) ?_) (C.has (by first | exact .inl rfl | exact .inr rfl)))
    · refine Ev_read P ((C.kind _).trans rfl) (Nat.le_trans (by decide) C.k) (ms := ms) (rows := rots w r) ?_ (Ev_name (d := .list (fg.map .int)) (by repeat (first | exact Rho.set_self | assumption | refine (Rho.set_ne (by decide)).trans ?_)) (C.has (by first | exact .inl rfl | exact .inr rfl))) (Ev_name (d := .list (ms.map .int)) (by repeat (first | exact Rho.set_self | assumption | refine (Rho.set_ne (by decide)).trans ?_)) (C.has (by first | exact .inl rfl | exact .inr rfl))) F.rng hm hm0 hml hfl (fun q hq => ?_) (by unfold rots; rw [List.length_map, List.length_range]; omega)
      · refine ((EvF_comp (pz := fun _ => true) (f := fun p => rowD (r.drop p ++ r.take p)) (n := w) (DSrc.ofSrc (Src_range1 (b := (w : Nat)) (n := w) ⟨((C.kind _).trans rfl), .inr P.range⟩ (Ev_name (by repeat (first | exact Rho.set_self | assumption | refine (Rho.set_ne (by decide)).trans ?_)) (C.has (by first | exact .inl rfl | exact .inr rfl))) (.inl rfl) (by omega) (by omega)) rfl rfl) rfl (by decide) (freeOf C.kind (fun x => C.has) (by decide)) (by decide)
          (fun p hp C' => TsL_nil) (fun p hp _ C' => ?_) (by unfold Small; omega)).as ?_).ev
        · refine ((EvF_add (ds := (r.drop p).map fun k => PyData.int (k : Nat)) (es := (r.take p).map fun k => PyData.int (k : Nat)) ((EvF_slice (ds := r.map fun k => PyData.int (k : Nat)) (Ev_fname rfl (by decide) c1 c2 (d := rowD r) (by repeat (first | exact Rho.set_self | assumption | refine (Rho.set_ne (by decide)).trans ?_))).evL (.some (Ev_cname (d := .int (0 + (p : Nat))) rfl (if_pos rfl))) .none (by unfold Small; rw [List.length_map, hword.1]; omega)).as ?_).ev.evL
            ((EvF_slice (ds := r.map fun k => PyData.int (k : Nat)) (Ev_fname rfl (by decide) c1 c2 (d := rowD r) (by repeat (first | exact Rho.set_self | assumption | refine (Rho.set_ne (by decide)).trans ?_))).evL .none (.some (Ev_cname (d := .int (0 + (p : Nat))) rfl (if_pos rfl))) (by unfold Small; rw [List.length_map, hword.1]; omega)).as ?_).ev.evL (by unfold Small; rw [List.length_map, List.length_map, List.length_drop, List.length_take, hword.1]; omega)).as (by rw [List.map_append])).ev
          · rw [Int.zero_add, slc_drop, List.map_drop]
          · rw [Int.zero_add, slc_take, List.map_take]
        · rw [made_all]; unfold rots; rw [List.map_map]; rfl
      · have := (hrots q hq).1
        exact ⟨fun e => by rw [e] at this; have := this.1; simp at this; omega, by rw [this.1]; omega, by rw [F.len]; exact this.2⟩
    have htl := Good.toldLen (fg := fg) (W := w) r
    have hth := G.toldHead (fg := fg) hrin
    have hsize := G.size' F hrin
    have hsin := G.sizeIn (fg := fg) hrin
    obtain ⟨hm1, hm2⟩ := G.min F hrin
    have hitem : item fg w r = (worth fg (minRot w r), ((sizeOf' w r : Nat) : Int)) := rfl
    generalize told fg w r = tl at htl hth hsize hsin hm1 hm2
    refine Tr_cons (Tr_assign (EvX_pure (d := .int (sizeOf' w r : Nat)) (fun B => ?_) ?_) (C.has (by first | exact .inl rfl | exact .inr rfl)))
    · refine (Ev_bin (Ev_const_int (i := 1)) (Ev_index (ns := tl.drop 1 ++ tl.take 1) ((EvF_add (ds := (tl.drop 1).map .int) (es := (tl.take 1).map .int) ((EvF_slice (ds := tl.map .int) (Ev_name (by repeat (first | exact Rho.set_self | assumption | refine (Rho.set_ne (by decide)).trans ?_)) (C.has (by first | exact .inl rfl | exact .inr rfl))).evL (.some Ev_const_int) .none (by unfold Small; rw [List.length_map, htl]; omega)).as ?_).ev.evL
        ((EvF_slice (ds := tl.map .int) (Ev_name (by repeat (first | exact Rho.set_self | assumption | refine (Rho.set_ne (by decide)).trans ?_)) (C.has (by first | exact .inl rfl | exact .inr rfl))).evL .none (.some Ev_const_int) (by unfold Small; rw [List.length_map, htl]; omega)).as ?_).ev.evL (by unfold Small; rw [List.length_map, List.length_map, List.length_drop, List.length_take, htl]; omega)).as (by rw [List.map_append])).ev.evL
        (Ev_item (k := 0) (d := .int (worth fg r)) (ds := tl.map .int) (Ev_name (by repeat (first | exact Rho.set_self | assumption | refine (Rho.set_ne (by decide)).trans ?_)) (C.has (by first | exact .inl rfl | exact .inr rfl))).evL Ev_const_int (by omega) (by omega) (by rw [List.getElem?_map]; exact congrArg _ hth)) hsin (by unfold Small; rw [List.length_append, List.length_drop, List.length_take, htl]; omega)) op_add).as ?_
      · exact (slc_drop (p := 1)).trans (by rw [List.map_drop])
      · exact (slc_take (s := 1)).trans (by rw [List.map_take])
      · rw [← hsize]; congr 1
    obtain ⟨fa, o, fd, q1, q2, q3⟩ := P.f3.get
    obtain ⟨g1, g2⟩ := push_heap (x := item fg w r) hH
    refine Tr_cons (Tr_if_isnot (EvX_fn (ad := adh) (m := .lst (Hc.map pr)) (m' := .lst ((push Hc (item fg w r)).map pr)) ((C.kind _).trans rfl) q1 q2 q3 (by repeat (first | exact Rho.set_self | assumption | refine (Rho.set_ne (by decide)).trans ?_)) (C.has (by first | exact .inl rfl | exact .inr rfl)) (heappush_ok P (by unfold Small; omega)) (Nat.le_trans (by decide) C.k)
      (fun B => EvAll_cons (Ev_Tuple (EvAll_cons (Ev_min (ns := tl) (m := worth fg (minRot w r)) ⟨((C.kind _).trans rfl), .inr P.min⟩ (Ev_name (d := .list (tl.map .int)) (by repeat (first | exact Rho.set_self | assumption | refine (Rho.set_ne (by decide)).trans ?_)) (C.has (by first | exact .inl rfl | exact .inr rfl))).evL hm1 hm2) (EvAll_cons (Ev_name (d := .int (sizeOf' w r : Nat)) (by repeat (first | exact Rho.set_self | assumption | refine (Rho.set_ne (by decide)).trans ?_)) (C.has (by first | exact .inl rfl | exact .inr rfl))) EvAll_nil)) (by show 2 ≤ sizeLine; omega)) EvAll_nil) ⟨rfl, ?_⟩))
    refine Tr_nil ?_
    show Tr _ _ _ _
    refine Tr_nil ⟨left.eraseIdx j, push Hc (item fg w r), by omega, g1, ?_, fun q hq => hin q (List.mem_of_mem_eraseIdx hq), (by repeat (first | exact Rho.set_self | assumption | refine (Rho.set_ne (by decide)).trans ?_)), (by repeat (first | exact Rho.set_self | assumption | refine (Rho.set_ne (by decide)).trans ?_)), (by repeat (first | exact Rho.set_self | assumption | refine (Rho.set_ne (by decide)).trans ?_)), (by repeat (first | exact Rho.set_self | assumption | refine (Rho.set_ne (by decide)).trans ?_)), (by repeat (first | exact Rho.set_self | assumption | refine (Rho.set_ne (by decide)).trans ?_)), (by repeat (first | exact Rho.set_self | assumption | refine (Rho.set_ne (by decide)).trans ?_)), (by repeat (first | exact Rho.set_self | assumption | refine (Rho.set_ne (by decide)).trans ?_)), Rho.set_self, (by repeat (first | exact Rho.set_self | assumption | refine (Rho.set_ne (by decide)).trans ?_))⟩
    refine (g2.append_right _).trans (.trans ?_ hp)
    rw [List.cons_append]
    refine List.perm_middle.symm.trans (List.Perm.append_left Hc ?_)
    rw [← List.map_cons]
    exact herase.map _
  · clear h0 h1 h2 h3 h4 h5 h6
    obtain ⟨left, Hc, hll, hH, hp, hin, h0, h1, h2, h3, h4, h5, h6, h7, h8⟩ := hj
    have hnil : left = [] := List.eq_nil_of_length_eq_zero (by omega)
    subst hnil
    rw [List.map_nil, List.append_nil] at hp
    exact law_C P C hK1 hK2 hw1 hw2 hKw G F hm hm0 hml h1 h2 h3 h4 h5 h6 h7 hH hp
end Mine
namespace Mine
open PySem PySem.W PyProof.Rows PySem.Calls
variable {W : Wld}

/-- the figures that the script asks for -/
def fgv (ns : List Int) : Nat → Int
  | 0 => (cell ns 1).fmod 16
  | i + 1 => fgv ns i + 1 + (cell ns (2 + i)).fmod 16
def figs (ns : List Int) (n : Nat) : List Int := (List.range n).map (fgv ns)
theorem figs_len {ns : List Int} {n : Nat} : (figs ns n).length = n := by simp [figs]
theorem figs_succ {ns : List Int} {n : Nat} : figs ns (n + 1) = figs ns n ++ [fgv ns n] := by unfold figs; rw [List.range_succ, List.map_append]; rfl
theorem figs_get {ns : List Int} {n k : Nat} (h : k < n) : (figs ns n).getD k 0 = fgv ns k := by simp [figs, List.getD, h]
theorem fgv_rng (ns : List Int) : ∀ k, 0 ≤ fgv ns k ∧ fgv ns k ≤ 15 + 16 * k := by
  intro k
  induction k with
  | zero =>
    have h1 := Int.fmod_nonneg_of_pos (cell ns 1) (b := 16) (by decide)
    have h2 := Int.fmod_lt_of_pos (cell ns 1) (b := 16) (by decide)
    unfold fgv
    omega
  | succ k ih =>
    have h1 := Int.fmod_nonneg_of_pos (cell ns (2 + k)) (b := 16) (by decide)
    have h2 := Int.fmod_lt_of_pos (cell ns (2 + k)) (b := 16) (by decide)
    unfold fgv
    omega
theorem fgv_up (ns : List Int) (i : Nat) : ∀ d, fgv ns i < fgv ns (i + d + 1) := by
  have st : ∀ k, fgv ns k < fgv ns (k + 1) := fun k => by
    have h1 := Int.fmod_nonneg_of_pos (cell ns (2 + k)) (b := 16) (by decide)
    show _ < fgv ns k + 1 + (cell ns (2 + k)).fmod 16
    omega
  intro d
  induction d with
  | zero => exact st i
  | succ d ih => exact Int.lt_trans ih (st _)
theorem figs_Fig (ns : List Int) {K : Nat} (hK : K ≤ 4) : Fig (figs ns K) K where
  len := figs_len
  rng := fun k => by
    rcases Nat.lt_or_ge k K with h | h
    · rw [figs_get h]; have := fgv_rng ns k; omega
    · have : (figs ns K).getD k 0 = 0 := by simp [figs, List.getD, h]
      rw [this]; decide
  up := fun i j hij hj => by
    rw [figs_get hj, figs_get (by omega)]
    obtain ⟨d, rfl⟩ : ∃ d, j = i + d + 1 := ⟨j - i - 1, by omega⟩
    exact fgv_up ns i d
def mks (ns : List Int) (w : Nat) : List Int := (List.range w).map fun p => ((cell ns 5 + 5).fdiv (2 ^ p)).fmod 2
theorem mks_rng (ns : List Int) (w : Nat) : ∀ m ∈ mks ns w, 0 ≤ m ∧ m ≤ 1 := fun m hm => by
  obtain ⟨p, _, rfl⟩ := List.mem_map.mp hm
  have h1 := Int.fmod_nonneg_of_pos ((cell ns 5 + 5).fdiv (2 ^ p)) (b := 2) (by decide)
  have h2 := Int.fmod_lt_of_pos ((cell ns 5 + 5).fdiv (2 ^ p)) (b := 2) (by decide)
  omega
theorem range_getD {α : Type} (l : List α) (d : α) : (List.range l.length).map (fun i => l.getD i d) = l := by
  apply List.ext_getElem
  · simp
  · intro i h1 h2
    simp [List.getD, h2]
theorem made2_rows {K t : Nat} : made2 (fun i j => rowD ((rowsOf K t).getD i [] ++ [j])) (rowsOf K t).length K = (rowsOf K (t + 1)).map rowD := by
  have e : rowsOf K (t + 1) = (rowsOf K t).flatMap fun r => (List.range K).map fun k => r ++ [k] := rfl
  unfold made2
  rw [e, List.map_flatMap]
  conv => rhs; rw [← range_getD (rowsOf K t) []]
  rw [List.flatMap_map]
  congr 1
  funext i
  rw [List.map_map]; rfl
theorem rows_getD {l : List (List Nat)} {i : Nat} (h : i < l.length) : (l.map rowD).getD i .none = rowD (l.getD i []) := by simp [List.getD, h]

theorem swaps_of {a : Act W} {elt : Expr} {gens : List Comprehension} {sc : Scope} {pos py : Pos} {y : Str} {line : Nat} (hy : a.env.kindOf y = some .local) (hl : (py.line == pos.line) = true) (hn : (sc.names.any fun (n, k) => n == y && (k == .local || k == .cell)) = false) :
    swapsWith (.ListComp elt gens sc pos) (some (.Name y py)) line a.env = pure true := by
  show (pure (a.env.blockKind == .function && a.env.kindOf y == some .local && py.line == pos.line && !(sc.names.any fun (n, k) => n == y && (k == .local || k == .cell))) : Sem Bool) = pure true
  have hbk : a.env.blockKind = .function := by unfold Env.blockKind; rw [a.kind]; rfl
  rw [hbk, hy, hl, hn]
  rfl
theorem law_A1 (P : Prg W) {a : Act W} (C : LawAct a) {K w : Nat} (hK1 : 1 ≤ K) (hK2 : K ≤ 4) (hw1 : 1 ≤ w) (hw2 : w ≤ 4) (hKw : K ^ w ≤ 27) (G : Good K w) {ns fg ms : List Int} (hns : ns.length ≤ 63) (F : Fig fg K) (hm : ∀ m ∈ ms, 0 ≤ m ∧ m ≤ 1) (hm0 : 0 < ms.length) (hml : ms.length ≤ 64) {ρ : Rho}
    (h0 : ρ "script" = some (.val (.list (ns.map .int)))) (h1 : ρ "kinds" = some (.val (.int K))) (h2 : ρ "width" = some (.val (.int w))) (h3 : ρ "figures" = some (.val (.list (fg.map .int)))) (h4 : ρ "marks" = some (.val (.list (ms.map .int)))) :
    Tr a (execs ((bdOf 12).drop 4) a.env) ρ (fun fd ρ' => match fd with | .ret d => d = .bool true | _ => False) := by
  have hsz := sizeLine_eq
  have hfl : fg.length ≤ 64 := by rw [F.len]; omega
  have k1 : 1 ≤ a.k := Nat.le_trans (by decide) C.k
  obtain ⟨c3, c4⟩ := cellsOf C.kind (fun x => C.has) (x := "kinds") rfl
  obtain ⟨c5, c6⟩ := cellsOf C.kind (fun x => C.has) (x := "figures") rfl
  refine Tr_cons (Tr_assign (EvX_pure (d := .list ((rowsOf K 0).map rowD)) (fun B => (EvF_List (EvAll_cons (EvF_List EvAll_nil (by show 0 ≤ sizeLine; omega)).ev EvAll_nil) (by show 1 ≤ sizeLine; omega)).ev) ?_) (C.has (by first | exact .inl rfl | exact .inr rfl)))
  refine Tr_cons (Tr_for (n := w) (fun B => Src_range1 (b := (w : Nat)) (n := w) ⟨((C.kind _).trans rfl), .inr P.range⟩ (Ev_name (by repeat (first | exact Rho.set_self | assumption | refine (Rho.set_ne (by decide)).trans ?_)) (C.has (by first | exact .inl rfl | exact .inr rfl))) (.inl rfl) (by omega) (by omega)) (C.has (by first | exact .inl rfl | exact .inr rfl))
    (fun i ρ => ρ "script" = some (.val (.list (ns.map .int))) ∧ ρ "kinds" = some (.val (.int K)) ∧ ρ "width" = some (.val (.int w)) ∧ ρ "figures" = some (.val (.list (fg.map .int))) ∧ ρ "marks" = some (.val (.list (ms.map .int))) ∧ ρ "rows" = some (.val (.list ((rowsOf K i).map rowD)))) ⟨(by repeat (first | exact Rho.set_self | assumption | refine (Rho.set_ne (by decide)).trans ?_)), (by repeat (first | exact Rho.set_self | assumption | refine (Rho.set_ne (by decide)).trans ?_)), (by repeat (first | exact Rho.set_self | assumption | refine (Rho.set_ne (by decide)).trans ?_)), (by repeat (first | exact Rho.set_self | assumption | refine (Rho.set_ne (by decide)).trans ?_)), (by repeat (first | exact Rho.set_self | assumption | refine (Rho.set_ne (by decide)).trans ?_)), Rho.set_self⟩ (fun i ρ hi hj => ?_) fun ρ hj => ?_)
  · clear h0 h1 h2 h3 h4
    obtain ⟨h0, h1, h2, h3, h4, h5⟩ := hj
    have hrl : (rowsOf K i).length * K ≤ 256 ∧ (∀ r ∈ rowsOf K i, r.length = i) := by
      have go : ∀ t, (rowsOf K t).length = K ^ t ∧ ∀ r ∈ rowsOf K t, r.length = t := by
        intro t
        induction t with
        | zero => exact ⟨rfl, fun r hr => by rw [List.mem_singleton.mp hr]; rfl⟩
        | succ t ih =>
          refine ⟨?_, fun r hr => ?_⟩
          · show ((rowsOf K t).flatMap fun r => (List.range K).map fun k => r ++ [k]).length = _
            rw [List.length_flatMap]
            simp only [List.length_map, List.length_range]
            rw [List.map_const', List.sum_replicate_nat, ih.1, Nat.pow_succ]
          · obtain ⟨q, hq, hk⟩ := List.mem_flatMap.mp hr
            obtain ⟨k, _, rfl⟩ := List.mem_map.mp hk
            rw [List.length_append, ih.2 q hq]; rfl
      refine ⟨?_, (go i).2⟩
      rw [(go i).1, ← Nat.pow_succ]
      have h1 := Nat.pow_le_pow_left hK2 (i + 1)
      have h2 := Nat.pow_le_pow_right (n := 4) (by decide) (show i + 1 ≤ 4 by omega)
      exact Nat.le_trans h1 h2
    refine Tr_cons (Tr_assign_comp2 (n := ((rowsOf K i).map rowD).length) (mi := K) (f := fun i' j => rowD ((rowsOf K i).getD i' [] ++ [j])) (D2 := fun _ j => .int (0 + (j : Nat))) (fun B => DSrc.ofSrc (Src_list (Ev_name (d := .list ((rowsOf K i).map rowD)) (by repeat (first | exact Rho.set_self | assumption | refine (Rho.set_ne (by decide)).trans ?_)) (C.has (by first | exact .inl rfl | exact .inr rfl)))) rfl rfl) ((C.kind _).trans rfl) rfl (by decide) (freeOf C.kind (fun x => C.has) (by decide)) (by decide) rfl
      (fun B i' hi' C' => Src_range1 (b := (K : Nat)) (n := K) (glob_vc rfl (.inr P.range)) (Ev_fname rfl (by decide) c3 c4 (d := .int K) (by repeat (first | exact Rho.set_self | assumption | refine (Rho.set_ne (by decide)).trans ?_))) (.inl rfl) (by omega) (by omega))
      (fun B i' j hi' hj C' => ?_) (by unfold Small; rw [List.length_map]; omega) ?_ (swaps_of ((C.kind _).trans rfl) rfl (by decide)))
    · rw [List.length_map] at hi'
      refine ((EvF_add (ds := ((rowsOf K i).getD i' []).map fun k => PyData.int (k : Nat)) (es := [.int (j : Nat)]) (Ev_cname (d := rowD ((rowsOf K i).getD i' [])) rfl ((if_neg (by decide)).trans ((if_pos rfl).trans (congrArg some (rows_getD hi'))))).evL
        (EvF_List (EvAll_cons ((Ev_cname (d := .int (0 + (j : Nat))) rfl (if_pos rfl)).as (by rw [Int.zero_add])) EvAll_nil) (by show 1 ≤ sizeLine; omega)).ev.evL ?_).as (by rw [List.map_append]; rfl)).ev
      have : ((rowsOf K i).getD i' []).length = i := hrl.2 _ (by rw [List.getD, List.getElem?_eq_getElem hi']; exact List.getElem_mem _)
      unfold Small; rw [List.length_map, this]; show i + 1 ≤ sizeLine; omega
    · rw [List.length_map, made2_rows]
      exact Tr_nil ⟨(by repeat (first | exact Rho.set_self | assumption | refine (Rho.set_ne (by decide)).trans ?_)), (by repeat (first | exact Rho.set_self | assumption | refine (Rho.set_ne (by decide)).trans ?_)), (by repeat (first | exact Rho.set_self | assumption | refine (Rho.set_ne (by decide)).trans ?_)), (by repeat (first | exact Rho.set_self | assumption | refine (Rho.set_ne (by decide)).trans ?_)), (by repeat (first | exact Rho.set_self | assumption | refine (Rho.set_ne (by decide)).trans ?_)), Rho.set_self⟩
  · clear h0 h1 h2 h3 h4
    obtain ⟨h0, h1, h2, h3, h4, h5⟩ := hj
    have hrl := G.rlen
    refine Tr_cons (Tr_assign_comp (n := ((rowsOf K w).map rowD).length) (pz := fun _ => true) (f := fun i => .int (worth fg ((rowsOf K w).getD i []))) (fun B => DSrc.ofSrc (Src_list (Ev_name (d := .list ((rowsOf K w).map rowD)) (by repeat (first | exact Rho.set_self | assumption | refine (Rho.set_ne (by decide)).trans ?_)) (C.has (by first | exact .inl rfl | exact .inr rfl)))) rfl rfl) ((C.kind _).trans rfl) rfl (by decide) (freeOf C.kind (fun x => C.has) (by decide)) (by decide)
      (fun B i hi C' => TsL_nil) (fun B i hi _ C' => ?_) (by unfold Small; rw [List.length_map]; omega) ?_ (swaps_of ((C.kind _).trans rfl) rfl (by decide)))
    · rw [List.length_map] at hi
      have hwd := G.word ((rowsOf K w).getD i []) (by rw [List.getD, List.getElem?_eq_getElem hi]; exact List.getElem_mem _)
      refine Ev_worth P ?_ k1 (Ev_cname (d := rowD ((rowsOf K w).getD i [])) rfl ((if_pos rfl).trans (congrArg some (rows_getD hi)))) (Ev_fname rfl (by decide) c5 c6 (d := .list (fg.map .int)) (by repeat (first | exact Rho.set_self | assumption | refine (Rho.set_ne (by decide)).trans ?_))) F.rng (by rw [F.len]; exact hwd.2) hfl (by rw [hwd.1]; omega)
      exact lookup_relabel_glob rfl
    · rw [made_all, List.length_map]
      have e : (List.range (rowsOf K w).length).map (fun i => PyData.int (worth fg ((rowsOf K w).getD i []))) = ((rowsOf K w).map (worth fg)).map .int := by
        conv => rhs; rw [← range_getD (rowsOf K w) []]
        rw [List.map_map, List.map_map]; rfl
      rw [e]
      exact law_B P C hK1 hK2 hw1 hw2 hKw G hns F hm hm0 hml (by repeat (first | exact Rho.set_self | assumption | refine (Rho.set_ne (by decide)).trans ?_)) (by repeat (first | exact Rho.set_self | assumption | refine (Rho.set_ne (by decide)).trans ?_)) (by repeat (first | exact Rho.set_self | assumption | refine (Rho.set_ne (by decide)).trans ?_)) (by repeat (first | exact Rho.set_self | assumption | refine (Rho.set_ne (by decide)).trans ?_)) (by repeat (first | exact Rho.set_self | assumption | refine (Rho.set_ne (by decide)).trans ?_)) (by repeat (first | exact Rho.set_self | assumption | refine (Rho.set_ne (by decide)).trans ?_)) Rho.set_self

end Mine
namespace Mine
open PySem PySem.W PyProof.Rows PySem.Calls
variable {W : Wld}

theorem fgv_succ {ns : List Int} {i : Nat} : fgv ns (i + 1) = fgv ns i + 1 + (cell ns (2 + i)).fmod 16 := rfl
theorem figs_one {ns : List Int} : figs ns 1 = [(cell ns 1).fmod 16] := rfl

theorem law_A3 (P : Prg W) {a : Act W} (C : LawAct a) {K w : Nat} (hK1 : 1 ≤ K) (hK2 : K ≤ 4) (hw1 : 1 ≤ w) (hw2 : w ≤ 4) (hKw : K ^ w ≤ 27) (G : Good K w) {ns fg : List Int} (hns : ns.length ≤ 63) (F : Fig fg K) {ρ : Rho}
    (h0 : ρ "script" = some (.val (.list (ns.map .int)))) (h1 : ρ "kinds" = some (.val (.int K))) (h2 : ρ "width" = some (.val (.int w))) (h3 : ρ "figures" = some (.val (.list (fg.map .int)))) :
    Tr a (execs ((bdOf 12).drop 3) a.env) ρ (fun fd ρ' => match fd with | .ret d => d = .bool true | _ => False) := by
  have hsz := sizeLine_eq
  obtain ⟨c1, c2⟩ := cellsOf C.kind (fun x => C.has) (x := "script") rfl
  have k1 : 1 ≤ a.k := Nat.le_trans (by decide) C.k
  have hms := mks_rng ns w
  have hml : (mks ns w).length = w := by simp [mks]
  refine Tr_cons (Tr_assign_comp (n := w) (pz := fun _ => true) (f := fun p => .int (((cell ns 5 + 5).fdiv (2 ^ p)).fmod 2)) (fun B => DSrc.ofSrc (Src_range1 (b := (w : Nat)) (n := w) ⟨((C.kind _).trans rfl), .inr P.range⟩ (Ev_name (by repeat (first | exact Rho.set_self | assumption | refine (Rho.set_ne (by decide)).trans ?_)) (C.has (by first | exact .inl rfl | exact .inr rfl))) (.inl rfl) (by omega) (by omega)) rfl rfl) ((C.kind _).trans rfl) rfl (by decide) (freeOf C.kind (fun x => C.has) (by decide)) (by decide)
    (fun B p hp C' => TsL_nil) (fun B p hp _ C' => ?_) (by unfold Small; omega) ?_ (swaps_of ((C.kind _).trans rfl) rfl (by decide)))
  · refine (Ev_bin (V := a.vc _ B _ C' _ rfl) (Ev_bin (Ev_bin (Ev_cell P (k := 5) ?_ k1 (Ev_fname rfl (by decide) c1 c2 (d := .list (ns.map .int)) (by repeat (first | exact Rho.set_self | assumption | refine (Rho.set_ne (by decide)).trans ?_))) Ev_const_int hns (by decide)) Ev_const_int op_add) (Ev_bin Ev_const_int (Ev_cname (d := .int (0 + (p : Nat))) rfl (if_pos rfl)) (op_pow (by omega) ?_)) (op_floordiv ?_ ?_)) Ev_const_int (op_mod (by decide))).as ?_
    · exact lookup_relabel_glob rfl
    · have h1 : Builtin.Int.intBits (2 : Int) = 2 := by decide
      rw [h1]
      omega
    · rw [Int.zero_add, Int.toNat_natCast]
      exact Int.ne_of_gt (Int.pow_pos (by decide))
    · rw [Int.zero_add, Int.toNat_natCast]
      have : p = 0 ∨ p = 1 ∨ p = 2 ∨ p = 3 := by omega
      rcases this with e | e | e | e <;> rw [e] <;> decide
    · rw [Int.zero_add, Int.toNat_natCast]
  rw [made_all, show (List.range w).map (fun p => PyData.int (((cell ns 5 + 5).fdiv (2 ^ p)).fmod 2)) = (mks ns w).map .int by unfold mks; rw [List.map_map]; rfl]
  exact law_A1 P C hK1 hK2 hw1 hw2 hKw G hns F hms (by rw [hml]; omega) (by rw [hml]; omega) (by repeat (first | exact Rho.set_self | assumption | refine (Rho.set_ne (by decide)).trans ?_)) (by repeat (first | exact Rho.set_self | assumption | refine (Rho.set_ne (by decide)).trans ?_)) (by repeat (first | exact Rho.set_self | assumption | refine (Rho.set_ne (by decide)).trans ?_)) (by repeat (first | exact Rho.set_self | assumption | refine (Rho.set_ne (by decide)).trans ?_)) Rho.set_self

theorem law_A2 (P : Prg W) {a : Act W} (C : LawAct a) {K w : Nat} (hK1 : 1 ≤ K) (hK2 : K ≤ 4) (hw1 : 1 ≤ w) (hw2 : w ≤ 4) (hKw : K ^ w ≤ 27) (G : Good K w) {ns : List Int} (hns : ns.length ≤ 63) {ρ : Rho}
    (h0 : ρ "script" = some (.val (.list (ns.map .int)))) (h1 : ρ "kinds" = some (.val (.int K))) (h2 : ρ "width" = some (.val (.int w))) :
    Tr a (execs ((bdOf 12).drop 1) a.env) ρ (fun fd ρ' => match fd with | .ret d => d = .bool true | _ => False) := by
  have hsz := sizeLine_eq
  have k1 : 1 ≤ a.k := Nat.le_trans (by decide) C.k
  have F := figs_Fig ns hK2
  refine Tr_cons (Tr_assign_own (ds := (figs ns 1).map .int) (fun B => ?_) (fun adf => ?_) (C.has (by first | exact .inl rfl | exact .inr rfl)))
  · rw [figs_one]
    exact EvF_List (EvAll_cons (Ev_bin (Ev_cell P (k := 1) ((C.kind _).trans rfl) k1 (Ev_name (d := .list (ns.map .int)) (by repeat (first | exact Rho.set_self | assumption | refine (Rho.set_ne (by decide)).trans ?_)) (C.has (by first | exact .inl rfl | exact .inr rfl))) Ev_const_int hns (by decide)) Ev_const_int (op_mod (by decide))) EvAll_nil) (by show 1 ≤ sizeLine; omega)
  refine Tr_cons (Tr_for (n := K - 1) (fun B => Src_range2 (a := 2) (b := (K : Int) + 1) ⟨((C.kind _).trans rfl), .inr P.range⟩ Ev_const_int (Ev_bin (Ev_name (d := .int K) (by repeat (first | exact Rho.set_self | assumption | refine (Rho.set_ne (by decide)).trans ?_)) (C.has (by first | exact .inl rfl | exact .inr rfl))) Ev_const_int op_add) (by omega) (by omega) (by omega) (by omega) (by omega)) (C.has (by first | exact .inl rfl | exact .inr rfl))
    (fun i ρ => ρ "script" = some (.val (.list (ns.map .int))) ∧ ρ "kinds" = some (.val (.int K)) ∧ ρ "width" = some (.val (.int w)) ∧ ρ "figures" = some (.own adf (.lst ((figs ns (i + 1)).map .int)))) ⟨(by repeat (first | exact Rho.set_self | assumption | refine (Rho.set_ne (by decide)).trans ?_)), (by repeat (first | exact Rho.set_self | assumption | refine (Rho.set_ne (by decide)).trans ?_)), (by repeat (first | exact Rho.set_self | assumption | refine (Rho.set_ne (by decide)).trans ?_)), Rho.set_self⟩ (fun i ρ hi hj => ?_) fun ρ hj => ?_)
  · clear h0 h1 h2
    obtain ⟨h0, h1, h2, h3⟩ := hj
    refine Tr_cons (Tr_expr (EvX_append (ad := adf) (ds0 := (figs ns (i + 1)).map .int) (by repeat (first | exact Rho.set_self | assumption | refine (Rho.set_ne (by decide)).trans ?_)) (C.has (by first | exact .inl rfl | exact .inr rfl)) (EvX_pure (d := .int (fgv ns (i + 1))) (fun B => ?_) ⟨(figs ns (i + 1)).map .int, (by repeat (first | exact Rho.set_self | assumption | refine (Rho.set_ne (by decide)).trans ?_)), by unfold Small; rw [List.length_map, figs_len]; omega, ?_⟩)) not_interactive)
    · refine (Ev_bin (Ev_bin (Ev_item_neg (k := -1) (d := .int (fgv ns i)) (EvL_own (ad := adf) (ds := (figs ns (i + 1)).map .int) (by repeat (first | exact Rho.set_self | assumption | refine (Rho.set_ne (by decide)).trans ?_)) (C.has (by first | exact .inl rfl | exact .inr rfl))) (Ev_neg Ev_const_int) (by omega) (by rw [List.length_map, figs_len]; omega) (by omega) ?_) Ev_const_int op_add)
        (Ev_bin (Ev_cell P (k := 2 + i) ((C.kind _).trans rfl) k1 (Ev_name (d := .list (ns.map .int)) (by repeat (first | exact Rho.set_self | assumption | refine (Rho.set_ne (by decide)).trans ?_)) (C.has (by first | exact .inl rfl | exact .inr rfl))) ((Ev_name (d := .int (2 + (i : Nat))) (by repeat (first | exact Rho.set_self | assumption | refine (Rho.set_ne (by decide)).trans ?_)) (C.has (by first | exact .inl rfl | exact .inr rfl))).as (by rw [Int.natCast_add]; rfl)) hns (by omega)) Ev_const_int (op_mod (by decide))) op_add).as (by rw [fgv_succ])
      rw [List.length_map, figs_len, show ((-1 : Int) + ((i + 1 : Nat) : Int)).toNat = i by omega, ints_get (by rw [figs_len]; omega), figs_get (by omega)]
    refine Tr_nil ⟨(by repeat (first | exact Rho.set_self | assumption | refine (Rho.set_ne (by decide)).trans ?_)), (by repeat (first | exact Rho.set_self | assumption | refine (Rho.set_ne (by decide)).trans ?_)), (by repeat (first | exact Rho.set_self | assumption | refine (Rho.set_ne (by decide)).trans ?_)), ?_⟩
    rw [figs_succ (n := i + 1), List.map_append]; exact Rho.set_self
  clear h0 h1 h2
  obtain ⟨h0, h1, h2, h3⟩ := hj
  rw [show K - 1 + 1 = K by omega] at h3
  refine Tr_freeze h3 ?_
  exact law_A3 P C hK1 hK2 hw1 hw2 hKw G hns F (by repeat (first | exact Rho.set_self | assumption | refine (Rho.set_ne (by decide)).trans ?_)) (by repeat (first | exact Rho.set_self | assumption | refine (Rho.set_ne (by decide)).trans ?_)) (by repeat (first | exact Rho.set_self | assumption | refine (Rho.set_ne (by decide)).trans ?_)) Rho.set_self

theorem pick {c : Int} (h1 : 0 ≤ c) (h2 : c < 5) : ∃ K w : Nat, goodKW K w = true ∧ 1 ≤ K ∧ K ≤ 4 ∧ 1 ≤ w ∧ w ≤ 4 ∧ K ^ w ≤ 27 ∧
      [PyData.list [.int 2, .int 3], .list [.int 3, .int 2], .list [.int 2, .int 4], .list [.int 4, .int 2], .list [.int 3, .int 3]][c.toNat]? = some (.list [.int K, .int w]) := by
  have : c = 0 ∨ c = 1 ∨ c = 2 ∨ c = 3 ∨ c = 4 := by omega
  rcases this with e | e | e | e | e <;> rw [e]
  · exact ⟨2, 3, good23, by decide, by decide, by decide, by decide, by decide, rfl⟩
  · exact ⟨3, 2, good32, by decide, by decide, by decide, by decide, by decide, rfl⟩
  · exact ⟨2, 4, good24, by decide, by decide, by decide, by decide, by decide, rfl⟩
  · exact ⟨4, 2, good42, by decide, by decide, by decide, by decide, by decide, rfl⟩
  · exact ⟨3, 3, good33, by decide, by decide, by decide, by decide, by decide, rfl⟩

theorem twoL {V : Vw W} {x y : Int} {i j : Nat} {p q r : Pos} : Ev V (.List [.Constant (.int x) i p, .Constant (.int y) j q] r) (.list [.int x, .int y]) := (EvF_List (EvAll_cons Ev_const_int (EvAll_cons Ev_const_int EvAll_nil)) (by have := sizeLine_eq; show 2 ≤ sizeLine; omega)).ev
/-- an expression that is no starred one -/
def Plain (e : Expr) : Prop := ∀ (rest : List Expr) (env : Env), starEach (e :: rest) env = (false, eval e env) :: starEach rest env
theorem plain_List {es : List Expr} {p : Pos} : Plain (.List es p) := fun _ _ => rfl
theorem fiveE {V : Vw W} {e1 e2 e3 e4 e5 : Expr} {d1 d2 d3 d4 d5 : PyData} {r : Pos} (h1 : Ev V e1 d1) (h2 : Ev V e2 d2) (h3 : Ev V e3 d3) (h4 : Ev V e4 d4) (h5 : Ev V e5 d5) (s1 : Plain e1) (s2 : Plain e2) (s3 : Plain e3) (s4 : Plain e4) (s5 : Plain e5) :
    EvL V (.List [e1, e2, e3, e4, e5] r) [d1, d2, d3, d4, d5] := by
  have hsz := sizeLine_eq
  have h := EvAll_cons (p := r) h1 (EvAll_cons h2 (EvAll_cons h3 (EvAll_cons h4 (EvAll_cons h5 EvAll_nil (s5 _ _)) (s4 _ _)) (s3 _ _)) (s2 _ _)) (s1 _ _)
  exact (EvF_List h (by show 5 ≤ sizeLine; omega)).ev.evL
theorem Tr_kw {a : Act W} {ρ : Rho} {Q : FlowD → Rho → Prop} {p1 p2 p3 p4 p5 : Pos} {v s : Expr} {d1 d2 : PyData} (hax : a.has "kinds") (hay : a.has "width") (he : ∀ B, Ev (a.vw ρ B) (.Subscript v s p5) (.list [d1, d2])) (hq : Q .nxt ((ρ.set "kinds" (.val d1)).set "width" (.val d2))) :
    Tr a (exec (.Assign [.Tuple [.Name "kinds" p1, .Name "width" p2] 0 p3] (.Subscript v s p5) p4) a.env) ρ Q := Tr_assign2 (fun B => .inr (he B)) hax hay hq rfl rfl

theorem law_A (P : Prg W) {a : Act W} (C : LawAct a) {ns : List Int} (hns : ns.length ≤ 63) {ρ : Rho} (h0 : ρ "script" = some (.val (.list (ns.map .int)))) :
    Tr a (execs (bdOf 12) a.env) ρ (fun fd ρ' => match fd with | .ret d => d = .bool true | _ => False) := by
  have hsz := sizeLine_eq
  have m1 := Int.fmod_nonneg_of_pos (cell ns 0) (b := 5) (by decide)
  have m2 := Int.fmod_lt_of_pos (cell ns 0) (b := 5) (by decide)
  have k1 : 1 ≤ a.k := Nat.le_trans (by decide) C.k
  obtain ⟨K, w, hg, hK1, hK2, hw1, hw2, hKw, hit⟩ := pick m1 m2
  refine Tr_cons ?_
  refine @Tr_kw W a ρ _ _ _ _ _ _ _ _ (.int K) (.int w) (C.has (by first | exact .inl rfl | exact .inr rfl)) (C.has (by first | exact .inl rfl | exact .inr rfl)) (fun B => ?_) ?_
  · refine @Ev_item W (a.vw ρ B) _ _ _ [PyData.list [.int 2, .int 3], .list [.int 3, .int 2], .list [.int 2, .int 4], .list [.int 4, .int 2], .list [.int 3, .int 3]] ((cell ns 0).fmod 5) _ ?_ ?_ m1 (by omega) hit ?_
    · refine fiveE ?_ ?_ ?_ ?_ ?_ ?_ ?_ ?_ ?_ ?_
      · exact twoL
      · exact twoL
      · exact twoL
      · exact twoL
      · exact twoL
      · exact plain_List
      · exact plain_List
      · exact plain_List
      · exact plain_List
      · exact plain_List
    · refine Ev_bin (a := .int (cell ns 0)) (b := .int 5) ?_ ?_ ?_
      · refine Ev_cell P (k := 0) ?_ ?_ ?_ ?_ ?_ ?_ ?_ ?_
        · exact ((C.kind _).trans rfl)
        · exact k1
        · exact Ev_name h0 (C.has (by first | exact .inl rfl | exact .inr rfl))
        · exact Ev_const_int
        · exact hns
        · decide
        · rfl
        · rfl
      · exact Ev_const_int
      · exact op_mod (by decide)
    · intro _ _; rfl
  · refine law_A2 P C hK1 hK2 hw1 hw2 hKw (Good.of hg) hns ?_ ?_ ?_
    · exact (by repeat (first | exact Rho.set_self | assumption | refine (Rho.set_ne (by decide)).trans ?_))
    · exact (by repeat (first | exact Rho.set_self | assumption | refine (Rho.set_ne (by decide)).trans ?_))
    · exact Rho.set_self
end Mine
namespace Mine
open PySem PySem.W PyProof.Rows PySem.Calls
variable {W : Wld}

theorem binds12 : BindsPos (agOf 12) ["script"] := by intro _ _ _ _ _ _ _ _ _ _ _ _ _ _ h; obtain ⟨v, rfl⟩ := one_of h; rfl
theorem nd12 : ((scOf 12).names.map (·.1)).Nodup := by decide +kernel
theorem pk12 : ∀ x ∈ (["script"] : List Str), (scOf 12).names.lookup x = some .local ∨ (scOf 12).names.lookup x = some .cell := by decide +kernel
theorem law_ok (P : Prg W) (Fo : FnOk W 12 "law") {ns : List Int} (hns : ns.length ≤ 63) : FnPure W "law" 4 [.list (ns.map .int)] (.bool true) := by
  obtain ⟨fa, o, fd, F⟩ := Fo
  refine FnPure.of F (k := 3) (pn := ["script"]) (F.binds binds12) ?_ rfl nd12 (by decide) pk12 rfl rfl rfl
  intro a hak hkind hhas hsc
  have C : LawAct a := ⟨by omega, hkind, fun {x} => hhas x⟩
  generalize hρ : (fun y => List.lookup y ((["script"] : List Str).zip ([PyData.list (ns.map .int)].map Slot.val))) = ρ0
  have e1 : ρ0 "script" = some (.val (.list (ns.map .int))) := by rw [← hρ]; rfl
  clear hρ
  refine @Tr_mono W a ρ0 _ _ _ (@law_A W P a C ns hns ρ0 e1) ?_
  intro fd ρ' q
  cases fd with
  | nxt => exact q.elim
  | brk => exact q.elim
  | cnt => exact q.elim
  | ret d => exact q

/-- the written part of the heap: where a def stands -/
def adAt (K : Frag) (name : Str) : Addr := match nsIn K mainGlobals name with | some (some (.ref a)) => a | _ => 0
def obAt (K : Frag) (name : Str) : Obj := (K.lookup (adAt K name)).getD default
def fdAt (K : Frag) (name : Str) : FuncData := match (obAt K name).data with | .func fd => fd | _ => default
structure Chk (K : Frag) (n : Nat) (name : Str) : Prop where
  h1 : nsIn K mainGlobals name = some (some (.ref (adAt K name)))
  h2 : K.lookup (adAt K name) = some (obAt K name)
  h3 : (obAt K name).data = .func (fdAt K name)
  h4 : (fdAt K name).qualname = name
  h5 : (fdAt K name).params = agOf n
  h6 : (fdAt K name).body = .stmts (bdOf n)
  h7 : (fdAt K name).scope = scOf n
  h8 : (fdAt K name).globals = mainGlobals
  h9 : (fdAt K name).closure = []
  h10 : (fdAt K name).defaults = .none
  h11 : (fdAt K name).builtins = builtinsNs
  h12 : codeIn K (fdAt K name).code (fdAt K name).qualname = true
theorem fnOk_of {K : Frag} (X : K.In W.H0) {n : Nat} {name : Str} (c : Chk K n name) : FnOk W n name :=
  ⟨adAt K name, obAt K name, fdAt K name, ⟨mg_of X W.g c.h1, X _ _ c.h2, c.h3, c.h4, c.h5, c.h6, c.h7, c.h8, c.h9, c.h10, c.h11, codeRec_of X c.h12⟩⟩
theorem bi_of {K : Frag} (X : K.In W.H0) (hb : ∀ x : Str, x ≠ "__name__" → W.mb x = bootBuiltins x) {x : Str} {v : Value} (h1 : nsIn K mainGlobals x = some none) (h2 : bootBuiltins x = some v) (h3 : x ≠ "__name__" := by decide) : W.mg x = none ∧ W.mb x = some v :=
  ⟨mg_none_of X W.g h1, (hb x h3).trans h2⟩

theorem join (P : Prg W) (Fo : FnOk W 12 "law") {ns : List Int} (hns : ns.length ≤ 63) {fa a : Addr} {vs : List Value} {n : Nat} {s : Shared} (hs : s.heap = W.H0) (hfa : W.mg "law" = some (.ref fa)) (ha : s.heap.get? a = some (lstO vs n)) (hI : IntsAre vs ns)
    {Q : Value → Shared → Prop} {E : Value → Shared → Prop} (hq : ∀ h tk, (∀ b o, s.heap.get? b = some o → h.get? b = some o) → Q (.bool true) { s with heap := h, toks := tk }) :
    wpAny (model W.prog W.w) callerA (call (.ref fa) [.ref a]) Q E s := by
  refine wpAny_call ?_
  have hfz : InH (fun b => if b = a then some (lstO vs n) else none) s.heap := fun b o e => by
    by_cases q : b = a
    · subst q; simp at e; rw [← e]; exact ha
    · simp [q] at e
  have hd : DenAll (fun b => if b = a then some (lstO vs n) else none) [.ref a] [.list (ns.map .int)] := .one (.list (if_pos rfl) (DenAll.ofInts hI))
  refine codeAny_mono (law_ok P Fo hns fa hfa callerA ⟨rfl, by decide, by decide⟩ _ s [.ref a] hfz (fun b o e => by rw [hs]; exact e) hd) ?_
  rintro r s' ⟨v, g', rfl, x, hv⟩
  obtain rfl := hv.bool_inv
  obtain ⟨h, tk, e⟩ := x.same
  have hk := x.keep
  subst e
  exact hq h tk hk
end Mine
open PySem PySem.W PyProof.Rows PySem.W.X PySem.W.ZRun
set_option maxRecDepth 100000 in
set_option maxHeartbeats 8000000 in
theorem PySem.Challenge.cw_pm0005_01_holds : PySem.Challenge.rw_pm0005_01.Holds := by
  w_on
  o_law
  z_head
  case hw => w_witness2
  k_fill
  intro w s₀ s₁ mg mb G y fa o pm cd dc dV kV ho hd hcd hD hmg hg args vals bs L hpre hlay hrd hwl hlo
  z_open y L KX ZH ZN ZT
  refine Ground.open G ?_
  intro T B D TE TW
  wrow_args hpre hlay hrd hwl hlo
  rename_i ns hs0 hlay0 hL1 hr1 hl2 a1 a2 a vs a3 hL ra w1 r0 hI hr hc1 hc2
  have hobj := script_obj L hL
  have hns : ns.length ≤ 63 := by omega
  let W : Mine.Wld := ⟨PySem.Challenge.pw_pm0005_01, w, s₁.heap, mg, mb, T.g, T.b, T.nolimit⟩
  have Fo : Mine.FnOk W 12 "law" := Mine.fnOk_of KX (by constructor <;> kernel_rfl)
  have P : Mine.Prg W := {
    f1 := Mine.fnOk_of KX (by constructor <;> kernel_rfl)
    f3 := Mine.fnOk_of KX (by constructor <;> kernel_rfl)
    f4 := Mine.fnOk_of KX (by constructor <;> kernel_rfl)
    f5 := Mine.fnOk_of KX (by constructor <;> kernel_rfl)
    f6 := Mine.fnOk_of KX (by constructor <;> kernel_rfl)
    f8 := Mine.fnOk_of KX (by constructor <;> kernel_rfl)
    f9 := Mine.fnOk_of KX (by constructor <;> kernel_rfl)
    f10 := Mine.fnOk_of KX (by constructor <;> kernel_rfl)
    f11 := Mine.fnOk_of KX (by constructor <;> kernel_rfl)
    len := Mine.bi_of KX T.builtins (by kernel_rfl) (by kernel_rfl)
    next := Mine.bi_of KX T.builtins (by kernel_rfl) (by kernel_rfl)
    iter := Mine.bi_of KX T.builtins (by kernel_rfl) (by kernel_rfl)
    min := Mine.bi_of KX T.builtins (by kernel_rfl) (by kernel_rfl)
    sorted := Mine.bi_of KX T.builtins (by kernel_rfl) (by kernel_rfl)
    range := Mine.bi_of KX T.builtins (by kernel_rfl) (by kernel_rfl)
    list := Mine.bi_of KX T.builtins (by kernel_rfl) (by kernel_rfl)
    enumerate := Mine.bi_of KX T.builtins (by kernel_rfl) (by kernel_rfl)
  }
  refine Mine.join P Fo hns rfl hmg hobj hI ?_
  intro h tk hk
  refine GoodW.toG ⟨.inl ⟨_, .bool true, [], rfl, fun _ => rfl, .bool true, ?_, ?_⟩, hk, rfl, hg⟩
  · first | rfl | kernel_rfl
  · exact fun _ => ⟨.nil, fun a h => nomatch h⟩
