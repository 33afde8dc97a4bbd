import PyProof.Rows.All
import Wide.All
import OpenK.AllK
import Wide.FinOn
import PySem.Challenge.RW_pk0031_02
open PySem PySem.W PyProof.Rows
set_option Elab.async false
set_option linter.unusedVariables false
set_option maxRecDepth 100000

section
namespace Mine

/-! data in the heap, off a set X of addresses (lists that the frame still turns) -/
mutual
inductive Rp (h : Heap) (X : Addr → Prop) : Value → PyData → Prop
  | none : Rp h X .none .none
  | bool (b) : Rp h X (.bool b) (.bool b)
  | int (i t) : Rp h X (.int i t) (.int i)
  | str (x t) : Rp h X (.str x t) (.str x)
  | list {a vs n xs} : h.get? a = some { cls := .type "list", data := .seq vs n } → ¬ X a → RpAll h X vs.toList xs → Rp h X (.ref a) (.list xs)
  | tuple {a vs n xs} : h.get? a = some { cls := .type "tuple", data := .seq vs n } → RpAll h X vs.toList xs → Rp h X (.ref a) (.tuple xs)
inductive RpAll (h : Heap) (X : Addr → Prop) : List Value → List PyData → Prop
  | nil : RpAll h X [] []
  | cons {v vs d ds} : Rp h X v d → RpAll h X vs ds → RpAll h X (v :: vs) (d :: ds)
end

/-- h' has all of h's objects, but for W; and W holds lists off X or no sequences -/
def Turn (W : Addr → Prop) (h h' : Heap) : Prop := ∀ b o, h.get? b = some o → ¬ W b → h'.get? b = some o

mutual
theorem Rp.turn {h h' : Heap} {X Y W : Addr → Prop} (hk : Turn W h h') (hW : ∀ b, W b → ∀ o, h.get? b = some o → (o.cls = .type "list" ∧ X b) ∨ ∀ xs n, o.data ≠ .seq xs n) (hY : ∀ b, Y b → X b) :
    ∀ {v : Value} {d : PyData}, Rp h X v d → Rp h' Y v d
  | _, _, .none => .none
  | _, _, .bool b => .bool b
  | _, _, .int i t => .int i t
  | _, _, .str x t => .str x t
  | _, _, .list (a := a) h1 h2 h3 => .list (hk _ _ h1 fun w => by
      rcases hW a w _ h1 with ⟨_, q⟩ | q
      · exact h2 q
      · exact q _ _ rfl) (fun y => h2 (hY _ y)) (RpAll.turn hk hW hY h3)
  | _, _, .tuple (a := a) h1 h3 => .tuple (hk _ _ h1 fun w => by
      rcases hW a w _ h1 with ⟨q, _⟩ | q
      · exact absurd q (by simp)
      · exact q _ _ rfl) (RpAll.turn hk hW hY h3)
theorem RpAll.turn {h h' : Heap} {X Y W : Addr → Prop} (hk : Turn W h h') (hW : ∀ b, W b → ∀ o, h.get? b = some o → (o.cls = .type "list" ∧ X b) ∨ ∀ xs n, o.data ≠ .seq xs n) (hY : ∀ b, Y b → X b) :
    ∀ {vs : List Value} {ds : List PyData}, RpAll h X vs ds → RpAll h' Y vs ds
  | _, _, .nil => .nil
  | _, _, .cons h1 h2 => .cons (Rp.turn hk hW hY h1) (RpAll.turn hk hW hY h2)
end

theorem Rp.keeps {h h' : Heap} {X : Addr → Prop} {v : Value} {d : PyData} (hk : ∀ b o, h.get? b = some o → h'.get? b = some o) (r : Rp h X v d) : Rp h' X v d :=
  r.turn (W := fun _ => False) (fun b o e _ => hk b o e) (fun _ w => w.elim) (fun _ x => x)
theorem RpAll.keeps {h h' : Heap} {X : Addr → Prop} {vs : List Value} {ds : List PyData} (hk : ∀ b o, h.get? b = some o → h'.get? b = some o) (r : RpAll h X vs ds) : RpAll h' X vs ds :=
  r.turn (W := fun _ => False) (fun b o e _ => hk b o e) (fun _ w => w.elim) (fun _ x => x)
theorem Rp.less {h : Heap} {X Y : Addr → Prop} {v : Value} {d : PyData} (r : Rp h X v d) (hY : ∀ b, Y b → X b) : Rp h Y v d :=
  r.turn (W := fun _ => False) (fun b o e _ => e) (fun _ w => w.elim) hY
theorem RpAll.less {h : Heap} {X Y : Addr → Prop} {vs : List Value} {ds : List PyData} (r : RpAll h X vs ds) (hY : ∀ b, Y b → X b) : RpAll h Y vs ds :=
  r.turn (W := fun _ => False) (fun b o e _ => e) (fun _ w => w.elim) hY

mutual
theorem Rp.reads {h : Heap} {X : Addr → Prop} : ∀ {v : Value} {d : PyData}, Rp h X v d → ∃ as, Reads h v d as
  | _, _, .none => ⟨_, .none⟩
  | _, _, .bool b => ⟨_, .bool b⟩
  | _, _, .int i t => ⟨_, .int i t⟩
  | _, _, .str x t => ⟨_, .str x t⟩
  | _, _, .list h1 _ h3 => let ⟨_, r⟩ := RpAll.reads h3; ⟨_, .list h1 rfl rfl r⟩
  | _, _, .tuple h1 h3 => let ⟨_, r⟩ := RpAll.reads h3; ⟨_, .tuple h1 rfl rfl r⟩
theorem RpAll.reads {h : Heap} {X : Addr → Prop} : ∀ {vs : List Value} {ds : List PyData}, RpAll h X vs ds → ∃ as, ReadsAll h vs ds as
  | _, _, .nil => ⟨_, .nil⟩
  | _, _, .cons h1 h2 => let ⟨_, r⟩ := Rp.reads h1; let ⟨_, q⟩ := RpAll.reads h2; ⟨_, .cons r q⟩
end

theorem RpAll.length {h : Heap} {X : Addr → Prop} : ∀ {vs : List Value} {ds : List PyData}, RpAll h X vs ds → vs.length = ds.length
  | _, _, .nil => rfl
  | _, _, .cons _ t => by simp [RpAll.length t]
theorem RpAll.append {h : Heap} {X : Addr → Prop} : ∀ {vs : List Value} {ds : List PyData} {us es}, RpAll h X vs ds → RpAll h X us es → RpAll h X (vs ++ us) (ds ++ es)
  | _, _, _, _, .nil, q => q
  | _, _, _, _, .cons a t, q => .cons a (RpAll.append t q)
theorem RpAll.snoc {h : Heap} {X : Addr → Prop} {vs ds v d} (r : RpAll h X vs ds) (q : Rp h X v d) : RpAll h X (vs ++ [v]) (ds ++ [d]) := r.append (.cons q .nil)
theorem RpAll.get {h : Heap} {X : Addr → Prop} : ∀ {vs : List Value} {ds : List PyData}, RpAll h X vs ds → ∀ {i : Nat} {d}, ds[i]? = some d → ∃ v, vs[i]? = some v ∧ Rp h X v d
  | _, _, .nil, _, _, e => by simp at e
  | _, _, .cons (v := v) a t, 0, d, e => by simp at e; subst e; exact ⟨v, rfl, a⟩
  | _, _, .cons a t, i + 1, d, e => by simp at e; obtain ⟨v, e1, r⟩ := RpAll.get t e; exact ⟨v, by simpa using e1, r⟩
theorem RpAll.getv {h : Heap} {X : Addr → Prop} : ∀ {vs : List Value} {ds : List PyData}, RpAll h X vs ds → ∀ {i : Nat} {v}, vs[i]? = some v → ∃ d, ds[i]? = some d ∧ Rp h X v d
  | _, _, .nil, _, _, e => by simp at e
  | _, _, .cons (d := d) a t, 0, v, e => by simp at e; subst e; exact ⟨d, rfl, a⟩
  | _, _, .cons a t, i + 1, v, e => by simp at e; obtain ⟨d, e1, r⟩ := RpAll.getv t e; exact ⟨d, by simpa using e1, r⟩
theorem RpAll.take {h : Heap} {X : Addr → Prop} : ∀ {vs : List Value} {ds : List PyData}, RpAll h X vs ds → ∀ (i : Nat), RpAll h X (vs.take i) (ds.take i)
  | _, _, .nil, i => by simpa using RpAll.nil
  | _, _, .cons a t, 0 => .nil
  | _, _, .cons a t, i + 1 => .cons a (RpAll.take t i)
theorem RpAll.drop {h : Heap} {X : Addr → Prop} : ∀ {vs : List Value} {ds : List PyData}, RpAll h X vs ds → ∀ (i : Nat), RpAll h X (vs.drop i) (ds.drop i)
  | _, _, .nil, i => by simpa using RpAll.nil
  | _, _, .cons a t, 0 => .cons a t
  | _, _, .cons a t, i + 1 => RpAll.drop t i
theorem RpAll.eraseIdx {h : Heap} {X : Addr → Prop} : ∀ {vs : List Value} {ds : List PyData}, RpAll h X vs ds → ∀ (i : Nat), RpAll h X (vs.eraseIdx i) (ds.eraseIdx i)
  | _, _, .nil, i => by simpa using RpAll.nil
  | _, _, .cons a t, 0 => t
  | _, _, .cons a t, i + 1 => .cons a (RpAll.eraseIdx t i)
theorem RpAll.replicate {h : Heap} {X : Addr → Prop} {v d} (r : Rp h X v d) : ∀ n, RpAll h X (List.replicate n v) (List.replicate n d)
  | 0 => .nil
  | n + 1 => .cons r (RpAll.replicate r n)

/-! inversions -/
theorem Rp.int_inv {h : Heap} {X : Addr → Prop} {v : Value} {i : Int} (r : Rp h X v (.int i)) : ∃ t, v = .int i t := by cases r; exact ⟨_, rfl⟩
theorem Rp.str_inv {h : Heap} {X : Addr → Prop} {v : Value} {x : Str} (r : Rp h X v (.str x)) : ∃ t, v = .str x t := by cases r; exact ⟨_, rfl⟩
theorem Rp.bool_inv {h : Heap} {X : Addr → Prop} {v : Value} {b : Bool} (r : Rp h X v (.bool b)) : v = .bool b := by cases r; rfl
theorem Rp.list_inv {h : Heap} {X : Addr → Prop} {v : Value} {xs : List PyData} (r : Rp h X v (.list xs)) : ∃ a vs n, v = .ref a ∧ IsL h a vs n ∧ ¬ X a ∧ RpAll h X vs.toList xs := by
  cases r with | list h1 h2 h3 => exact ⟨_, _, _, rfl, h1, h2, h3⟩
theorem Rp.tuple_inv {h : Heap} {X : Addr → Prop} {v : Value} {xs : List PyData} (r : Rp h X v (.tuple xs)) : ∃ a vs n, v = .ref a ∧ h.get? a = some { cls := .type "tuple", data := .seq vs n } ∧ RpAll h X vs.toList xs := by
  cases r with | tuple h1 h3 => exact ⟨_, _, _, rfl, h1, h3⟩

end Mine
end

section
namespace Mine

def Room (A : Around) (k : Nat) : Prop := A.handled = none ∧ A.units + 10 * k + 100 < cLine ∧ A.depth + k < recursionLimit
theorem Room.less {A : Around} {k j : Nat} (h : Room A k) (hj : j ≤ k) : Room A j := ⟨h.1, by have := h.2.1; omega, by have := h.2.2; omega⟩
theorem Room.deeper {A : Around} {k : Nat} {env : Env} (h : Room A (k + 1)) : Room (A.deeper env) k :=
  ⟨h.1, by have := h.2.1; show A.units + 3 + 10 * k + 100 < cLine; omega, by have := h.2.2; show A.depth + 1 + k < recursionLimit; omega⟩

/-- what the top left: the written objects, the names, the built-ins -/
structure GE (K : Frag) (h : Heap) : Prop where
  inK : K.In h
  lim : h.NoLimit
  ns : ∃ mg mb, h.Ns mainGlobals mg ∧ h.Ns builtinsNs mb ∧ ∀ x : Str, x ≠ "__name__" → mb x = bootBuiltins x
theorem GE.keeps {K : Frag} {h h' : Heap} (g : GE K h) (hk : ∀ b o, h.get? b = some o → h'.get? b = some o) : GE K h' :=
  ⟨g.inK.keeps hk, g.lim.keeps hk, let ⟨mg, mb, h1, h2, h3⟩ := g.ns; ⟨mg, mb, h1.keeps hk, h2.keeps hk, h3⟩⟩

structure Ok (K : Frag) (A : Around) (env : Env) (X : Addr → Prop) (s : Shared) : Prop where
  rm : Room A 1
  kf : env.scope.kind = .function
  eg : env.globals = mainGlobals
  eb : env.builtins = builtinsNs
  ge : GE K s.heap
  xa : ∀ a, X a → ∃ o, s.heap.get? a = some o

/-- s' is s with objects more; nothing that stood has turned -/
def Kp (s s' : Shared) : Prop := PySem.Keeps s s'
theorem Kp.refl (s : Shared) : Kp s s := ⟨s.heap, s.toks, rfl, fun _ _ e => e⟩
theorem Kp.trans {s s₁ s₂ : Shared} (h : Kp s s₁) (h' : Kp s₁ s₂) : Kp s s₂ := by
  obtain ⟨h1, t1, rfl, k1⟩ := h
  obtain ⟨h2, t2, rfl, k2⟩ := h'
  exact ⟨h2, t2, rfl, fun b o e => k2 b o (k1 b o e)⟩
theorem Kp.keep {s s₁ : Shared} (h : Kp s s₁) : ∀ b o, s.heap.get? b = some o → s₁.heap.get? b = some o := by
  obtain ⟨h1, t1, rfl, k1⟩ := h
  exact k1
theorem Kp.tok (s : Shared) (k : Nat) : Kp s { s with toks := k } := ⟨s.heap, k, rfl, fun _ _ e => e⟩
theorem Kp.push (s : Shared) (o : Obj) (k : Nat) : Kp s { s with heap := s.heap.push o, toks := k } := ⟨_, k, rfl, fun _ _ e => Heap.get?_push_of_some _ e⟩
theorem Kp.push' (s : Shared) (o : Obj) : Kp s { s with heap := s.heap.push o } := ⟨_, s.toks, rfl, fun _ _ e => Heap.get?_push_of_some _ e⟩

theorem Kp.of {s : Shared} {h' : Heap} {tk : Nat} (hk : ∀ b o, s.heap.get? b = some o → h'.get? b = some o) : Kp s { s with heap := h', toks := tk } := ⟨h', tk, rfl, hk⟩
theorem Ok.keeps {K : Frag} {A : Around} {env : Env} {X : Addr → Prop} {s s' : Shared} (k : Ok K A env X s) (h : Kp s s') : Ok K A env X s' :=
  ⟨k.rm, k.kf, k.eg, k.eb, k.ge.keeps h.keep, fun a x => let ⟨o, e⟩ := k.xa a x; ⟨o, h.keep _ _ e⟩⟩
theorem Ok.fresh {K : Frag} {A : Around} {env : Env} {X : Addr → Prop} {s : Shared} (k : Ok K A env X s) : ¬ X s.heap.objs.size := fun x => by
  obtain ⟨o, e⟩ := k.xa _ x
  exact Nat.lt_irrefl _ (Heap.lt_size e)

/-- e comes to the data d, from s and from all that keeps s -/
def Ev (prog : Program) (w : World) (A : Around) (env : Env) (X : Addr → Prop) (s : Shared) (e : Expr) (d : PyData) : Prop :=
  ∀ s₁, Kp s s₁ → ∀ (Q : Value → Shared → Prop) (E : Value → Shared → Prop), (∀ v s₂, Kp s₁ s₂ → Rp s₂.heap X v d → Q v s₂) → wpAny (model prog w) A (eval e env) Q E s₁
/-- e as a test comes to b -/
def Tr (prog : Program) (w : World) (A : Around) (env : Env) (s : Shared) (e : Expr) (b : Bool) : Prop :=
  ∀ s₁, Kp s s₁ → ∀ (Q : Bool → Shared → Prop) (E : Value → Shared → Prop), (∀ s₂, Kp s₁ s₂ → Q b s₂) → wpAny (model prog w) A (isTrue e env (eval e env)) Q E s₁

section
variable {prog : Program} {w : World} {K : Frag} {A : Around} {env : Env} {X : Addr → Prop} {s : Shared}

theorem Ev.keeps {e : Expr} {d : PyData} {s' : Shared} (h : Ev prog w A env X s e d) (hk : Kp s s') : Ev prog w A env X s' e d := fun s₁ h₁ => h s₁ (hk.trans h₁)
theorem Tr.keeps {e : Expr} {b : Bool} {s' : Shared} (h : Tr prog w A env s e b) (hk : Kp s s') : Tr prog w A env s' e b := fun s₁ h₁ => h s₁ (hk.trans h₁)
theorem Ev.cast {e : Expr} {d d' : PyData} (h : Ev prog w A env X s e d) (hd : d = d') : Ev prog w A env X s e d' := hd ▸ h
theorem Tr.cast {e : Expr} {b b' : Bool} (h : Tr prog w A env s e b) (hd : b = b') : Tr prog w A env s e b' := hd ▸ h

/-! names -/
/-- x holds v: a local, or a cell -/
def Var (env : Env) (h : Heap) (x : Str) (v : Value) : Prop :=
  (env.kindOf x = some .local ∧ ∃ m, h.Ns env.locals m ∧ m x = some v) ∨ ((env.kindOf x = some .cell ∨ (env.kindOf x = some .free ∧ (x == ("__classdict__" : Str)) = false)) ∧ ∃ c, env.cells.lookup x = some c ∧ h.IsCell c (some v))
theorem Var.keeps {h h' : Heap} {x : Str} {v : Value} (hv : Var env h x v) (hk : ∀ b o, h.get? b = some o → h'.get? b = some o) : Var env h' x v :=
  hv.imp (fun ⟨a, m, b, c⟩ => ⟨a, m, b.keeps hk, c⟩) fun ⟨a, c, b, d⟩ => ⟨a, c, b, d.keeps hk⟩
/-- x holds the data d -/
def Has (env : Env) (X : Addr → Prop) (h : Heap) (x : Str) (d : PyData) : Prop := ∃ v, Var env h x v ∧ Rp h X v d
theorem Has.keeps {h h' : Heap} {x : Str} {d : PyData} (hv : Has env X h x d) (hk : ∀ b o, h.get? b = some o → h'.get? b = some o) : Has env X h' x d :=
  let ⟨v, a, b⟩ := hv; ⟨v, a.keeps hk, b.keeps hk⟩
theorem Has.cast {h : Heap} {x : Str} {d d' : PyData} (hv : Has env X h x d) (hd : d = d') : Has env X h x d' := hd ▸ hv

theorem load_var {M : Model} {x : Str} {v : Value} {Q : Value → Shared → Prop} {E} (hk : env.scope.kind = .function) (hv : Var env s.heap x v) (h : Q v s) : wpAny M A (loadName env x) Q E s := by
  rcases hv with ⟨hl, m, hn, e⟩ | ⟨hc | ⟨hc, hq⟩, c, hl, hv⟩
  · exact wpAny_loadName_local hk hl hn e h
  · exact wpAny_loadName_cell hk hc hl hv h
  · exact wpAny_loadName_free hk hc hl hv h hq

theorem Ev.name {x : Str} {pos : Pos} {d : PyData} (ok : Ok K A env X s) (h : Has env X s.heap x d) (hd : (x == ("__debug__" : Str)) = false := by decide) : Ev prog w A env X s (.Name x pos) d := by
  intro s₁ k Q E hq
  obtain ⟨v, hv, hr⟩ := h.keeps k.keep
  exact wpAny_Name (load_var ok.kf hv (hq v s₁ (.refl _) hr)) hd

theorem eval_global {x : Str} {pos : Pos} {v : Value} {Q : Value → Shared → Prop} {E} (ok : Ok K A env X s) (hx : env.kindOf x = some .globalImplicit) (e : nsIn K mainGlobals x = some (some v)) (h : Q v s)
    (hd : (x == ("__debug__" : Str)) = false := by decide) : wpAny (model prog w) A (eval (.Name x pos) env) Q E s := by
  obtain ⟨mg, mb, h1, h2, h3⟩ := ok.ge.ns
  exact Calls.Name_function_global ok.kf hx (Calls.loadGlobal_global (mg := mg) (ok.eg ▸ h1) (mg_of ok.ge.inK h1 e) h) hd
theorem eval_builtin {x : Str} {pos : Pos} {v : Value} {Q : Value → Shared → Prop} {E} (ok : Ok K A env X s) (hx : env.kindOf x = some .globalImplicit) (e : nsIn K mainGlobals x = some none) (hv : bootBuiltins x = some v) (hn : x ≠ "__name__")
    (h : Q v s) (hd : (x == ("__debug__" : Str)) = false := by decide) : wpAny (model prog w) A (eval (.Name x pos) env) Q E s := by
  obtain ⟨mg, mb, h1, h2, h3⟩ := ok.ge.ns
  exact Calls.Name_function_global ok.kf hx (Calls.loadGlobal_builtin (mg := mg) (mb := mb) (ok.eg ▸ h1) (mg_none_of ok.ge.inK h1 e) (ok.eb ▸ h2) ((h3 x hn).trans hv) h) hd

theorem Ev.global_str {x : Str} {pos : Pos} {y : Str} {t : Tok} (ok : Ok K A env X s) (hx : env.kindOf x = some .globalImplicit) (e : nsIn K mainGlobals x = some (some (.str y t)))
    (hd : (x == ("__debug__" : Str)) = false := by decide) : Ev prog w A env X s (.Name x pos) (.str y) := fun s₁ k Q E hq => eval_global (ok.keeps k) hx e (hq _ _ (.refl _) (.str y t)) hd

/-! constants -/
theorem Ev.int {i : Int} {k : Nat} {pos : Pos} : Ev prog w A env X s (.Constant (.int i) k pos) (.int i) := fun s₁ _ Q E hq => wpAny_Constant_int (hq _ _ (.tok _ _) (.int _ _))
theorem Ev.str {x : Str} {k : Nat} {pos : Pos} : Ev prog w A env X s (.Constant (.str x) k pos) (.str x) := fun s₁ _ Q E hq => wpAny_Constant_str (hq _ _ (.tok _ _) (.str _ _))
theorem Ev.bool {b : Bool} {k : Nat} {pos : Pos} : Ev prog w A env X s (.Constant (.bool b) k pos) (.bool b) := fun s₁ _ Q E hq => wpAny_Constant_bool (hq _ _ (.refl _) (.bool _))

/-! two operands -/
theorem Ev.bin {l r : Expr} {op : Operator} {pos : Pos} {a b d : PyData} (hl : Ev prog w A env X s l a) (hr : Ev prog w A env X s r b)
    (h : ∀ s₁ v u, Kp s s₁ → Rp s₁.heap X v a → Rp s₁.heap X u b → ∀ (Q : Value → Shared → Prop) E, (∀ v s₂, Kp s₁ s₂ → Rp s₂.heap X v d → Q v s₂) → wpAny (model prog w) A (binaryOp op v u) Q E s₁) :
    Ev prog w A env X s (.BinOp l op r pos) d := fun s₁ k Q E hq =>
  wpAny_BinOp (hl s₁ k _ _ fun v s₂ k2 r2 => hr s₂ (k.trans k2) _ _ fun u s₃ k3 r3 => h s₃ v u ((k.trans k2).trans k3) (r2.keeps k3.keep) r3 Q E fun v' s₄ k4 r4 => hq v' s₄ ((k2.trans k3).trans k4) r4)

theorem Ev.cmp {l r : Expr} {op : CmpOp} {pos : Pos} {a b d : PyData} (hl : Ev prog w A env X s l a) (hr : Ev prog w A env X s r b)
    (h : ∀ s₁ v u, Kp s s₁ → Rp s₁.heap X v a → Rp s₁.heap X u b → ∀ (Q : Value → Shared → Prop) E, (∀ v s₂, Kp s₁ s₂ → Rp s₂.heap X v d → Q v s₂) → wpAny (model prog w) A (compareOp op v u) Q E s₁)
    (hm : behindInMarks op r = false := by with_unfolding_all rfl) :
    Ev prog w A env X s (.Compare l [op] [r] pos) d := fun s₁ k Q E hq =>
  wpAny_Compare1 (hl s₁ k _ _ fun v s₂ k2 r2 => hr s₂ (k.trans k2) _ _ fun u s₃ k3 r3 => h s₃ v u ((k.trans k2).trans k3) (r2.keeps k3.keep) r3 Q E fun v' s₄ k4 r4 => hq v' s₄ ((k2.trans k3).trans k4) r4) hm

/-- truth of data -/
def tv : PyData → Bool
  | .none => false
  | .bool b => b
  | .int i => i != 0
  | .str x => x.length != 0
  | .list xs => !xs.isEmpty
  | .tuple xs => !xs.isEmpty
  | .dict xs => !xs.isEmpty

theorem Tr.cmp {l r : Expr} {op : CmpOp} {pos : Pos} {a b : PyData} {c : Bool} (hl : Ev prog w A env X s l a) (hr : Ev prog w A env X s r b)
    (h : ∀ s₁ v u, Kp s s₁ → Rp s₁.heap X v a → Rp s₁.heap X u b → ∀ (Q : Value → Shared → Prop) E, (∀ v s₂, Kp s₁ s₂ → Rp s₂.heap X v (.bool c) → Q v s₂) → wpAny (model prog w) A (compareOp op v u) Q E s₁)
    (hm : behindInMarks op r = false := by with_unfolding_all rfl) :
    Tr prog w A env s (.Compare l [op] [r] pos) c := fun s₁ k Q E hq =>
  wpAny_isTrue_Compare1 (hl s₁ k _ _ fun v s₂ k2 r2 => hr s₂ (k.trans k2) _ _ fun u s₃ k3 r3 => h s₃ v u ((k.trans k2).trans k3) (r2.keeps k3.keep) r3 _ E fun v' s₄ k4 r4 => by
    obtain rfl := r4.bool_inv
    exact wpAny_truthy_bool (hq s₄ ((k2.trans k3).trans k4))) hm
theorem Tr.value {e : Expr} {b : Bool} (h : Ev prog w A env X s e (.bool b)) (he : ∀ whole, isTrue e env whole = (do let v ← whole; standAt e.pos; holding [v] (truthy v)) := by intro _; rfl) : Tr prog w A env s e b := fun s₁ k Q E hq =>
  wpAny_isTrue_value (h s₁ k _ _ fun v s₂ k2 r2 => by obtain rfl := r2.bool_inv; exact wpAny_truthy_bool (hq s₂ k2)) (he _)
theorem Tr.str {e : Expr} {x : Str} (hx : x.length ≤ sizeLine) (h : Ev prog w A env X s e (.str x)) (he : ∀ whole, isTrue e env whole = (do let v ← whole; standAt e.pos; holding [v] (truthy v)) := by intro _; rfl) : Tr prog w A env s e (x.length != 0) := fun s₁ k Q E hq =>
  wpAny_isTrue_value (h s₁ k _ _ fun v s₂ k2 r2 => by
    obtain ⟨t, rfl⟩ := r2.str_inv
    refine P.truthy_str (by rw [sizeLine_eq] at hx; omega) ?_
    have : (((x.length : Nat) : Int) != 0) = (x.length != 0) := by
      cases hh : x.length <;> simp
      omega
    rw [this]
    exact hq _ (k2.trans (.tok _ _))) (he _)
theorem Tr.list {e : Expr} {xs : List PyData} (hx : xs.length ≤ sizeLine) (h : Ev prog w A env X s e (.list xs)) (he : ∀ whole, isTrue e env whole = (do let v ← whole; standAt e.pos; holding [v] (truthy v)) := by intro _; rfl) : Tr prog w A env s e (!xs.isEmpty) := fun s₁ k Q E hq =>
  wpAny_isTrue_value (h s₁ k _ _ fun v s₂ k2 r2 => by
    obtain ⟨a, vs, n, rfl, hl, _, hr⟩ := r2.list_inv
    have hlen : vs.size = xs.length := by rw [← hr.length]; simp
    refine wpAny_truthy_list hl.isList (by rw [sizeLine_eq] at hx; omega) ?_
    have : vs.isEmpty = xs.isEmpty := by
      cases vs with | mk l => cases l <;> cases xs <;> simp_all
    rw [this]
    exact hq _ (k2.trans (.tok _ _))) (he _)

theorem Ev.ite {t b o : Expr} {pos : Pos} {c : Bool} {d : PyData} (ht : Tr prog w A env s t c) (hb : c = true → Ev prog w A env X s b d) (ho : c = false → Ev prog w A env X s o d) : Ev prog w A env X s (.IfExp t b o pos) d := fun s₁ k Q E hq =>
  wpAny_IfExp (ht s₁ k _ _ fun s₂ k2 => by
    cases c with
    | true => exact hb rfl s₂ (k.trans k2) Q E fun v s₃ k3 r => hq v s₃ (k2.trans k3) r
    | false => exact ho rfl s₂ (k.trans k2) Q E fun v s₃ k3 r => hq v s₃ (k2.trans k3) r)

/-! ints -/
theorem Ev.add {l r : Expr} {pos : Pos} {a b : Int} (hl : Ev prog w A env X s l (.int a)) (hr : Ev prog w A env X s r (.int b)) : Ev prog w A env X s (.BinOp l .Add r pos) (.int (a + b)) :=
  hl.bin hr fun s₁ v u k r1 r2 Q E hq => by
    obtain ⟨t, rfl⟩ := r1.int_inv; obtain ⟨t', rfl⟩ := r2.int_inv
    exact P.add_int (hq _ _ (.tok _ _) (.int _ _))
theorem Ev.sub {l r : Expr} {pos : Pos} {a b : Int} (hl : Ev prog w A env X s l (.int a)) (hr : Ev prog w A env X s r (.int b)) : Ev prog w A env X s (.BinOp l .Sub r pos) (.int (a - b)) :=
  hl.bin hr fun s₁ v u k r1 r2 Q E hq => by
    obtain ⟨t, rfl⟩ := r1.int_inv; obtain ⟨t', rfl⟩ := r2.int_inv
    exact P.sub_int (hq _ _ (.tok _ _) (.int _ _))
theorem Ev.mod {l r : Expr} {pos : Pos} {a b : Int} (hb : 0 < b) (hl : Ev prog w A env X s l (.int a)) (hr : Ev prog w A env X s r (.int b)) : Ev prog w A env X s (.BinOp l .Mod r pos) (.int (a % b)) :=
  hl.bin hr fun s₁ v u k r1 r2 Q E hq => by
    obtain ⟨t, rfl⟩ := r1.int_inv; obtain ⟨t', rfl⟩ := r2.int_inv
    refine mod_int' (by omega) ?_
    rw [Int.fmod_eq_emod_of_nonneg _ (by omega)]
    exact hq _ _ (.tok _ _) (.int _ _)
theorem Ev.div {l r : Expr} {pos : Pos} {a b : Int} (hb : 0 < b) (hb' : b < 1000000) (hl : Ev prog w A env X s l (.int a)) (hr : Ev prog w A env X s r (.int b)) : Ev prog w A env X s (.BinOp l .FloorDiv r pos) (.int (a / b)) :=
  hl.bin hr fun s₁ v u k r1 r2 Q E hq => by
    obtain ⟨t, rfl⟩ := r1.int_inv; obtain ⟨t', rfl⟩ := r2.int_inv
    refine floordiv_int (by omega) ?_ (.inl (PyProof.noPylong_small (by omega)))
    rw [Int.fdiv_eq_ediv_of_nonneg _ (by omega)]
    exact hq _ _ (.tok _ _) (.int _ _)
theorem Ev.neg {l : Expr} {pos : Pos} {a : Int} (hl : Ev prog w A env X s l (.int a)) : Ev prog w A env X s (.UnaryOp .USub l pos) (.int (-a)) := fun s₁ k Q E hq =>
  wpAny_UnaryOp (hl s₁ k _ _ fun v s₂ k2 r2 => by
    obtain ⟨t, rfl⟩ := r2.int_inv
    exact P.neg_int (hq _ _ (k2.trans (.tok _ _)) (.int _ _)))

/-! comparisons of ints and texts: the step alone, for Ev.cmp and Tr.cmp -/
abbrev CmpStep (prog : Program) (w : World) (A : Around) (X : Addr → Prop) (s : Shared) (op : CmpOp) (a b : PyData) (c : Bool) : Prop :=
  ∀ s₁ v u, Kp s s₁ → Rp s₁.heap X v a → Rp s₁.heap X u b → ∀ (Q : Value → Shared → Prop) E, (∀ v s₂, Kp s₁ s₂ → Rp s₂.heap X v (.bool c) → Q v s₂) → wpAny (model prog w) A (compareOp op v u) Q E s₁
theorem eq_ii {a b : Int} : CmpStep prog w A X s .Eq (.int a) (.int b) (a == b) := fun s₁ v u k r1 r2 Q E hq => by
  obtain ⟨t, rfl⟩ := r1.int_inv; obtain ⟨t', rfl⟩ := r2.int_inv; exact P.eq_int (hq _ _ (.refl _) (.bool _))
theorem ne_ii {a b : Int} : CmpStep prog w A X s .NotEq (.int a) (.int b) (a != b) := fun s₁ v u k r1 r2 Q E hq => by
  obtain ⟨t, rfl⟩ := r1.int_inv; obtain ⟨t', rfl⟩ := r2.int_inv; exact P.ne_int (hq _ _ (.refl _) (.bool _))
theorem lt_ii {a b : Int} : CmpStep prog w A X s .Lt (.int a) (.int b) (decide (a < b)) := fun s₁ v u k r1 r2 Q E hq => by
  obtain ⟨t, rfl⟩ := r1.int_inv; obtain ⟨t', rfl⟩ := r2.int_inv; exact P.lt_int (hq _ _ (.refl _) (.bool _))
theorem le_ii {a b : Int} : CmpStep prog w A X s .LtE (.int a) (.int b) (decide (a ≤ b)) := fun s₁ v u k r1 r2 Q E hq => by
  obtain ⟨t, rfl⟩ := r1.int_inv; obtain ⟨t', rfl⟩ := r2.int_inv; exact P.le_int (hq _ _ (.refl _) (.bool _))
theorem gt_ii {a b : Int} : CmpStep prog w A X s .Gt (.int a) (.int b) (decide (a > b)) := fun s₁ v u k r1 r2 Q E hq => by
  obtain ⟨t, rfl⟩ := r1.int_inv; obtain ⟨t', rfl⟩ := r2.int_inv; exact P.gt_int (hq _ _ (.refl _) (.bool _))
theorem ge_ii {a b : Int} : CmpStep prog w A X s .GtE (.int a) (.int b) (decide (a ≥ b)) := fun s₁ v u k r1 r2 Q E hq => by
  obtain ⟨t, rfl⟩ := r1.int_inv; obtain ⟨t', rfl⟩ := r2.int_inv; exact P.ge_int (hq _ _ (.refl _) (.bool _))
theorem eq_ss {a b : Str} : CmpStep prog w A X s .Eq (.str a) (.str b) (a == b) := fun s₁ v u k r1 r2 Q E hq => by
  obtain ⟨t, rfl⟩ := r1.str_inv; obtain ⟨t', rfl⟩ := r2.str_inv
  refine P.eq_str ?_
  have : (a.cps.toList == b.cps.toList) = (a == b) := by
    rw [Bool.eq_iff_iff, beq_iff_eq, beq_iff_eq]
    constructor
    · intro h; cases a; cases b; simp at h; rw [h]
    · rintro rfl; rfl
  rw [this]; exact hq _ _ (.refl _) (.bool _)
theorem in_ss {a b : Str} : CmpStep prog w A X s .In (.str a) (.str b) (Txt.contains b a) := fun s₁ v u k r1 r2 Q E hq => by
  obtain ⟨t, rfl⟩ := r1.str_inv; obtain ⟨t', rfl⟩ := r2.str_inv; exact SB.contains (hq _ _ (.refl _) (.bool _))
theorem notIn_ss {a b : Str} : CmpStep prog w A X s .NotIn (.str a) (.str b) (!Txt.contains b a) := fun s₁ v u k r1 r2 Q E hq => by
  obtain ⟨t, rfl⟩ := r1.str_inv; obtain ⟨t', rfl⟩ := r2.str_inv; exact SB.notContains (hq _ _ (.refl _) (.bool _))
theorem isNot_bb {a b : Bool} : CmpStep prog w A X s .IsNot (.bool a) (.bool b) (a != b) := fun s₁ v u k r1 r2 Q E hq => by
  obtain rfl := r1.bool_inv; obtain rfl := r2.bool_inv
  refine wpAny_isNot_plain rfl ?_
  have : (!(Value.bool a == Value.bool b)) = (a != b) := by cases a <;> cases b <;> rfl
  rw [this]; exact hq _ _ (.refl _) (.bool _)
theorem eq_dd {a b : PyData} (ha : SeqAt.shaped a = true) (hb : SeqAt.shaped b = true) (ok : Ok K A env X s) : CmpStep prog w A X s .Eq a b (PyData.eqv a b) := fun s₁ v u k r1 r2 Q E hq => by
  obtain ⟨_, q1⟩ := r1.reads; obtain ⟨_, q2⟩ := r2.reads
  exact SeqAt.compareEq_shaped q1 q2 ha hb (by have := ok.rm.2.1; omega) (hq _ _ (.refl _) (.bool _))
theorem ne_dd {a b : PyData} (ha : SeqAt.shaped a = true) (hb : SeqAt.shaped b = true) (ok : Ok K A env X s) : CmpStep prog w A X s .NotEq a b (!PyData.eqv a b) := fun s₁ v u k r1 r2 Q E hq => by
  obtain ⟨_, q1⟩ := r1.reads; obtain ⟨_, q2⟩ := r2.reads
  exact SeqAt.compareNe_shaped q1 q2 ha hb (by have := ok.rm.2.1; omega) (hq _ _ (.refl _) (.bool _))

/-! texts -/
theorem Ev.cat {l r : Expr} {pos : Pos} {a b : Str} (hsz : a.length + b.length ≤ sizeLine) (hl : Ev prog w A env X s l (.str a)) (hr : Ev prog w A env X s r (.str b)) : Ev prog w A env X s (.BinOp l .Add r pos) (.str (a ++ b)) :=
  hl.bin hr fun s₁ v u k r1 r2 Q E hq => by
    obtain ⟨t, rfl⟩ := r1.str_inv; obtain ⟨t', rfl⟩ := r2.str_inv
    exact SB.add (fun t' k => hq _ _ (.tok _ _) (.str _ _)) hsz
theorem Ev.rep {l r : Expr} {pos : Pos} {a : Str} {n : Int} (hok : MulOk a n) (hl : Ev prog w A env X s l (.str a)) (hr : Ev prog w A env X s r (.int n)) : Ev prog w A env X s (.BinOp l .Mult r pos) (.str (Txt.mul a n)) :=
  hl.bin hr fun s₁ v u k r1 r2 Q E hq => by
    obtain ⟨t, rfl⟩ := r1.str_inv; obtain ⟨t', rfl⟩ := r2.int_inv
    exact SB.mul hok (fun t' k => hq _ _ (.tok _ _) (.str _ _))

end
end Mine
end

section
namespace Mine
section
variable {prog : Program} {w : World} {K : Frag} {A : Around} {env : Env} {X : Addr → Prop} {s : Shared}

/-! rows of expressions -/
def EvAll (prog : Program) (w : World) (A : Around) (env : Env) (X : Addr → Prop) (s : Shared) (es : List Expr) (ds : List PyData) : Prop :=
  ∀ s₁, Kp s s₁ → ∀ (pos : Pos) (Q : List Value → Shared → Prop) (E : Value → Shared → Prop), (∀ vs s₂, Kp s₁ s₂ → RpAll s₂.heap X vs ds → Q vs s₂) → wpAny (model prog w) A (spliced (backTo pos (starEach es env))) Q E s₁
theorem EvAll.nil : EvAll prog w A env X s [] [] := fun s₁ k pos Q E hq => wpAny_items_nil (hq _ _ (.refl _) .nil)
theorem EvAll.cons {e : Expr} {es : List Expr} {d : PyData} {ds : List PyData} (h : Ev prog w A env X s e d) (hr : EvAll prog w A env X s es ds) (he : starEach (e :: es) env = (false, eval e env) :: starEach es env := by rfl) :
    EvAll prog w A env X s (e :: es) (d :: ds) := fun s₁ k pos Q E hq =>
  wpAny_items_cons (h s₁ k _ _ fun v s₂ k2 r2 => hr s₂ (k.trans k2) pos _ _ fun vs s₃ k3 r3 => hq _ _ (k2.trans k3) (.cons (r2.keeps k3.keep) r3)) he

theorem EvAll.length {es : List Expr} {ds : List PyData} {vs : List Value} {h : Heap} (r : RpAll h X vs ds) : vs.length = ds.length := r.length

theorem rp_new_list (ok : Ok K A env X s) {vs : List Value} {ds : List PyData} (r : RpAll s.heap X vs ds) (tk : Nat) :
    Rp ({ s with heap := s.heap.push { cls := .type "list", data := .seq vs.toArray }, toks := tk } : Shared).heap X (.ref s.heap.objs.size) (.list ds) :=
  .list (vs := vs.toArray) (n := 0) (Heap.get?_push_size _ rfl) ok.fresh (by simpa using r.keeps fun _ _ e => Heap.get?_push_of_some _ e)

theorem Ev.list {es : List Expr} {pos : Pos} {ds : List PyData} (ok : Ok K A env X s) (h : EvAll prog w A env X s es ds) (hsz : ds.length ≤ sizeLine := by size_fits) : Ev prog w A env X s (.List es pos) (.list ds) := fun s₁ k Q E hq =>
  wpAny_List (h s₁ k pos _ _ fun vs s₂ k2 r2 => ⟨by rw [r2.length]; exact hsz, hq _ _ (k2.trans (.push' _ _)) (rp_new_list ((ok.keeps k).keeps k2) r2 s₂.toks)⟩)
theorem Ev.tuple {es : List Expr} {n : Nat} {pos : Pos} {ds : List PyData} (h : EvAll prog w A env X s es ds) (hsz : ds.length ≤ sizeLine := by size_fits) : Ev prog w A env X s (.Tuple es n pos) (.tuple ds) := fun s₁ k Q E hq =>
  wpAny_Tuple (h s₁ k pos _ _ fun vs s₂ k2 r2 => ⟨by rw [r2.length]; exact hsz, hq _ _ (k2.trans (.push' _ _)) (.tuple (vs := vs.toArray) (n := 0) (Heap.get?_push_size _ rfl) (by simpa using r2.keeps fun _ _ e => Heap.get?_push_of_some _ e))⟩)

/-! items -/
theorem Ev.item {v i : Expr} {pos : Pos} {xs : List PyData} {k : Int} {d : PyData} (hv : Ev prog w A env X s v (.list xs)) (hi : Ev prog w A env X s i (.int k))
    (h0 : 0 ≤ k) (hk : k < 2 ^ 63) (hd : xs[k.toNat]? = some d) (hs : ∀ o i', subscripted i false o i' = operate [o, i'] (getItem o i') := by intro _ _; rfl) : Ev prog w A env X s (.Subscript v i pos) d := fun s₁ k1 Q E hq =>
  Subscript_ (hv s₁ k1 _ _ fun o s₂ k2 r2 => hi s₂ (k1.trans k2) _ _ fun j s₃ k3 r3 => by
    obtain ⟨a, vs, n, rfl, hl, hx, hr⟩ := (r2.keeps k3.keep).list_inv
    obtain ⟨t, rfl⟩ := r3.int_inv
    obtain ⟨x, e, rx⟩ := hr.get hd
    exact tail_any (T := "list") ⟨_, hl, rfl⟩ list_getitem_lookup (wpAny_getItem_list hl.isList h0 hk (by simpa using e) (hq _ _ (k2.trans k3) rx)) (hs _ _))
theorem Ev.itemNeg {v i : Expr} {pos : Pos} {xs : List PyData} {k : Int} {d : PyData} (hv : Ev prog w A env X s v (.list xs)) (hi : Ev prog w A env X s i (.int k))
    (h0 : k < 0) (h1 : -(xs.length : Int) ≤ k) (hk : -(2 ^ 63) ≤ k) (hd : xs[(k + xs.length).toNat]? = some d) (hs : ∀ o i', subscripted i false o i' = operate [o, i'] (getItem o i') := by intro _ _; rfl) : Ev prog w A env X s (.Subscript v i pos) d := fun s₁ k1 Q E hq =>
  Subscript_ (hv s₁ k1 _ _ fun o s₂ k2 r2 => hi s₂ (k1.trans k2) _ _ fun j s₃ k3 r3 => by
    obtain ⟨a, vs, n, rfl, hl, hx, hr⟩ := (r2.keeps k3.keep).list_inv
    obtain ⟨t, rfl⟩ := r3.int_inv
    obtain ⟨x, e, rx⟩ := hr.get hd
    have hlen : vs.size = xs.length := by rw [← hr.length]; simp
    exact tail_any (T := "list") ⟨_, hl, rfl⟩ list_getitem_lookup (wpAny_getItem_list_neg hl.isList h0 (by rw [hlen]; exact h1) hk (by rw [hlen]; simpa using e) (hq _ _ (k2.trans k3) rx)) (hs _ _))
theorem Ev.itemT {v i : Expr} {pos : Pos} {xs : List PyData} {k : Int} {d : PyData} (hv : Ev prog w A env X s v (.tuple xs)) (hi : Ev prog w A env X s i (.int k))
    (h0 : 0 ≤ k) (hk : k < 2 ^ 63) (hd : xs[k.toNat]? = some d) (hs : ∀ o i', subscripted i false o i' = operate [o, i'] (getItem o i') := by intro _ _; rfl) : Ev prog w A env X s (.Subscript v i pos) d := fun s₁ k1 Q E hq =>
  Subscript_ (hv s₁ k1 _ _ fun o s₂ k2 r2 => hi s₂ (k1.trans k2) _ _ fun j s₃ k3 r3 => by
    obtain ⟨a, vs, n, rfl, hl, hr⟩ := (r2.keeps k3.keep).tuple_inv
    obtain ⟨t, rfl⟩ := r3.int_inv
    obtain ⟨x, e, rx⟩ := hr.get hd
    have hlt : k < xs.length := by
      have := (List.getElem?_eq_some_iff.mp hd).1; omega
    have hlen : vs.size = xs.length := by rw [← hr.length]; simp
    exact tail_any (T := "tuple") ⟨_, hl, rfl⟩ F.slot_tuple_getitem.lookup (PyProof.Rows.getItem_tuple ⟨_, hl, rfl, _, rfl⟩ (by omega) hk (seqIndex_of h0 (by rw [hlen]; exact hlt)) (by simpa using e) (hq _ _ (k2.trans k3) rx)) (hs _ _))

/-! slices: a bound is none or an int -/
def EvOpt (prog : Program) (w : World) (A : Around) (env : Env) (X : Addr → Prop) (s : Shared) : Option Expr → Option Int → Prop
  | some e, some i => Ev prog w A env X s e (.int i)
  | none, none => True
  | _, _ => False
theorem EvOpt.some {e : Expr} {i : Int} (h : Ev prog w A env X s e (.int i)) : EvOpt prog w A env X s (some e) (some i) := h
theorem EvOpt.none : EvOpt prog w A env X s none none := trivial
theorem EvOpt.run {e : Option Expr} {i : Option Int} (h : EvOpt prog w A env X s e i) {s₁ : Shared} (k : Kp s s₁) {Q : Value → Shared → Prop} {E}
    (hq : ∀ v s₂, Kp s₁ s₂ → IsPart v i → Q v s₂) : wpAny (model prog w) A (evalPart e env) Q E s₁ := by
  cases e with
  | none => cases i with
    | none => exact wpAny_evalPart_none (hq _ _ (.refl _) .none)
    | some i => exact h.elim
  | some e => cases i with
    | none => exact h.elim
    | some i => exact wpAny_evalPart_some (h s₁ k _ _ fun v s₂ k2 r2 => by obtain ⟨t, rfl⟩ := r2.int_inv; exact hq _ _ k2 (.int i t))

/-- what a list's cut picks -/
def cutL {α : Type} (xs : List α) (lo hi : Option Int) : List α := (xs.take (hi.elim xs.length (clipAt xs.length))).drop (lo.elim 0 (clipAt xs.length))

theorem pick_cut (vs : Array Value) (lo hi : Option Int) : slicePick vs lo hi none = (cutL vs.toList lo hi).toArray := by
  rw [slicePick_plain]
  unfold cutL
  rw [List.drop_take]
  simp
theorem RpAll.cut {h : Heap} {vs : List Value} {ds : List PyData} (r : RpAll h X vs ds) (lo hi : Option Int) : RpAll h X (cutL vs lo hi) (cutL ds lo hi) := by
  unfold cutL
  rw [r.length]
  exact (r.take _).drop _

theorem Ev.slice {v : Expr} {lo hi : Option Expr} {p pos : Pos} {xs : List PyData} {a b : Option Int} (ok : Ok K A env X s) (hv : Ev prog w A env X s v (.list xs)) (hlo : EvOpt prog w A env X s lo a) (hhi : EvOpt prog w A env X s hi b)
    (hsz : xs.length ≤ sizeLine) : Ev prog w A env X s (.Subscript v (.Slice lo hi none p) pos) (.list (cutL xs a b)) := fun s₁ k1 Q E hq =>
  Subscript_ (hv s₁ k1 _ _ fun o s₂ k2 r2 => wpAny_Slice (hlo.run (k1.trans k2) fun vl s₃ k3 pl => hhi.run ((k1.trans k2).trans k3) fun vu s₄ k4 pu => by
    rw [evalPart_none]
    refine wpAny_pure ?_
    obtain ⟨l, vs, n, rfl, hl, hx, hr⟩ := ((r2.keeps k3.keep).keeps k4.keep).list_inv
    have hlen : vs.size = xs.length := by rw [← hr.length]; simp
    refine tail_any (T := "list") (s := { s₄ with heap := s₄.heap.push { cls := .type "slice", data := .fields #[vl, vu, .none] } }) ⟨_, Heap.get?_push_of_some _ hl, rfl⟩ list_getitem_lookup ?_ (ops := [.ref s₄.heap.objs.size, .ref l]) rfl
    refine wpAny_getItem_list_slice (IsL.isList (n := n) (Heap.get?_push_of_some _ hl)) (Heap.IsSliceOf.new ..) pl pu .none (by simp) ?_ (by rw [hlen]; exact hsz)
    rw [pick_cut]
    refine hq _ _ (k2.trans (k3.trans (k4.trans ((Kp.push' _ _).trans (.push' _ _))))) ?_
    exact rp_new_list (((((ok.keeps k1).keeps k2).keeps k3).keeps k4).keeps (.push' _ _)) ((hr.cut a b).keeps fun _ _ e => Heap.get?_push_of_some _ e) s₄.toks))

/-! lists together -/
theorem Ev.addL {l r : Expr} {pos : Pos} {xs ys : List PyData} (ok : Ok K A env X s) (hsz : xs.length + ys.length ≤ sizeLine) (hl : Ev prog w A env X s l (.list xs)) (hr : Ev prog w A env X s r (.list ys)) :
    Ev prog w A env X s (.BinOp l .Add r pos) (.list (xs ++ ys)) :=
  hl.bin hr fun s₁ v u k r1 r2 Q E hq => by
    obtain ⟨a, vs, n, rfl, ha, _, q1⟩ := r1.list_inv
    obtain ⟨b, us, m, rfl, hb, _, q2⟩ := r2.list_inv
    have h1 : vs.size = xs.length := by rw [← q1.length]; simp
    have h2 : us.size = ys.length := by rw [← q2.length]; simp
    refine P.add_list ha hb ?_ (by rw [h1, h2]; exact hsz)
    have e : vs ++ us = (vs.toList ++ us.toList).toArray := by simp
    rw [e]
    exact hq _ _ (.push' _ _) (rp_new_list (ok.keeps k) (q1.append q2) s₁.toks)

/-! membership of an int in a list of ints -/
theorem in_il {a : Int} {ns : List Int} : CmpStep prog w A X s .In (.int a) (.list (ns.map .int)) (ns.contains a) := fun s₁ v u k r1 r2 Q E hq => by
  obtain ⟨t, rfl⟩ := r1.int_inv
  obtain ⟨l, vs, n, rfl, hl, _, hr⟩ := r2.list_inv
  have key : ∀ (ns : List Int) (vs : List Value), RpAll s₁.heap X vs (ns.map .int) → (∀ y ∈ vs, ∃ i u, y = Value.int i u) ∧ (vs.any fun y => match y with | .int i _ => i == a | _ => false) = ns.contains a := by
    intro ns
    induction ns with
    | nil => intro vs r; cases r; exact ⟨fun _ h => (nomatch h), rfl⟩
    | cons n ns ih =>
      intro vs r
      cases r with
      | cons r0 r1 =>
        obtain ⟨u, rfl⟩ := r0.int_inv
        obtain ⟨i1, i2⟩ := ih _ r1
        refine ⟨fun y hy => ?_, ?_⟩
        · rcases List.mem_cons.mp hy with rfl | hy
          · exact ⟨_, _, rfl⟩
          · exact i1 y hy
        · rw [List.any_cons, i2, List.contains_cons]
          have : (n == a) = (a == n) := by rw [Bool.eq_iff_iff, beq_iff_eq, beq_iff_eq]; exact eq_comm
          show (n == a || _) = _
          rw [this]
  obtain ⟨i1, i2⟩ := key ns vs.toList hr
  refine SeqRoads2.in_list (items := vs) (n := n) (fun y => match y with | .int i _ => i == a | _ => false) (fun y hy => ?_) hl ?_
  · obtain ⟨i, u, rfl⟩ := i1 y (Array.mem_toList_iff.mpr hy)
    exact MeetsSeq.EqGives.int i a u t
  · rw [← Array.any_toList, i2]; exact hq _ _ (.refl _) (.bool _)

end
end Mine
end

section
namespace Mine

/-- a callable f on data ds comes to data d; k: how deep it calls -/
def Fn (prog : Program) (w : World) (K : Frag) (f : Value) (k : Nat) (ds : List PyData) (d : PyData) : Prop :=
  ∀ (A : Around) (X : Addr → Prop) (s : Shared) (vs : List Value), Room A k → GE K s.heap → (∀ a, X a → ∃ o, s.heap.get? a = some o) → RpAll s.heap X vs ds →
    ∀ (Q : Value → Shared → Prop) (E : Value → Shared → Prop), (∀ v s', Kp s s' → Rp s'.heap X v d → Q v s') → wpAny (model prog w) A (call f vs) Q E s

section
variable {prog : Program} {w : World} {K : Frag} {A : Around} {env : Env} {X : Addr → Prop} {s : Shared}

/-- a call of a def of the text by its name -/
theorem Ev.call {x : Str} {p pos : Pos} {e : Expr} {es : List Expr} {ds : List PyData} {d : PyData} {f : Addr} {o : Obj} {fd : FuncData} {k : Nat} (ok : Ok K A env X s) (hx : env.kindOf x = some .globalImplicit)
    (hg : nsIn K mainGlobals x = some (some (.ref f))) (ho : K.lookup f = some o) (hfd : o.data = .func fd) (hf : Fn prog w K (.ref f) k ds d) (hk : Room A k) (ha : EvAll prog w A env X s (e :: es) ds)
    (he : starEach (e :: es) env = (false, eval e env) :: starEach es env := by rfl) (hd : (x == ("__debug__" : Str)) = false := by decide) :
    Ev prog w A env X s (.Call (.Name x p) (e :: es) [] pos) d := fun s₁ k1 Q E hq =>
  wpAny_Call_NameR (eval_global (ok.keeps k1) hx hg (callWith_def hfd (ha s₁ k1 pos _ _ fun vs s₂ k2 r2 =>
    ⟨((ok.keeps k1).keeps k2).ge.inK _ _ ho, hf A X s₂ vs hk ((ok.keeps k1).keeps k2).ge ((ok.keeps k1).keeps k2).xa r2 _ _ fun v s₃ k3 r3 => hq _ _ (k2.trans k3) r3⟩) he) hd)

/-- a call of a built-in by its name -/
theorem Ev.callB {x : Str} {p pos : Pos} {e : Expr} {es : List Expr} {ds : List PyData} {d : PyData} {id : String} (ok : Ok K A env X s) (hx : env.kindOf x = some .globalImplicit)
    (hg : nsIn K mainGlobals x = some none) (hb : bootBuiltins x = some (.builtin id)) (hn : x ≠ "__name__") (ha : EvAll prog w A env X s (e :: es) ds)
    (hf : ∀ s₁ vs, Kp s s₁ → RpAll s₁.heap X vs ds → ∀ (Q : Value → Shared → Prop) E, (∀ v s₂, Kp s₁ s₂ → Rp s₂.heap X v d → Q v s₂) → wpAny (model prog w) A (PySem.call (.builtin id) vs) Q E s₁)
    (he : starEach (e :: es) env = (false, eval e env) :: starEach es env := by rfl) (hplain : ∀ pos, (backTo pos (starEach es env)).any (·.1) = false := by intro _; rfl) (hd : (x == ("__debug__" : Str)) = false := by decide) :
    Ev prog w A env X s (.Call (.Name x p) (e :: es) [] pos) d := fun s₁ k1 Q E hq =>
  wpAny_Call_NameR (eval_builtin (ok.keeps k1) hx hg hb hn (PyProof.Rows.callWith_builtin1 (ha s₁ k1 pos _ _ fun vs s₂ k2 r2 =>
    hf s₂ vs (k1.trans k2) r2 _ _ fun v s₃ k3 r3 => hq _ _ (k2.trans k3) r3) he (hplain pos)) hd)

theorem boot_len : bootBuiltins "len" = some (.builtin "len") := by decide +kernel
theorem boot_min : bootBuiltins "min" = some (.builtin "min") := by decide +kernel
theorem boot_max : bootBuiltins "max" = some (.builtin "max") := by decide +kernel
theorem boot_sum : bootBuiltins "sum" = some (.builtin "sum") := by decide +kernel
theorem boot_range : bootBuiltins "range" = some (.type "range") := by decide +kernel

theorem Ev.lenL {p pos : Pos} {e : Expr} {xs : List PyData} (ok : Ok K A env X s) (hx : env.kindOf "len" = some .globalImplicit) (hg : nsIn K mainGlobals "len" = some none) (hsz : xs.length ≤ sizeLine)
    (h : Ev prog w A env X s e (.list xs)) (he : starEach [e] env = [(false, eval e env)] := by rfl) : Ev prog w A env X s (.Call (.Name "len" p) [e] [] pos) (.int xs.length) :=
  Ev.callB ok hx hg boot_len (by decide) (.cons h .nil he) (fun s₁ vs k r Q E hq => by
    cases r with | cons r0 r1 => cases r1 with | nil =>
      obtain ⟨a, us, n, rfl, hl, _, hr⟩ := r0.list_inv
      have hlen : us.size = xs.length := by rw [← hr.length]; simp
      refine Calls.call_len_list hl.isList (by rw [hlen]; rw [sizeLine_eq] at hsz; omega) ?_
      rw [hlen]; exact hq _ _ (.tok _ _) (.int _ _)) he
theorem Ev.lenS {p pos : Pos} {e : Expr} {x : Str} (ok : Ok K A env X s) (hx : env.kindOf "len" = some .globalImplicit) (hg : nsIn K mainGlobals "len" = some none) (hsz : x.length ≤ sizeLine)
    (h : Ev prog w A env X s e (.str x)) (he : starEach [e] env = [(false, eval e env)] := by rfl) : Ev prog w A env X s (.Call (.Name "len" p) [e] [] pos) (.int x.length) :=
  Ev.callB ok hx hg boot_len (by decide) (.cons h .nil he) (fun s₁ vs k r Q E hq => by
    cases r with | cons r0 r1 => cases r1 with | nil =>
      obtain ⟨t, rfl⟩ := r0.str_inv
      exact P.len_str (by rw [sizeLine_eq] at hsz; omega) (hq _ _ (.tok _ _) (.int _ _))) he
theorem Ev.min2 {p pos : Pos} {e e' : Expr} {a b : Int} (ok : Ok K A env X s) (hx : env.kindOf "min" = some .globalImplicit) (hg : nsIn K mainGlobals "min" = some none)
    (h : Ev prog w A env X s e (.int a)) (h' : Ev prog w A env X s e' (.int b)) (he : starEach [e, e'] env = [(false, eval e env), (false, eval e' env)] := by rfl) (he' : starEach [e'] env = [(false, eval e' env)] := by rfl) :
    Ev prog w A env X s (.Call (.Name "min" p) [e, e'] [] pos) (.int (min a b)) :=
  Ev.callB ok hx hg boot_min (by decide) (.cons h (.cons h' .nil he') (by rw [he, he'])) (fun s₁ vs k r Q E hq => by
    cases r with | cons r0 r1 => cases r1 with | cons r1 r2 => cases r2 with | nil =>
      obtain ⟨t, rfl⟩ := r0.int_inv
      obtain ⟨t', rfl⟩ := r1.int_inv
      refine min_two_ints ok.rm.1 fun h' tk hk => ?_
      have e : (if b < a then Value.int b t' else Value.int a t) = Value.int (min a b) (if b < a then t' else t) := by
        split
        · rw [show min a b = b by omega]
        · rw [show min a b = a by omega]
      rw [e]
      exact hq _ _ (.of hk) (.int _ _)) (by rw [he, he']) (by intro pos; rw [he']; rfl)
theorem Ev.max2 {p pos : Pos} {e e' : Expr} {a b : Int} (ok : Ok K A env X s) (hx : env.kindOf "max" = some .globalImplicit) (hg : nsIn K mainGlobals "max" = some none)
    (h : Ev prog w A env X s e (.int a)) (h' : Ev prog w A env X s e' (.int b)) (he : starEach [e, e'] env = [(false, eval e env), (false, eval e' env)] := by rfl) (he' : starEach [e'] env = [(false, eval e' env)] := by rfl) :
    Ev prog w A env X s (.Call (.Name "max" p) [e, e'] [] pos) (.int (max a b)) :=
  Ev.callB ok hx hg boot_max (by decide) (.cons h (.cons h' .nil he') (by rw [he, he'])) (fun s₁ vs k r Q E hq => by
    cases r with | cons r0 r1 => cases r1 with | cons r1 r2 => cases r2 with | nil =>
      obtain ⟨t, rfl⟩ := r0.int_inv
      obtain ⟨t', rfl⟩ := r1.int_inv
      refine max_two_ints ok.rm.1 fun h' tk hk => ?_
      have e : (if b > a then Value.int b t' else Value.int a t) = Value.int (max a b) (if b > a then t' else t) := by
        split
        · rw [show max a b = b by omega]
        · rw [show max a b = a by omega]
      rw [e]
      exact hq _ _ (.of hk) (.int _ _)) (by rw [he, he']) (by intro pos; rw [he']; rfl)

theorem ints_items {h : Heap} : ∀ {ns : List Int} {vs : List Value}, RpAll h X vs (ns.map .int) → ∃ ts : List (Int × Tok), vs = ts.map (fun p => Value.int p.1 p.2) ∧ ts.map (·.1) = ns
  | [], _, .nil => ⟨[], rfl, rfl⟩
  | n :: ns, _, .cons r0 r1 => by
    obtain ⟨t, rfl⟩ := r0.int_inv
    obtain ⟨ts, rfl, h2⟩ := ints_items r1
    exact ⟨(n, t) :: ts, rfl, by simp [h2]⟩
theorem Ev.sum {p pos : Pos} {e : Expr} {ns : List Int} (ok : Ok K A env X s) (hx : env.kindOf "sum" = some .globalImplicit) (hg : nsIn K mainGlobals "sum" = some none)
    (h : Ev prog w A env X s e (.list (ns.map .int))) (he : starEach [e] env = [(false, eval e env)] := by rfl) : Ev prog w A env X s (.Call (.Name "sum" p) [e] [] pos) (.int ns.sum) :=
  Ev.callB ok hx hg boot_sum (by decide) (.cons h .nil he) (fun s₁ vs k r Q E hq => by
    cases r with | cons r0 r1 => cases r1 with | nil =>
      obtain ⟨a, us, n, rfl, hl, _, hr⟩ := r0.list_inv
      obtain ⟨ts, e1, e2⟩ := ints_items hr
      have e3 : us = intItems ts.toArray := by
        have : us = us.toList.toArray := by simp
        rw [this, e1]; simp [intItems]
      subst e3
      refine sum_intListG ok.rm.1 hl.isList fun h' tk t' hk => ?_
      have e4 : preSum (numAt ts.toArray) ts.toArray.size = ns.sum := by
        rw [preSum_eq, List.take_of_length_le (by simp)]
        simp [e2]
      rw [e4]
      exact hq _ _ (.of hk) (.int _ _)) he

/-! methods of a text -/
theorem Ev.methS {o e : Expr} {es : List Expr} {name : Str} {apos pos : Pos} {id : String} {x : Str} {ds : List PyData} {d : PyData} (slot : Slot "str" name id) (ty : typeOf (.builtin id) = pure (.type "method_descriptor"))
    (ho : Ev prog w A env X s o (.str x)) (ha : EvAll prog w A env X s (e :: es) ds)
    (h : ∀ s₁ t vs, Kp s s₁ → RpAll s₁.heap X vs ds → ∀ (Q : Value → Shared → Prop) E, (∀ v s₂, Kp s₁ s₂ → Rp s₂.heap X v d → Q v s₂) → wpAny (model prog w) A (PySem.call (.builtin id) (.str x t :: vs)) Q E s₁)
    (hbase : attributeBase o name env (eval o env) = eval o env := by rfl)
    (hfew : ((backTo pos (starEach (e :: es) env)).all (fun x => !x.1) && (backToKw pos (keywordEach [] env)).all (fun x => x.1.isSome)
      && decide ((e :: es).length + ([] : List Keyword).length + (if ([] : List Keyword).isEmpty then 0 else 1) < 30)) = true := by rfl)
    (hline : (apos.endLine == pos.line) = true := by rfl)
    (he : starEach (e :: es) env = (false, eval e env) :: starEach es env := by rfl) (hplain : (backTo pos (starEach es env)).any (·.1) = false := by rfl) :
    Ev prog w A env X s (.Call (.Attribute o name apos) (e :: es) [] pos) d := fun s₁ k1 Q E hq =>
  wpAny_Call_method_lateS hbase hfew hline (ho s₁ k1 _ _ fun ov s₂ k2 r2 => by
    obtain ⟨t, rfl⟩ := r2.str_inv
    refine ⟨"str", id, F.plainAttrs_str, slot, ty, typeIs_str _ _ _, (fun _ e => nomatch e), ?_⟩
    have hx := ha s₂ (k1.trans k2) pos (fun vs s₃ => wpAny (model prog w) A (PySem.call (.builtin id) (.str x t :: vs)) Q E s₃) E fun vs s₃ k3 r3 =>
      h s₃ t vs ((k1.trans k2).trans k3) r3 Q E fun v s₄ k4 r4 => hq _ _ ((k2.trans k3).trans k4) r4
    rw [he] at hx ⊢
    exact Calls.callWith_builtin (by show (false || (backTo pos (starEach es env)).any (·.1)) = false; rw [hplain]; rfl) (Calls.evalArgs_plain hx))

/-! what a for, or a comprehension, goes over -/
def It (prog : Program) (w : World) (A : Around) (env : Env) (X : Addr → Prop) (s : Shared) (e : Expr) (ds : List PyData) : Prop :=
  ∀ s₁, Kp s s₁ → ∀ (Q : Value → Shared → Prop) (E : Value → Shared → Prop),
    (∀ I fp wr P St s₂, Kp s₁ s₂ → Walks prog w A I fp wr ds.length P St → St 0 s₂.heap → (∀ b ∈ fp, b < s₂.heap.objs.size) → (∀ b ∈ wr, s₁.heap.get? b = none) →
      (∀ b ∈ fp, s₁.heap.get? b = none ∨ (¬ X b ∧ ∃ vs n, IsL s₁.heap b vs n)) → (∀ i v, P i v → ∃ d, ds[i]? = some d ∧ Rp s₂.heap X v d) →
      (∀ i h, St i h → ∀ b ∈ wr, ∀ o, h.get? b = some o → ∀ xs n, o.data ≠ .seq xs n) → Q (.ref I) s₂) →
    wpAny (model prog w) A (eval e env) (fun xv s' => wpAny (model prog w) A (pyIter xv) Q E s') E s₁

theorem It.list {e : Expr} {ds : List PyData} (ok : Ok K A env X s) (h : Ev prog w A env X s e (.list ds)) : It prog w A env X s e ds := fun s₁ k1 Q E hq =>
  h s₁ k1 _ _ fun v s₂ k2 r2 => by
    obtain ⟨a, vs, n, rfl, hl, hx, hr⟩ := r2.list_inv
    have hlen : vs.size = ds.length := by rw [← hr.length]; simp
    refine wpAny_pyIter_list hl.isList ?_
    have hne : a ≠ s₂.heap.objs.size := Nat.ne_of_lt (Heap.lt_size hl)
    have hf : s₂.heap.get? s₂.heap.objs.size = none := by
      cases e : s₂.heap.get? s₂.heap.objs.size with
      | none => rfl
      | some o => exact absurd (Heap.lt_size e) (Nat.lt_irrefl _)
    have hf1 : s₁.heap.get? s₂.heap.objs.size = none := by
      cases e : s₁.heap.get? s₂.heap.objs.size with
      | none => rfl
      | some o => rw [k2.keep _ _ e] at hf; cases hf
    refine hq _ [s₂.heap.objs.size, a] [s₂.heap.objs.size] _ _ _ (k2.trans (.push' _ _)) (hlen ▸ Walks.list (prog := prog) (w := w) ok.rm.1 s₂.heap.objs.size a hne vs) ⟨⟨_, Heap.get?_push_size _ rfl, rfl, rfl⟩, (IsL.push hl _).isList⟩ ?_ ?_ ?_ ?_ ?_
    · intro b hb
      show b < (s₂.heap.push _).objs.size
      rw [Heap.size_push]
      simp only [List.mem_cons, List.not_mem_nil, or_false] at hb
      rcases hb with rfl | rfl
      · exact Nat.lt_succ_self _
      · exact Nat.lt_succ_of_lt (Heap.lt_size hl)
    · intro b hb
      simp only [List.mem_cons, List.not_mem_nil, or_false] at hb
      subst hb; exact hf1
    · intro b hb
      simp only [List.mem_cons, List.not_mem_nil, or_false] at hb
      rcases hb with rfl | rfl
      · exact .inl hf1
      · cases e : s₁.heap.get? b with
        | none => exact .inl rfl
        | some o =>
          have := k2.keep _ _ e
          rw [hl] at this
          cases this
          exact .inr ⟨hx, vs, n, e⟩
    · intro i v hv
      obtain ⟨d, e1, e2⟩ := hr.getv (i := i) (v := v) (by simpa using hv)
      exact ⟨d, e1, e2.keeps fun _ _ e => Heap.get?_push_of_some _ e⟩
    · rintro i h ⟨⟨oi, hi, _, hd⟩, _⟩ b hb o ho xs n e
      simp only [List.mem_cons, List.not_mem_nil, or_false] at hb
      subst hb
      rw [hi] at ho; cases ho
      rw [hd] at e; cases e

/-- the ints from a up to b -/
def span (a b : Int) : List Int := (List.range (b - a).toNat).map fun (i : Nat) => a + (i : Int)
theorem span_length (a b : Int) : (span a b).length = (b - a).toNat := by simp [span]

theorem It.rangeCore {a b : Int} (ok : Ok K A env X s) (ha : -(2 ^ 62) ≤ a) (ha' : a < 2 ^ 62) (hb : -(2 ^ 62) ≤ b) (hb' : b < 2 ^ 62) {s₂ : Shared} {r : Addr} {t u v : Tok} (k2 : Kp s s₂) (hr : IsRange s₂.heap r a b 1 t u v)
    {Q : Value → Shared → Prop} {E : Value → Shared → Prop}
    (hq : ∀ I fp wr P St s₃, Kp s s₃ → Walks prog w A I fp wr ((span a b).map PyData.int).length P St → St 0 s₃.heap → (∀ b ∈ fp, b < s₃.heap.objs.size) → (∀ b ∈ wr, s.heap.get? b = none) →
      (∀ b ∈ fp, s.heap.get? b = none ∨ (¬ X b ∧ ∃ vs n, IsL s.heap b vs n)) → (∀ i v, P i v → ∃ d, ((span a b).map PyData.int)[i]? = some d ∧ Rp s₃.heap X v d) →
      (∀ i h, St i h → ∀ b ∈ wr, ∀ o, h.get? b = some o → ∀ xs n, o.data ≠ .seq xs n) → Q (.ref I) s₃) :
    wpAny (model prog w) A (pyIter (.ref r)) Q E s₂ := by
  refine wpAny_pyIter_range hr (small_one ha ha' hb hb') ?_
  have hf : s₂.heap.get? s₂.heap.objs.size = none := by
    cases e : s₂.heap.get? s₂.heap.objs.size with
    | none => rfl
    | some o => exact absurd (Heap.lt_size e) (Nat.lt_irrefl _)
  have hf1 : s.heap.get? s₂.heap.objs.size = none := by
    cases e : s.heap.get? s₂.heap.objs.size with
    | none => rfl
    | some o => rw [k2.keep _ _ e] at hf; cases hf
  have hsz : Builtin.Range.rangeSize a b 1 = ((b - a).toNat : Int) := by rw [rangeSize_one]; split <;> omega
  have hlen : ((span a b).map PyData.int).length = (b - a).toNat := by simp [span]
  refine hq _ [s₂.heap.objs.size] [s₂.heap.objs.size] _ _ _ (k2.trans (.push' _ _)) (hlen ▸ (Walks.range (prog := prog) (w := w) ok.rm.1 s₂.heap.objs.size a 1 (b - a).toNat).bound) ?_ ?_ ?_ ?_ ?_ ?_
  · show IsRangeIter _ _ _ _ _
    rw [hsz]
    have := Heap.get?_push_size s₂.heap (o := { cls := .type "range_iterator", data := .fields #[rawInt a, rawInt ((b - a).toNat : Int), rawInt 1] }) rfl
    simpa [IsRangeIter, span_length] using this
  · intro b hb
    show b < (s₂.heap.push _).objs.size
    rw [Heap.size_push]
    simp only [List.mem_cons, List.not_mem_nil, or_false] at hb
    subst hb; exact Nat.lt_succ_self _
  · intro b hb
    simp only [List.mem_cons, List.not_mem_nil, or_false] at hb
    subst hb; exact hf1
  · intro b hb
    simp only [List.mem_cons, List.not_mem_nil, or_false] at hb
    subst hb; exact .inl hf1
  · rintro i v ⟨hi, t, rfl⟩
    refine ⟨.int (a + i), ?_, by simpa using Rp.int _ _⟩
    have hi' : i < (b - a).toNat := by rw [← hlen]; exact hi
    simp [span, hi']
  · intro i h hst b hb o ho xs n e
    simp only [List.mem_cons, List.not_mem_nil, or_false] at hb
    subst hb
    have : IsRangeIter h _ _ _ _ := hst
    unfold IsRangeIter at this
    rw [this] at ho; cases ho; cases e

theorem It.range1 {e : Expr} {p pos : Pos} {n : Int} (ok : Ok K A env X s) (hx : env.kindOf "range" = some .globalImplicit) (hg : nsIn K mainGlobals "range" = some none) (h : Ev prog w A env X s e (.int n))
    (hn : n < 2 ^ 62) (hn' : -(2 ^ 62) ≤ n) (he : starEach [e] env = [(false, eval e env)] := by rfl) : It prog w A env X s (.Call (.Name "range" p) [e] [] pos) ((span 0 n).map .int) := fun s₁ k1 Q E hq => by
  refine wpAny_Call_NameR (eval_builtin (ok.keeps k1) hx hg boot_range (by decide) ?_)
  rw [show backTo pos (starEach [e] env) = [(false, eval e env)] by rw [he]; rfl]
  refine PySem.callWith_type rfl (Calls.evalArgs_plain (Calls.spliced_cons (h s₁ k1 _ _ fun v s₂ k2 r2 => Calls.spliced_nil ?_)))
  obtain ⟨t, rfl⟩ := r2.int_inv
  exact call_range_1 (It.rangeCore (ok.keeps k1) (by decide) (by decide) hn' hn (k2.trans (.push _ _ _)) (IsRange.new ..) hq)
theorem It.range2 {e e' : Expr} {p pos : Pos} {a b : Int} (ok : Ok K A env X s) (hx : env.kindOf "range" = some .globalImplicit) (hg : nsIn K mainGlobals "range" = some none) (h : Ev prog w A env X s e (.int a)) (h' : Ev prog w A env X s e' (.int b))
    (ha : a < 2 ^ 62) (ha' : -(2 ^ 62) ≤ a) (hb : b < 2 ^ 62) (hb' : -(2 ^ 62) ≤ b) (he : starEach [e, e'] env = [(false, eval e env), (false, eval e' env)] := by rfl) :
    It prog w A env X s (.Call (.Name "range" p) [e, e'] [] pos) ((span a b).map .int) := fun s₁ k1 Q E hq => by
  refine wpAny_Call_NameR (eval_builtin (ok.keeps k1) hx hg boot_range (by decide) ?_)
  rw [show backTo pos (starEach [e, e'] env) = [(false, eval e env), (false, eval e' env)] by rw [he]; rfl]
  refine PySem.callWith_type rfl (Calls.evalArgs_plain (Calls.spliced_cons (h s₁ k1 _ _ fun v s₂ k2 r2 => Calls.spliced_cons (h' s₂ (k1.trans k2) _ _ fun u s₃ k3 r3 => Calls.spliced_nil ?_))))
  obtain ⟨t, rfl⟩ := r2.int_inv
  obtain ⟨t', rfl⟩ := r3.int_inv
  exact call_range_2 (It.rangeCore (ok.keeps k1) ha' ha hb' hb ((k2.trans k3).trans (.push _ _ _)) (IsRange.new ..) hq)

end
end Mine
end

section
namespace Mine

theorem Rp.more {h : Heap} {X Y : Addr → Prop} (hY : ∀ a, Y a → X a ∨ h.get? a = Option.none) : ∀ {v : Value} {d : PyData}, Rp h X v d → Rp h Y v d := by
  intro v d r
  exact r.rec (motive_1 := fun v d _ => Rp h Y v d) (motive_2 := fun vs ds _ => RpAll h Y vs ds) .none (fun b => .bool b) (fun i t => .int i t) (fun x t => .str x t)
    (fun h1 h2 _ ih => .list h1 (fun y => by rcases hY _ y with q | q
                                             · exact h2 q
                                             · rw [h1] at q; cases q) ih) (fun h1 _ ih => .tuple h1 ih) .nil (fun _ _ a b => .cons a b)
theorem Has.more {env : Env} {h : Heap} {X Y : Addr → Prop} {x : Str} {d : PyData} (hv : Has env X h x d) (hY : ∀ a, Y a → X a ∨ h.get? a = Option.none) : Has env Y h x d := let ⟨v, a, b⟩ := hv; ⟨v, a, b.more hY⟩
theorem RpAll.more {h : Heap} {X Y : Addr → Prop} (hY : ∀ a, Y a → X a ∨ h.get? a = Option.none) : ∀ {vs : List Value} {ds : List PyData}, RpAll h X vs ds → RpAll h Y vs ds
  | _, _, .nil => .nil
  | _, _, .cons a b => .cons (a.more hY) (RpAll.more hY b)

/-- the address that storing x turns -/
def At (env : Env) (x : Str) (a : Addr) : Prop := (env.kindOf x = some .local ∧ a = env.locals) ∨ (env.kindOf x = some .cell ∧ env.cells.lookup x = some a)
/-- x may be stored -/
def Slt (env : Env) (h : Heap) (x : Str) : Prop :=
  (env.kindOf x = some .local ∧ ∃ m, h.Ns env.locals m) ∨ (env.kindOf x = some .cell ∧ ∃ c, env.cells.lookup x = some c ∧ (∃ v, h.IsCell c v) ∧ (∀ y c', y ≠ x → env.cells.lookup y = some c' → c' ≠ c))
/-- no sequence -/
def NoSeq (h : Heap) (a : Addr) : Prop := ∀ o, h.get? a = some o → ∀ xs n, o.data ≠ .seq xs n

theorem noSeq_ns {h : Heap} {a : Addr} {m} (hn : h.Ns a m) : NoSeq h a := fun o ho xs n e => by
  obtain ⟨o', es, ep, ho', hd, _⟩ := hn
  rw [ho'] at ho; cases ho; rw [hd] at e; cases e
theorem noSeq_cell {h : Heap} {a : Addr} {v} (hn : h.IsCell a v) : NoSeq h a := fun o ho xs n e => by
  obtain ⟨o', ho', hd⟩ := hn
  rw [ho'] at ho; cases ho; rw [hd] at e; cases e
theorem ns_unique {h : Heap} {a : Addr} {m m'} (hn : h.Ns a m) (hn' : h.Ns a m') (y : Str) : m y = m' y := by
  obtain ⟨o, es, ep, h1, h2, _, h3⟩ := hn
  obtain ⟨o', es', ep', h1', h2', _, h3'⟩ := hn'
  rw [h1] at h1'; cases h1'
  rw [h2] at h2'; cases h2'
  rw [← h3, ← h3']
theorem ns_ne_cell {h : Heap} {a b : Addr} {m v} (hn : h.Ns a m) (hc : h.IsCell b v) : a ≠ b := fun e => by
  obtain ⟨o', es, ep, ho', hd, _⟩ := hn
  obtain ⟨o, ho, hd2⟩ := hc
  rw [e, ho] at ho'; cases ho'; rw [hd2] at hd; cases hd
theorem Rp.but {h h' : Heap} {X : Addr → Prop} {a : Addr} {v : Value} {d : PyData} (hs : Heap.SameBut a h h') (ha : NoSeq h a) (r : Rp h X v d) : Rp h' X v d :=
  r.turn (W := fun b => b = a) (fun b o e hb => (hs.2 b hb).trans e) (fun b hb o ho => .inr (by subst hb; exact ha o ho)) fun _ x => x
theorem RpAll.but {h h' : Heap} {X : Addr → Prop} {a : Addr} {vs : List Value} {ds : List PyData} (hs : Heap.SameBut a h h') (ha : NoSeq h a) (r : RpAll h X vs ds) : RpAll h' X vs ds :=
  r.turn (W := fun b => b = a) (fun b o e hb => (hs.2 b hb).trans e) (fun b hb o ho => .inr (by subst hb; exact ha o ho)) fun _ x => x

section
variable {prog : Program} {w : World} {K : Frag} {A : Around} {env : Env} {X : Addr → Prop} {s : Shared}

theorem store_var {x : Str} {v : Value} {Q : Unit → Shared → Prop} {E} (hk : env.scope.kind = .function) (hs : Slt env s.heap x)
    (hq : ∀ h' tk a, At env x a → Heap.SameBut a s.heap h' → NoSeq s.heap a → (∃ o, s.heap.get? a = some o) → Var env h' x v → (∀ y u, y ≠ x → Var env s.heap y u → Var env h' y u) →
      (∀ y, Slt env s.heap y → Slt env h' y) → Q () { s with heap := h', toks := tk }) : wpAny (model prog w) A (storeName env x v) Q E s := by
  rcases hs with ⟨hl, m, hn⟩ | ⟨hc, c, hlk, ⟨v0, hv0⟩, hap⟩
  · refine wpAny_storeName_local hl hn (fun h' hn' hs' => ?_) (by rw [hk]; rfl)
    refine hq h' _ env.locals (.inl ⟨hl, rfl⟩) hs' (noSeq_ns hn) (let ⟨o, _, _, e, _⟩ := hn; ⟨o, e⟩) (.inl ⟨hl, _, hn', by simp⟩) ?_ ?_
    · rintro y u hy (⟨h1, m1, h2, h3⟩ | ⟨h1, c1, h2, h3⟩)
      · refine .inl ⟨h1, _, hn', ?_⟩
        rw [if_neg hy]
        rw [← h3]
        exact ns_unique hn h2 y
      · exact .inr ⟨h1, c1, h2, h3.sameBut hs' (fun e => ns_ne_cell hn h3 e.symm)⟩
    · rintro y (⟨h1, m1, h2⟩ | ⟨h1, c1, h2, ⟨v1, h3⟩, h4⟩)
      · exact .inl ⟨h1, _, hn'⟩
      · exact .inr ⟨h1, c1, h2, ⟨v1, h3.sameBut hs' (fun e => ns_ne_cell hn h3 e.symm)⟩, h4⟩
  · refine wpAny_storeName_cell hk hc hlk hv0 fun h' hv' hs' => ?_
    refine hq h' _ c (.inr ⟨hc, hlk⟩) hs' (noSeq_cell hv0) (let ⟨o, e, _⟩ := hv0; ⟨o, e⟩) (.inr ⟨.inl hc, c, hlk, hv'⟩) ?_ ?_
    · rintro y u hy (⟨h1, m1, h2, h3⟩ | ⟨h1, c1, h2, h3⟩)
      · exact .inl ⟨h1, m1, h2.sameBut hs' (ns_ne_cell h2 hv0), h3⟩
      · exact .inr ⟨h1, c1, h2, h3.sameBut hs' (hap y c1 hy h2)⟩
    · rintro y (⟨h1, m1, h2⟩ | ⟨h1, c1, h2, ⟨v1, h3⟩, h4⟩)
      · exact .inl ⟨h1, m1, h2.sameBut hs' (ns_ne_cell h2 hv0)⟩
      · by_cases hy : y = x
        · subst hy
          rw [hlk] at h2; cases h2
          exact .inr ⟨h1, _, hlk, ⟨_, hv'⟩, h4⟩
        · exact .inr ⟨h1, c1, h2, ⟨v1, h3.sameBut hs' (hap y c1 hy h2)⟩, h4⟩
end
end Mine
end

section
namespace Mine

/-! the block of a comprehension -/
def closeNames (env : Env) : List (Str × NameKind) → List (Str × Addr) → Option (List (Str × Addr))
  | [], acc => some acc
  | (n, k) :: r, acc => if k == .free then (match env.cells.lookup n with | some c => closeNames env r ((n, c) :: acc) | none => none) else closeNames env r acc

theorem closureFor_of {env : Env} {scope : Scope} {cl : List (Str × Addr)} (h : closeNames env scope.names [] = some cl) : closureFor scope env = pure cl := by
  unfold closureFor
  have key : ∀ (names : List (Str × NameKind)) (acc cl : List (Str × Addr)), closeNames env names acc = some cl →
      (forIn names acc fun x r => if (x.2 == NameKind.free) = true then do let a ← cellOf env x.1; pure (ForInStep.yield ((x.1, a) :: r)) else pure (ForInStep.yield r)) = (pure cl : Sem _) := by
    intro names
    induction names with
    | nil => intro acc cl h; cases h; rfl
    | cons p r ih =>
      obtain ⟨n, k⟩ := p
      intro acc cl h
      unfold closeNames at h
      rw [List.forIn_cons]
      by_cases hk : (k == NameKind.free) = true
      · rw [if_pos hk] at h
        dsimp only
        rw [if_pos hk]
        cases hl : env.cells.lookup n with
        | none => rw [hl] at h; cases h
        | some c =>
          rw [hl] at h
          have : cellOf env n = pure c := by unfold cellOf; rw [hl]
          rw [this]
          exact ih _ _ h
      · rw [if_neg hk] at h
        dsimp only
        rw [if_neg hk]
        exact ih _ _ h
  have := key scope.names [] cl h
  first
    | exact this
    | (show (forIn scope.names [] _ >>= _) = _; rw [this]; rfl)
    | (simp only [bind_pure] ; exact this)

theorem closeNames_mem {env : Env} : ∀ {names : List (Str × NameKind)} {acc cl : List (Str × Addr)}, closeNames env names acc = some cl →
    (∀ y c, (y, c) ∈ acc → env.cells.lookup y = some c) → (∀ y c, (y, c) ∈ cl → env.cells.lookup y = some c) ∧ (∀ y c, (y, c) ∈ acc → ∃ c', (y, c') ∈ cl) ∧ ∀ y, (y, NameKind.free) ∈ names → ∃ c, (y, c) ∈ cl := by
  intro names
  induction names with
  | nil => intro acc cl h ha; cases h; exact ⟨ha, fun y c h => ⟨c, h⟩, fun y h => (nomatch h)⟩
  | cons p r ih =>
    obtain ⟨n, k⟩ := p
    intro acc cl h ha
    unfold closeNames at h
    by_cases hk : (k == NameKind.free) = true
    · rw [if_pos hk] at h
      cases hl : env.cells.lookup n with
      | none => rw [hl] at h; cases h
      | some c =>
        rw [hl] at h
        obtain ⟨i1, i2, i3⟩ := ih h (fun y c' hm => by
          rcases List.mem_cons.mp hm with e | hm
          · cases e; exact hl
          · exact ha y c' hm)
        refine ⟨i1, fun y c' hm => i2 y c' (List.mem_cons_of_mem _ hm), fun y hm => ?_⟩
        rcases List.mem_cons.mp hm with e | hm
        · cases e; exact i2 _ _ List.mem_cons_self
        · exact i3 y hm
    · rw [if_neg hk] at h
      obtain ⟨i1, i2, i3⟩ := ih h ha
      refine ⟨i1, i2, fun y hm => ?_⟩
      rcases List.mem_cons.mp hm with e | hm
      · cases e; exact absurd rfl hk
      · exact i3 y hm
theorem lookup_mem {l : List (Str × Addr)} {y : Str} {c : Addr} (h : (y, c) ∈ l) : ∃ c', l.lookup y = some c' := by
  induction l with
  | nil => cases h
  | cons p r ih =>
    obtain ⟨k, v⟩ := p
    rw [List.lookup_cons]
    cases hb : y == k with
    | true => exact ⟨v, rfl⟩
    | false =>
      rcases List.mem_cons.mp h with e | h
      · cases e; simp at hb
      · exact ih h
theorem closeNames_lookup {env : Env} {names : List (Str × NameKind)} {cl : List (Str × Addr)} (h : closeNames env names [] = some cl) {y : Str} (hy : (y, NameKind.free) ∈ names) : ∃ c, cl.lookup y = some c ∧ env.cells.lookup y = some c := by
  obtain ⟨i1, _, i3⟩ := closeNames_mem h (fun _ _ hm => nomatch hm)
  obtain ⟨c, hc⟩ := i3 y hy
  obtain ⟨c', hc'⟩ := lookup_mem hc
  exact ⟨c', hc', i1 _ _ (mem_of_lookup hc')⟩
theorem closeNames_some {env : Env} : ∀ {names : List (Str × NameKind)} (acc : List (Str × Addr)), (∀ y, (y, NameKind.free) ∈ names → ∃ c, env.cells.lookup y = some c) → ∃ cl, closeNames env names acc = some cl := by
  intro names
  induction names with
  | nil => intro acc _; exact ⟨acc, rfl⟩
  | cons p r ih =>
    obtain ⟨n, k⟩ := p
    intro acc h
    unfold closeNames
    by_cases hk : (k == NameKind.free) = true
    · rw [if_pos hk]
      obtain ⟨c, hc⟩ := h n (by rw [beq_iff_eq.mp hk]; exact List.mem_cons_self)
      rw [hc]
      exact ih _ fun y hy => h y (List.mem_cons_of_mem _ hy)
    · rw [if_neg hk]
      exact ih _ fun y hy => h y (List.mem_cons_of_mem _ hy)

theorem cellsFrom_append : ∀ (names : List (Str × NameKind)) (n : Nat) (acc : List (Str × Addr)), cellsFrom n names acc = cellsFrom n names [] ++ acc
  | [], _, _ => rfl
  | (x, k) :: r, n, acc => by
    unfold cellsFrom
    by_cases hk : (k == .cell) = true
    · rw [if_pos hk, if_pos hk, cellsFrom_append r (n + 1) ((x, n) :: acc), cellsFrom_append r (n + 1) [(x, n)]]; simp
    · rw [if_neg hk, if_neg hk]; exact cellsFrom_append r n acc
theorem cellsFrom_names : ∀ (names : List (Str × NameKind)) (n : Nat) (acc : List (Str × Addr)), (∀ y c, (y, c) ∈ acc → (y, NameKind.cell) ∈ names ∨ True) → ∀ y c, (y, c) ∈ cellsFrom n names acc → (y, NameKind.cell) ∈ names ∨ (y, c) ∈ acc
  | [], _, _, _, y, c, h => .inr h
  | (x, k) :: r, n, acc, _, y, c, h => by
    unfold cellsFrom at h
    by_cases hk : (k == .cell) = true
    · rw [if_pos hk] at h
      rcases cellsFrom_names r (n + 1) _ (fun _ _ _ => .inr trivial) y c h with q | q
      · exact .inl (List.mem_cons_of_mem _ q)
      · rcases List.mem_cons.mp q with e | q
        · cases e; rw [beq_iff_eq.mp hk]; exact .inl List.mem_cons_self
        · exact .inr q
    · rw [if_neg hk] at h
      rcases cellsFrom_names r n _ (fun _ _ _ => .inr trivial) y c h with q | q
      · exact .inl (List.mem_cons_of_mem _ q)
      · exact .inr q

def cEnv (scope : Scope) (cl : List (Str × Addr)) (C : Addr) (env : Env) : Env :=
  { scope := relabel scope env, locals := C, globals := env.globals, cells := cellsFrom (C + 1) scope.names cl, qual := env.qual, func := none, code := env.code, frame := env.frame, builtins := env.builtins }

theorem new_comp_env {M : Model} {A : Around} {E : Value → Shared → Prop} {s : Shared} {env : Env} {scope : Scope} {cl : List (Str × Addr)} {Q : Env → Shared → Prop}
    (hq : ∀ h', h'.Ns s.heap.objs.size (fun _ => none) → (∀ b o, s.heap.get? b = some o → h'.get? b = some o) → CellsOk h' (s.heap.objs.size + 1) (cellsFrom (s.heap.objs.size + 1) scope.names []) →
      Q (newEnv scope s.heap.objs.size env.globals (cellsFrom (s.heap.objs.size + 1) scope.names cl) env.qual none .none (some env) builtinsNs) { s with heap := h' }) :
    wpAny M A (newFunctionEnv scope env.globals cl [] env.qual none .none (some env)) Q E s := by
  simp only [newFunctionEnv, Option.isSome_some, if_true]
  refine wpAny_bind (wpAny_alloc ?_)
  refine wpAny_bind (wpAny_layCells _ (fun name kind cells => by cases hkc : kind == NameKind.cell <;> simp [hkc]) _ _ _ _ ?_)
  have ok := cellsFrom_ok scope.names (s.heap.push { cls := .type "dict", data := .dict #[] }) (s.heap.objs.size + 1) [] ⟨fun _ _ hm => (nomatch hm), List.Pairwise.nil⟩ (by rw [Heap.size_push]; exact Nat.le_refl _)
  rw [Heap.size_push] at ok
  rw [show ({ s with heap := s.heap.push { cls := .type "dict", data := .dict #[] } } : Shared).heap.objs.size = s.heap.objs.size + 1 from Heap.size_push ..]
  refine wpAny_bind (wpAny_pure (wpAny_pure ?_))
  exact hq _ ((Heap.Ns.new s.heap (.type "dict")).keeps (pushCells_keeps _ _)) (fun b o e => pushCells_keeps _ _ b o (Heap.get?_push_of_some _ e)) ok

end Mine
end

section
namespace Mine

/-- what the inner block knows of its names' kinds -/
structure CK (scope : Scope) (cenv : Env) : Prop where
  glob : ∀ y, scope.names.lookup y = some .globalImplicit → cenv.kindOf y = some .globalImplicit
  cap : ∀ y, scope.names.lookup y = some .cell ∨ scope.names.lookup y = some .free → cenv.kindOf y = some .cell ∨ (cenv.kindOf y = some .free ∧ (y == ("__classdict__" : Str)) = false)
  loc : ∀ y, scope.names.lookup y = some .local → cenv.kindOf y = some .local

def Vars (env : Env) (X : Addr → Prop) (h : Heap) (ρ : List (Str × PyData)) : Prop := ∀ x d, ρ.lookup x = some d → Has env X h x d

theorem lookup_relabel {env : Env} {y : Str} {k : NameKind} : ∀ {names : List (Str × NameKind)}, names.lookup y = some k →
    (names.map fun (n, k) => if (k == NameKind.free && env.scope.kind == .function && env.kindOf n == some .cell) then (n, NameKind.cell) else (n, k)).lookup y =
      some (if (k == NameKind.free && env.scope.kind == .function && env.kindOf y == some .cell) then .cell else k)
  | [], h => by simp at h
  | (n, k') :: r, h => by
    rw [List.lookup_cons] at h
    rw [List.map_cons]
    cases hb : y == n with
    | false =>
      rw [hb] at h
      have ih := lookup_relabel (env := env) h
      dsimp only
      split <;> (rw [List.lookup_cons, hb]; exact ih)
    | true =>
      rw [hb] at h
      cases h
      have e := beq_iff_eq.mp hb
      subst e
      dsimp only
      split <;> rw [List.lookup_cons, hb]

theorem kind_cEnv {scope : Scope} {cl : List (Str × Addr)} {C : Addr} {env : Env} {y : Str} {k : NameKind} (h : scope.names.lookup y = some k) :
    (cEnv scope cl C env).kindOf y = some (if (k == NameKind.free && env.scope.kind == .function && env.kindOf y == some .cell) then .cell else k) := lookup_relabel h
theorem ck_cEnv {scope : Scope} {cl : List (Str × Addr)} {C : Addr} {env : Env} (hcd : ∀ y, (y == ("__classdict__" : Str)) = true → scope.names.lookup y = none) : CK scope (cEnv scope cl C env) where
  glob := fun y h => (kind_cEnv h).trans rfl
  loc := fun y h => (kind_cEnv h).trans rfl
  cap := fun y h => by
    have hy : (y == ("__classdict__" : Str)) = false := by
      cases hb : y == ("__classdict__" : Str) with
      | false => rfl
      | true => rw [hcd y hb] at h; rcases h with h | h <;> cases h
    rcases h with h | h
    · exact .inl ((kind_cEnv h).trans rfl)
    · rw [kind_cEnv h]
      by_cases hc : (NameKind.free == NameKind.free && env.scope.kind == .function && env.kindOf y == some .cell) = true
      · rw [if_pos hc]; exact .inl rfl
      · rw [if_neg hc]; exact .inr ⟨rfl, hy⟩

section
variable {prog : Program} {w : World} {K : Frag} {A : Around} {env : Env} {X : Addr → Prop} {s : Shared}

abbrev testsOf (cenv : Env) (ifs : List Expr) : Sem Bool := forIn ifs true fun c r => if r = true then do let ok ← isTrue c cenv (eval c cenv); pure (ForInStep.yield ok) else pure (ForInStep.yield r)

/-- a turn at the item d: its tests come to p, its element to f -/
structure Turns (prog : Program) (w : World) (K : Frag) (A : Around) (scope : Scope) (ρ : List (Str × PyData)) (ifs : List Expr) (elt : Expr) (p : Bool) (f : PyData) : Prop where
  test : ∀ cenv X' s₁, CK scope cenv → Ok K A cenv X' s₁ → Vars cenv X' s₁.heap ρ → ∀ (Q : Bool → Shared → Prop) E, (∀ s₂, Kp s₁ s₂ → Q p s₂) → wpAny (model prog w) A (testsOf cenv ifs) Q E s₁
  elt : p = true → ∀ cenv X' s₁, CK scope cenv → Ok K A cenv X' s₁ → Vars cenv X' s₁.heap ρ → Ev prog w A cenv X' s₁ elt f

theorem Turns.plain {scope : Scope} {ρ : List (Str × PyData)} {elt : Expr} {f : PyData} (h : ∀ cenv X' s₁, CK scope cenv → Ok K A cenv X' s₁ → Vars cenv X' s₁.heap ρ → Ev prog w A cenv X' s₁ elt f) :
    Turns prog w K A scope ρ [] elt true f := ⟨fun _ _ s₁ _ _ _ _ _ hq => wpAny_tests_nil (hq s₁ (.refl _)), fun _ => h⟩
theorem Turns.one {scope : Scope} {ρ : List (Str × PyData)} {elt c : Expr} {f : PyData} {p : Bool} (ht : ∀ cenv X' s₁, CK scope cenv → Ok K A cenv X' s₁ → Vars cenv X' s₁.heap ρ → Tr prog w A cenv s₁ c p)
    (h : p = true → ∀ cenv X' s₁, CK scope cenv → Ok K A cenv X' s₁ → Vars cenv X' s₁.heap ρ → Ev prog w A cenv X' s₁ elt f) :
    Turns prog w K A scope ρ [c] elt p f := ⟨fun cenv X' s₁ a b d Q E hq => wpAny_tests_one (ht cenv X' s₁ a b d s₁ (.refl _) _ _ hq), h⟩

theorem lookup_append_none {α : Type} : ∀ {l r : List (Str × α)} {y : Str}, l.lookup y = none → (l ++ r).lookup y = r.lookup y
  | [], _, _, _ => rfl
  | (k, v) :: l, r, y, h => by
    rw [List.lookup_cons] at h
    rw [List.cons_append, List.lookup_cons]
    cases hb : y == k with
    | true => rw [hb] at h; cases h
    | false => rw [hb] at h; exact lookup_append_none h
theorem lookup_append_some {α : Type} : ∀ {l r : List (Str × α)} {y : Str} {c}, l.lookup y = some c → (l ++ r).lookup y = some c
  | (k, v) :: l, r, y, c, h => by
    rw [List.lookup_cons] at h
    rw [List.cons_append, List.lookup_cons]
    cases hb : y == k with
    | true => rw [hb] at h; exact h
    | false => rw [hb] at h; exact lookup_append_some h
theorem lookup_none_of {l : List (Str × Addr)} {y : Str} (h : ∀ c, (y, c) ∉ l) : l.lookup y = none := by
  cases e : l.lookup y with
  | none => rfl
  | some c => exact absurd (mem_of_lookup e) (h c)

/-- the comprehension's names are well set: told by looking -/
structure CompOk (env : Env) (scope : Scope) (x : Str) (caps : List (Str × PyData)) : Prop where
  kind : scope.kind = .function
  names : ∀ y ∈ scope.names, y.2 = .local → scope.names.lookup y.1 = some .local
  var : scope.names.lookup x = some .local ∨ scope.names.lookup x = some .cell
  free : ∀ y ∈ scope.names, y.2 = .free → (caps.lookup y.1).isSome = true
  cap : ∀ y d, caps.lookup y = some d → scope.names.lookup y = some .free ∧ (y, NameKind.cell) ∉ scope.names ∧ y ≠ x
  out : ∀ y d, caps.lookup y = some d → env.kindOf y = some .cell ∨ (env.kindOf y = some .free ∧ (y == ("__classdict__" : Str)) = false)
  cd : ∀ y, (y == ("__classdict__" : Str)) = true → scope.names.lookup y = none

theorem mem_of_lookupK {names : List (Str × NameKind)} {y : Str} {k : NameKind} (h : names.lookup y = some k) : (y, k) ∈ names := mem_of_lookup h

theorem comp_core {elt iter : Expr} {x : Str} {px : Pos} {ifs : List Expr} {scope : Scope} {cl : List (Str × Addr)} {pos : Pos} {ds : List PyData} {p : PyData → Bool} {f : PyData → PyData} {caps : List (Str × PyData)}
    {s₁ s₂ : Shared} {I : Addr} {fp wr : List Addr} {P : Nat → Value → Prop} {St : Nat → Heap → Prop} {E : Value → Shared → Prop} {RR : Value → Addr → Result → Shared → Prop}
    (ok : Ok K A env X s₁) (hc : CompOk env scope x caps) (hcl : closeNames env scope.names [] = some cl) (hv : Vars env X s₁.heap caps) (hsz : ds.length ≤ sizeLine)
    (k12 : Kp s₁ s₂) (W : Walks prog w A I fp wr ds.length P St) (hst : St 0 s₂.heap) (hfp : ∀ b ∈ fp, b < s₂.heap.objs.size) (hwr : ∀ b ∈ wr, s₁.heap.get? b = none)
    (hP : ∀ i v, P i v → ∃ d, ds[i]? = some d ∧ Rp s₂.heap X v d) (hns : ∀ i h, St i h → ∀ b ∈ wr, ∀ o, h.get? b = some o → ∀ xs n, o.data ≠ .seq xs n)
    (ht : ∀ d ∈ ds, Turns prog w K A scope ((x, d) :: caps) ifs elt (p d) (f d))
    (hR : ∀ D C h' tk m ys n, s₂.heap.get? D = none → s₂.heap.get? C = none → D ≠ C → h'.Ns C m → IsL h' D ys n → RpAll h' (fun a => X a ∨ a = D) ys.toList ((ds.filter p).map f) →
      (∀ b o, s₁.heap.get? b = some o → h'.get? b = some o) → RR (.ref D) C (.ok .next) { s₂ with heap := h', toks := tk }) :
    wpAny (model prog w) A (newList []) (fun acc s₃ => wpAny (model prog w) A (newFunctionEnv scope env.globals cl [] env.qual none .none (some env)) (fun cenv s₄ =>
      codeAny (model prog w) A (.compStart (.ListComp elt [⟨.Name x px, iter, ifs, 0⟩] scope pos) 0 (.ref I) acc { cenv with scope := relabel scope env }) (RR acc cenv.locals) s₄) E s₃) E s₂ := by
  refine wpAny_newObj_type (new_comp_env fun h₁ hn₁ hk₁ hcs => ?_)
  dsimp only at hn₁ hk₁ hcs ⊢
  generalize hH2 : s₂.heap.push { cls := .type "list", dict := none, data := .seq ([] : List Value).toArray } = H2 at hn₁ hk₁ hcs ⊢
  have hC : H2.objs.size = s₂.heap.objs.size + 1 := by rw [← hH2, Heap.size_push]
  generalize hD : s₂.heap.objs.size = D at hC ⊢
  generalize hCC : H2.objs.size = C at hn₁ hk₁ hcs hC ⊢
  have fresh : ∀ a, D ≤ a → s₂.heap.get? a = none := fun a ha => by
    cases e : s₂.heap.get? a with
    | none => rfl
    | some o' => exact absurd (Heap.lt_size e) (Nat.not_lt.mpr (hD ▸ ha))
  have hDC : D ≠ C := by rw [hC]; exact Nat.ne_of_lt (Nat.lt_succ_self _)
  have fresh1 : ∀ a, D ≤ a → s₁.heap.get? a = none := fun a ha => by
    cases e : s₁.heap.get? a with
    | none => rfl
    | some o' => have := k12.keep _ _ e; rw [fresh a ha] at this; cases this
  have hfpD : ∀ b ∈ fp, @LT.lt Nat _ b D := fun b hb => hD ▸ hfp b hb
  have hDCl : @LT.lt Nat _ D C := by rw [hC]; exact Nat.lt_succ_self _
  have hs2D : ∀ b o, s₂.heap.get? b = some o → @LT.lt Nat _ b D := fun b o e => hD ▸ Heap.lt_size e
  have old : ∀ b o, s₂.heap.get? b = some o → h₁.get? b = some o := fun b o e => hk₁ b o (hH2 ▸ Heap.get?_push_of_some _ e)
  have hacc₁ : IsL h₁ D #[] 0 := hk₁ _ _ (by rw [← hH2, ← hD]; exact Heap.get?_push_size _ rfl)
  have hst₁ : St 0 h₁ := W.frame _ _ _ hst fun b _ o e => old b o e
  -- the avoided set within
  let X' : Addr → Prop := fun a => X a ∨ a = D
  have hX' : ∀ a, X' a → X a ∨ s₂.heap.get? a = none := fun a ha => ha.imp id fun e => fresh a (Nat.le_of_eq e.symm)
  have hX1 : ∀ a, X' a → X a ∨ s₁.heap.get? a = none := fun a ha => ha.imp id fun e => fresh1 a (Nat.le_of_eq e.symm)
  -- the block
  generalize hce : cEnv scope cl C env = cenv
  have hcenv : ({ newEnv scope C env.globals (cellsFrom (C + 1) scope.names cl) env.qual none .none (some env) builtinsNs with scope := relabel scope env } : Env) = cenv := by rw [← hce]; rfl
  have hloc : cenv.locals = C := by rw [← hce]; rfl
  have hkf : cenv.scope.kind = .function := by rw [← hce]; exact hc.kind
  have hck : CK scope cenv := hce ▸ ck_cEnv hc.cd
  have hcells : cenv.cells = cellsFrom (C + 1) scope.names [] ++ cl := by rw [← hce]; exact cellsFrom_append _ _ _
  -- where the name's store goes
  have hat : ∀ a, At cenv x a → @LE.le Nat _ C a := by
    rintro a (⟨_, rfl⟩ | ⟨h1, h2⟩)
    · rw [hloc]; exact Nat.le_refl _
    · rw [hcells] at h2
      have hx : (x, NameKind.cell) ∈ scope.names := by
        rcases hc.var with q | q
        · rw [hck.loc x q] at h1; cases h1
        · exact mem_of_lookupK q
      have : ((cellsFrom (C + 1) scope.names []).lookup x).isSome = true := cellsFrom_some _ _ _ (.inl (by
        rcases hc.var with q | q
        · rw [hck.loc x q] at h1; cases h1
        · exact q))
      obtain ⟨c, hc'⟩ := Option.isSome_iff_exists.mp this
      rw [lookup_append_some hc'] at h2
      cases h2
      exact Nat.le_of_succ_le ((hcs.empty x _ (mem_of_lookup hc')).2)
  have hslt₁ : Slt cenv h₁ x := by
    rcases hc.var with q | q
    · exact .inl ⟨hck.loc x q, _, hloc ▸ hn₁⟩
    · have hk : cenv.kindOf x = some .cell := by
        rw [← hce]
        exact (kind_cEnv q).trans rfl
      have : ((cellsFrom (C + 1) scope.names []).lookup x).isSome = true := cellsFrom_some _ _ _ (.inl q)
      obtain ⟨c, hc'⟩ := Option.isSome_iff_exists.mp this
      refine .inr ⟨hk, c, by rw [hcells]; exact lookup_append_some hc', ⟨none, (hcs.empty x c (mem_of_lookup hc')).1⟩, fun y c' hy hl e => ?_⟩
      subst e
      rw [hcells] at hl
      cases hy' : (cellsFrom (C + 1) scope.names []).lookup y with
      | some c'' =>
        rw [lookup_append_some hy'] at hl
        cases hl
        exact hy (name_of_addr hcs.apart (mem_of_lookup hy') (mem_of_lookup hc'))
      | none =>
        rw [lookup_append_none hy'] at hl
        have hm := (closeNames_mem hcl (fun _ _ hm => nomatch hm)).1 y c' (mem_of_lookup hl)
        -- an older cell: it stands in s₁
        have hyn : (y, NameKind.free) ∈ scope.names := by
          have key : ∀ (names : List (Str × NameKind)) (acc cl : List (Str × Addr)), closeNames env names acc = some cl → ∀ y c, (y, c) ∈ cl → (y, c) ∈ acc ∨ (y, NameKind.free) ∈ names := by
            intro names
            induction names with
            | nil => intro acc cl h y c hm; cases h; exact .inl hm
            | cons p r ih =>
              obtain ⟨n, k⟩ := p
              intro acc cl h y c hm
              unfold closeNames at h
              by_cases hk : (k == NameKind.free) = true
              · rw [if_pos hk] at h
                cases hl : env.cells.lookup n with
                | none => rw [hl] at h; cases h
                | some c0 =>
                  rw [hl] at h
                  rcases ih _ _ h y c hm with q | q
                  · rcases List.mem_cons.mp q with e | q
                    · cases e; rw [beq_iff_eq.mp hk]; exact .inr List.mem_cons_self
                    · exact .inl q
                  · exact .inr (List.mem_cons_of_mem _ q)
              · rw [if_neg hk] at h
                rcases ih _ _ h y c hm with q | q
                · exact .inl q
                · exact .inr (List.mem_cons_of_mem _ q)
          rcases key _ _ _ hcl y c' (mem_of_lookup hl) with q | q
          · cases q
          · exact q
        obtain ⟨dy, hdy⟩ := Option.isSome_iff_exists.mp (hc.free _ hyn rfl)
        obtain ⟨v, hvv, _⟩ := hv y dy hdy
        have hcell : s₁.heap.IsCell c' (some v) := by
          rcases hvv with ⟨h1, _⟩ | ⟨_, c2, h2, h3⟩
          · rcases hc.out y dy hdy with q | q
            · rw [h1] at q; cases q
            · rw [h1] at q; cases q.1
          · rw [hm] at h2; cases h2; exact h3
        obtain ⟨o, ho, _⟩ := hcell
        have h1 := (hcs.empty x c' (mem_of_lookup hc')).2
        rw [fresh1 c' (by omega)] at ho
        cases ho
  -- captured names, at any heap that has all of s₁
  have hcapt : ∀ h', (∀ b o, s₁.heap.get? b = some o → h'.get? b = some o) → Vars cenv X' h' caps := fun h' hk y d hy => by
    obtain ⟨v, hvv, hr⟩ := hv y d hy
    obtain ⟨q1, q2, q3⟩ := hc.cap y d hy
    obtain ⟨c, hc1, hc2⟩ := closeNames_lookup hcl (mem_of_lookupK q1)
    have hcell : s₁.heap.IsCell c (some v) := by
      rcases hvv with ⟨h1, _⟩ | ⟨_, c2, h2, h3⟩
      · rcases hc.out y d hy with q | q
        · rw [h1] at q; cases q
        · rw [h1] at q; cases q.1
      · rw [hc2] at h2; cases h2; exact h3
    refine ⟨v, .inr ⟨hck.cap y (.inr q1), c, ?_, hcell.keeps hk⟩, (hr.more hX1).keeps hk⟩
    rw [hcells, lookup_append_none, hc1]
    refine lookup_none_of fun c' hm => ?_
    rcases cellsFrom_names _ _ [] (fun _ _ _ => .inr trivial) y c' hm with q | q
    · exact q2 q
    · cases q
  have hok : ∀ h' tk, (∀ b o, s₁.heap.get? b = some o → h'.get? b = some o) → (∃ o, h'.get? D = some o) → Ok K A cenv X' { s₂ with heap := h', toks := tk } := fun h' tk hk hDo =>
    ⟨ok.rm, hkf, by rw [← hce]; exact ok.eg, by rw [← hce]; exact ok.eb, ok.ge.keeps hk, fun a ha => by
      rcases ha with ha | rfl
      · obtain ⟨o, e⟩ := ok.xa a ha; exact ⟨o, hk _ _ e⟩
      · exact hDo⟩
  have hDw : D ∉ wr := fun h => Nat.lt_irrefl _ (hfpD D (W.sub _ h))
  rw [hcenv]
  have hlocC : (newEnv scope C env.globals (cellsFrom (C + 1) scope.names cl) env.qual none Value.none (some env) builtinsNs).locals = C := rfl
  rw [hlocC]
  have loop : codeAny (model prog w) A (.compLoop (.ListComp elt [⟨.Name x px, iter, ifs, 0⟩] scope pos) 0 (.ref I) (.ref D) cenv) (RR (.ref D) C) { s₂ with heap := h₁ } := by
    refine codeAny_compLoop_tests
      (fun k s' => ∃ h' tk m' ys n i, s' = { s₂ with heap := h', toks := tk } ∧ St i h' ∧ IsL h' D ys n ∧ RpAll h' X' ys.toList (((ds.take i).filter p).map f) ∧ Slt cenv h' x ∧ h'.Ns C m' ∧ i ≤ ds.length ∧ k = ds.length + 1 - i ∧
        (∀ b o, s₂.heap.get? b = some o → b ∉ wr → h'.get? b = some o)) ?_ (ds.length + 1)
      ⟨h₁, s₂.toks, _, #[], 0, 0, rfl, hst₁, hacc₁, by simpa using RpAll.nil, hslt₁, hn₁, Nat.zero_le _, rfl, fun b o e _ => old b o e⟩
    rintro k s' ⟨H, tk, m', ys, n, i, rfl, hsti, hacc, hys, hslt, hns', hi, rfl, hk⟩
    have hk1 : ∀ b o, s₁.heap.get? b = some o → H.get? b = some o := fun b o e => hk b o (k12.keep _ _ e) fun hw => by rw [hwr b hw] at e; cases e
    by_cases hlt : i < ds.length
    · refine W.item i _ _ _ hlt hsti fun v h₂ tk₂ hPv hst₂ hk₂ => ?_
      obtain ⟨d, hd, hr⟩ := hP i v hPv
      have hdm : d ∈ ds := List.mem_of_getElem? hd
      have hslt₂ : Slt cenv h₂ x := by
        rcases hslt with ⟨q, m, hm⟩ | ⟨q, c, q2, ⟨v0, q3⟩, q4⟩
        · refine .inl ⟨q, m, hm.at' fun o e => hk₂ _ o (fun hw => ?_) e⟩
          have h1 := hfpD _ (W.sub _ hw)
          have h2 := hat _ (.inl ⟨q, rfl⟩)
          omega
        · refine .inr ⟨q, c, q2, ⟨v0, ?_⟩, q4⟩
          obtain ⟨o, ho, hdd⟩ := q3
          refine ⟨o, hk₂ _ o (fun hw => ?_) ho, hdd⟩
          have h1 := hfpD _ (W.sub _ hw)
          have h2 := hat _ (.inr ⟨q, q2⟩)
          omega
      refine wpAny_assign_Name (store_var (s := { s₂ with heap := h₂, toks := tk₂ }) hkf hslt₂ fun h₃ tk₃ a ha hs₃ hna hao hvx hvo hsl₃ => ?_)
      have hCa := hat a ha
      have up₃ : ∀ b o, b ∉ wr → b < C → H.get? b = some o → h₃.get? b = some o := fun b o hb hbC e => (hs₃.2 b (fun q => Nat.lt_irrefl C (Nat.lt_of_le_of_lt hCa (q ▸ hbC)))).trans (hk₂ b o hb e)
      have hk3 : ∀ b o, s₂.heap.get? b = some o → b ∉ wr → h₃.get? b = some o := fun b o e hb => up₃ b o hb (Nat.lt_trans (hs2D b o e) hDCl) (hk b o e hb)
      have hk31 : ∀ b o, s₁.heap.get? b = some o → h₃.get? b = some o := fun b o e => hk3 b o (k12.keep _ _ e) fun hw => by rw [hwr b hw] at e; cases e
      have hacc₃ : IsL h₃ D ys n := up₃ D _ hDw hDCl hacc
      have hst₃ : St (i + 1) h₃ := W.frame _ _ _ hst₂ fun b hb o e => (hs₃.2 b (fun q => by have := hfpD b hb; subst q; omega)).trans e
      have hys₃ : RpAll h₃ X' ys.toList (((ds.take i).filter p).map f) :=
        (hys.turn (W := fun b => b ∈ wr) (h' := h₂) (fun b o e hb => hk₂ b o hb e) (fun b hb o ho => .inr (hns i H hsti b hb o ho)) fun _ x => x).but hs₃ hna
      have hns₃ : ∃ m, h₃.Ns C m := by
        have h2 : h₂.Ns C m' := hns'.at' fun o e => hk₂ _ o (fun hw => by have := hfpD _ (W.sub _ hw); omega) e
        rcases ha with ⟨q, rfl⟩ | ⟨q, q2⟩
        · rcases hsl₃ x hslt₂ with ⟨_, m, hm⟩ | ⟨q', _⟩
          · exact ⟨m, hloc ▸ hm⟩
          · rw [q] at q'; cases q'
        · refine ⟨m', h2.sameBut hs₃ fun e => ?_⟩
          obtain ⟨o, ho⟩ := hao
          rcases hslt₂ with ⟨q', _⟩ | ⟨_, c, q3, ⟨v0, q4⟩, _⟩
          · rw [q] at q'; cases q'
          · rw [q2] at q3; cases q3
            exact ns_ne_cell h2 q4 e
      obtain ⟨m₃, hns₃⟩ := hns₃
      have hitem : Rp h₃ X' v d := by
        refine (hr.more hX').turn (W := fun b => b ∈ wr) (fun b o e hb => hk3 b o e hb) (fun b hb o ho => .inr (hns 0 _ hst b hb o ho)) fun _ x => x
      have hvars : Vars cenv X' h₃ ((x, d) :: caps) := fun y dy hy => by
        rw [List.lookup_cons] at hy
        cases hb : y == x with
        | true =>
          rw [hb] at hy; cases hy
          rw [beq_iff_eq.mp hb]
          exact ⟨v, hvx, hitem⟩
        | false => rw [hb] at hy; exact hcapt h₃ hk31 y dy hy
      have T := ht d hdm
      refine T.test cenv X' _ hck (hok h₃ tk₃ hk31 ⟨_, hacc₃⟩) hvars _ _ fun s₄ k4 => ?_
      obtain ⟨h₄, tk₄, rfl, hk4⟩ := k4
      dsimp only at hk4 ⊢
      have htk : ds.take (i + 1) = ds.take i ++ [d] := by rw [List.take_add_one, hd]; rfl
      cases hpd : p d with
      | false =>
        simp only [Bool.false_eq_true, if_false]
        refine ⟨ds.length + 1 - (i + 1), by omega, h₄, tk₄, m₃, ys, n, i + 1, rfl, W.frame _ _ _ hst₃ fun b _ o e => hk4 b o e, hk4 _ _ hacc₃, ?_, ?_, hns₃.keeps hk4, hlt, rfl, fun b o e hb => hk4 _ _ (hk3 b o e hb)⟩
        · rw [htk, List.filter_append]
          simpa [hpd] using hys₃.keeps hk4
        · rcases hsl₃ x hslt₂ with ⟨q, m, hm⟩ | ⟨q, c, q2, ⟨v0, q3⟩, q4⟩
          · exact .inl ⟨q, m, hm.keeps hk4⟩
          · exact .inr ⟨q, c, q2, ⟨v0, q3.keeps hk4⟩, q4⟩
      | true =>
        simp only [if_true]
        have k4' : Kp { s₂ with heap := h₃, toks := tk₃ } { s₂ with heap := h₄, toks := tk₄ } := ⟨h₄, tk₄, rfl, hk4⟩
        refine T.elt hpd cenv X' _ hck (hok h₃ tk₃ hk31 ⟨_, hacc₃⟩) hvars _ k4' _ _ fun y s₅ k5 r5 => ?_
        obtain ⟨h₅, tk₅, rfl, hk5⟩ := k5
        dsimp only at hk5 r5 ⊢
        have hacc₅ : IsL h₅ D ys n := hk5 _ _ (hk4 _ _ hacc₃)
        have hlen : ys.size ≤ sizeLine := by
          have e1 : ys.toList.length = _ := hys₃.length
          have e2 : (((ds.take i).filter p).map f).length ≤ ds.length := by
            rw [List.length_map]
            refine Nat.le_trans (List.length_filter_le _ _) ?_
            rw [List.length_take]; omega
          have e3 : ys.toList.length = ys.size := by simp
          omega
        refine wpAny_list_append_plain (hsz := hlen) ⟨n, hacc₅⟩ fun h₆ hl₆ hs₆ => ?_
        obtain ⟨n₆, hl₆⟩ := hl₆
        have up₆ : ∀ b o, b ≠ D → h₃.get? b = some o → h₆.get? b = some o := fun b o hb e => (hs₆.2 b hb).trans (hk5 _ _ (hk4 _ _ e))
        have tD : ∀ {vs : List Value} {es : List PyData}, RpAll h₅ X' vs es → RpAll h₆ X' vs es := fun r =>
          r.turn (W := fun b => b = D) (fun b o e hb => (hs₆.2 b hb).trans e) (fun b hb o ho => .inl (by subst hb; rw [hacc₅] at ho; cases ho; exact ⟨rfl, .inr rfl⟩)) fun _ x => x
        refine ⟨ds.length + 1 - (i + 1), by omega, h₆, tk₅, m₃, ys.push y, n₆, i + 1, rfl, W.frame _ _ _ hst₃ fun b hb o e => up₆ b o (fun q => Nat.lt_irrefl D (q ▸ hfpD b hb)) e, hl₆, ?_, ?_, ?_, hlt, rfl,
          fun b o e hb => up₆ b o (fun q => Nat.lt_irrefl D (q ▸ hs2D b o e)) (hk3 b o e hb)⟩
        · have h1 : RpAll h₆ X' ys.toList (((ds.take i).filter p).map f) := tD ((hys₃.keeps hk4).keeps hk5)
          have h2 : RpAll h₆ X' [y] [f d] := tD (.cons r5 .nil)
          rw [htk, List.filter_append, List.map_append]
          have e : (List.filter p [d]).map f = [f d] := by simp [hpd]
          rw [e]
          simpa using h1.append h2
        · rcases hsl₃ x hslt₂ with ⟨q, m, hm⟩ | ⟨q, c, q2, ⟨v0, q3⟩, q4⟩
          · exact .inl ⟨q, m, ((hm.keeps hk4).keeps hk5).sameBut hs₆ (fun e => by have := hat _ (.inl ⟨q, rfl⟩); rw [e] at this; exact Nat.lt_irrefl _ (Nat.lt_of_lt_of_le hDCl this))⟩
          · exact .inr ⟨q, c, q2, ⟨v0, ((q3.keeps hk4).keeps hk5).sameBut hs₆ (fun e => by have := hat _ (.inr ⟨q, q2⟩); rw [e] at this; exact Nat.lt_irrefl _ (Nat.lt_of_lt_of_le hDCl this))⟩, q4⟩
        · exact ((hns₃.keeps hk4).keeps hk5).sameBut hs₆ (Ne.symm hDC)
    · have hin : i = ds.length := by omega
      subst hin
      refine W.done _ _ _ hsti fun h₂ tk₂ hk₂ => ?_
      refine hR D C h₂ tk₂ m' ys n (fresh D (Nat.le_refl _)) (fresh C (Nat.le_of_lt hDCl)) hDC (hns'.at' fun o e => hk₂ _ o (fun hw => by have := hfpD _ (W.sub _ hw); omega) e) (hk₂ _ _ hDw hacc) ?_ fun b o e => hk₂ b o (fun hw => by rw [hwr b hw] at e; cases e) (hk1 b o e)
      have h1 := hys.turn (W := fun b => b ∈ wr) (h' := h₂) (fun b o e hb => hk₂ b o hb e) (fun b hb o ho => .inr (hns _ H hsti b hb o ho)) fun _ x => x
      simpa using h1
  exact codeAny_compStart_list loop (W.self 0 _ _ _ hst₁ loop)
end
end Mine
end

section
namespace Mine

section
variable {prog : Program} {w : World} {K : Frag} {A : Around} {env : Env} {X : Addr → Prop} {s : Shared}

theorem comp_close {scope : Scope} {x : Str} {caps : List (Str × PyData)} {h : Heap} (hc : CompOk env scope x caps) (hv : Vars env X h caps) : ∃ cl, closeNames env scope.names [] = some cl :=
  closeNames_some [] fun y hy => by
    obtain ⟨d, hd⟩ := Option.isSome_iff_exists.mp (hc.free _ hy rfl)
    obtain ⟨v, hvv, _⟩ := hv y d hd
    rcases hvv with ⟨h1, _⟩ | ⟨_, c, h2, _⟩
    · rcases hc.out y d hd with q | q
      · rw [h1] at q; cases q
      · rw [h1] at q; cases q.1
    · exact ⟨c, h2⟩
theorem Vars.keeps {h h' : Heap} {ρ : List (Str × PyData)} (hv : Vars env X h ρ) (hk : ∀ b o, h.get? b = some o → h'.get? b = some o) : Vars env X h' ρ := fun x d e => (hv x d e).keeps hk

/-- e comes to a list that is new: no other place holds it -/
def EvNew (prog : Program) (w : World) (A : Around) (env : Env) (X : Addr → Prop) (s : Shared) (e : Expr) (ds : List PyData) : Prop :=
  ∀ s₁, Kp s s₁ → ∀ (Q : Value → Shared → Prop) (E : Value → Shared → Prop), (∀ a vs n s₂, Kp s₁ s₂ → s₁.heap.get? a = none → IsL s₂.heap a vs n → RpAll s₂.heap (fun b => X b ∨ b = a) vs.toList ds → Q (.ref a) s₂) → wpAny (model prog w) A (eval e env) Q E s₁
theorem EvNew.ev {e : Expr} {ds : List PyData} (ok : Ok K A env X s) (h : EvNew prog w A env X s e ds) : Ev prog w A env X s e (.list ds) := fun s₁ k1 Q E hq =>
  h s₁ k1 Q E fun a vs n s₂ k2 ha hl hr => hq _ _ k2 (.list hl (fun x => by
    obtain ⟨o, e⟩ := (ok.keeps k1).xa a x
    rw [ha] at e; cases e) (hr.less fun _ x => .inl x))
theorem EvNew.nil {pos : Pos} : EvNew prog w A env X s (.List [] pos) [] := fun s₁ k1 Q E hq =>
  wpAny_List (wpAny_items_nil ⟨by size_fits, hq _ _ 0 _ (.push' _ _) (by
    cases e : s₁.heap.get? s₁.heap.objs.size with
    | none => rfl
    | some o => exact absurd (Heap.lt_size e) (Nat.lt_irrefl _)) (Heap.get?_push_size _ rfl) .nil⟩)

theorem EvNew.comp {elt iter : Expr} {x : Str} {px : Pos} {ifs : List Expr} {scope : Scope} {pos : Pos} {ds : List PyData} {p : PyData → Bool} {f : PyData → PyData} {caps : List (Str × PyData)}
    (ok : Ok K A env X s) (hc : CompOk env scope x caps) (hv : Vars env X s.heap caps) (hit : It prog w A env X s iter ds) (hsz : ds.length ≤ sizeLine)
    (ht : ∀ d ∈ ds, Turns prog w K A scope ((x, d) :: caps) ifs elt (p d) (f d)) (hs : ∀ x, foldedSetIterable iter env x = pure x := by intro _; rfl) :
    EvNew prog w A env X s (.ListComp elt [⟨.Name x px, iter, ifs, 0⟩] scope pos) ((ds.filter p).map f) := by
  intro s₁ k1 Q E hq
  obtain ⟨cl, hcl⟩ := comp_close hc hv
  rw [eval_ListComp]
  refine wpAny_comprehension_free (use := none) rfl hs (closureFor_of hcl) hc.kind hc.names (hit s₁ k1 _ _ fun I fp wr P St s₂ k2 W hst hfp hwr _ hP hns => ?_)
  refine comp_core (RR := fun acc C => compPost (model prog w) A E none Q acc C) (ok.keeps k1) hc hcl (hv.keeps k1.keep) hsz k2 W hst hfp hwr hP hns ht ?_
  intro D C h' tk m ys n hD hC hDC hn hl hr hk
  refine ⟨m, hn, fun h'' hs'' => hq D ys n _ ?_ ?_ ((hs''.2 D hDC).trans hl) (hr.but hs'' (noSeq_ns hn))⟩
  · obtain ⟨h2, t2, rfl, kk⟩ := k2
    refine ⟨h'', tk, rfl, fun b o e => (hs''.2 b ?_).trans (hk b o e)⟩
    intro e'; rw [e'] at e; rw [kk _ _ e] at hC; cases hC
  · cases e : s₁.heap.get? D with
    | none => rfl
    | some o => rw [k2.keep _ _ e] at hD; cases hD
theorem Ev.comp {elt iter : Expr} {x : Str} {px : Pos} {ifs : List Expr} {scope : Scope} {pos : Pos} {ds : List PyData} {p : PyData → Bool} {f : PyData → PyData} {caps : List (Str × PyData)}
    (ok : Ok K A env X s) (hc : CompOk env scope x caps) (hv : Vars env X s.heap caps) (hit : It prog w A env X s iter ds) (hsz : ds.length ≤ sizeLine)
    (ht : ∀ d ∈ ds, Turns prog w K A scope ((x, d) :: caps) ifs elt (p d) (f d)) (hs : ∀ x, foldedSetIterable iter env x = pure x := by intro _; rfl) :
    Ev prog w A env X s (.ListComp elt [⟨.Name x px, iter, ifs, 0⟩] scope pos) (.list ((ds.filter p).map f)) := (EvNew.comp ok hc hv hit hsz ht hs).ev ok
end

/-! statements -/
def Ow (X₀ Y : Addr → Prop) : Addr → Prop := fun a => X₀ a ∨ Y a
def Fa (env : Env) (a : Addr) : Prop := ∃ x, At env x a
/-- s' is s, turned at the frame's own places and at Y alone -/
def Chg (env : Env) (Y : Addr → Prop) (s s' : Shared) : Prop :=
  (∃ h tk, s' = { s with heap := h, toks := tk }) ∧ ∀ b o, s.heap.get? b = some o → ¬ Fa env b → ¬ Y b → s'.heap.get? b = some o
theorem Chg.refl {env : Env} {Y : Addr → Prop} (s : Shared) : Chg env Y s s := ⟨⟨s.heap, s.toks, rfl⟩, fun _ _ e _ _ => e⟩
theorem Chg.trans {env : Env} {Y : Addr → Prop} {s s₁ s₂ : Shared} (h : Chg env Y s s₁) (h' : Chg env Y s₁ s₂) : Chg env Y s s₂ := by
  obtain ⟨⟨h1, t1, rfl⟩, k1⟩ := h
  obtain ⟨⟨h2, t2, rfl⟩, k2⟩ := h'
  exact ⟨⟨h2, t2, rfl⟩, fun b o e a c => k2 b o (k1 b o e a c) a c⟩
theorem Chg.kp {env : Env} {Y : Addr → Prop} {s s₁ : Shared} (h : Kp s s₁) : Chg env Y s s₁ := by
  obtain ⟨h1, t1, rfl, k1⟩ := h
  exact ⟨⟨h1, t1, rfl⟩, fun b o e _ _ => k1 b o e⟩
theorem Chg.more {env : Env} {Y Y' : Addr → Prop} {s s₁ : Shared} (h : Chg env Y s s₁) (hY : ∀ a, Y a → Y' a) : Chg env Y' s s₁ := ⟨h.1, fun b o e a c => h.2 b o e a fun y => c (hY _ y)⟩

/-- the frame's state: X₀ what callers still turn, Y what this frame still turns, sr since when the changes are told, ω a list that is still turned -/
structure St (K : Frag) (A : Around) (env : Env) (X₀ : Addr → Prop) (s₀ : Shared) (Y : Addr → Prop) (sr : Shared) (ω : Option (Str × Addr × List PyData)) (ρ : List (Str × PyData)) (s : Shared) : Prop where
  ok : Ok K A env (Ow X₀ Y) s
  chg : Chg env Y sr s
  slt : ∀ x, (env.kindOf x = some .local ∨ env.kindOf x = some .cell) → Slt env s.heap x
  yn : ∀ a, Y a → s₀.heap.get? a = none
  xn : ∀ a, X₀ a → ∃ o, s₀.heap.get? a = some o
  fa : ∀ a, Fa env a → s₀.heap.get? a = none
  ge : GE K s₀.heap
  base : ∀ b o, s₀.heap.get? b = some o → s.heap.get? b = some o
  same : ∃ h tk, s = { s₀ with heap := h, toks := tk }
  cel : ∀ y c, env.cells.lookup y = some c → env.kindOf y = some .cell
  yl : ∀ a, Y a → ∃ vs n, IsL s.heap a vs n
  own : ∀ x a ds, ω = some (x, a, ds) → Var env s.heap x (.ref a) ∧ Y a ∧ ∃ vs n, IsL s.heap a vs n ∧ RpAll s.heap (Ow X₀ Y) vs.toList ds
  vars : Vars env (Ow X₀ Y) s.heap ρ

section
variable {prog : Program} {w : World} {K : Frag} {A : Around} {env : Env} {X₀ Y : Addr → Prop} {s₀ sr s : Shared} {ω : Option (Str × Addr × List PyData)} {ρ : List (Str × PyData)}

theorem Slt.keeps {h h' : Heap} {x : Str} (hs : Slt env h x) (hk : ∀ b o, h.get? b = some o → h'.get? b = some o) : Slt env h' x := by
  rcases hs with ⟨a, m, hn⟩ | ⟨a, c, b, ⟨v, hv⟩, d⟩
  · exact .inl ⟨a, m, hn.keeps hk⟩
  · exact .inr ⟨a, c, b, ⟨v, hv.keeps hk⟩, d⟩
theorem Slt.obj {h : Heap} {x : Str} {a : Addr} (hs : Slt env h x) (ha : At env x a) : (∃ o, h.get? a = some o) ∧ NoSeq h a := by
  rcases hs with ⟨q, m, hn⟩ | ⟨q, c, b, ⟨v, hv⟩, d⟩
  · rcases ha with ⟨_, rfl⟩ | ⟨q', _⟩
    · exact ⟨let ⟨o, _, _, e, _⟩ := hn; ⟨o, e⟩, noSeq_ns hn⟩
    · rw [q] at q'; cases q'
  · rcases ha with ⟨q', _⟩ | ⟨_, q'⟩
    · rw [q] at q'; cases q'
    · rw [b] at q'; cases q'
      exact ⟨let ⟨o, e, _⟩ := hv; ⟨o, e⟩, noSeq_cell hv⟩
theorem At.kind {x : Str} {a : Addr} (ha : At env x a) : env.kindOf x = some .local ∨ env.kindOf x = some .cell := ha.imp (·.1) (·.1)

theorem Kp.same {s s' s₀ : Shared} (k : Kp s s') (h : ∃ h tk, s = { s₀ with heap := h, toks := tk }) : ∃ h tk, s' = { s₀ with heap := h, toks := tk } := by
  obtain ⟨h1, t1, rfl, _⟩ := k
  obtain ⟨h2, t2, rfl⟩ := h
  exact ⟨h1, t1, rfl⟩
theorem St.keeps {s' : Shared} (st : St K A env X₀ s₀ Y sr ω ρ s) (k : Kp s s') : St K A env X₀ s₀ Y sr ω ρ s' :=
  ⟨st.ok.keeps k, st.chg.trans (.kp k), fun x h => (st.slt x h).keeps k.keep, st.yn, st.xn, st.fa, st.ge, fun b o e => k.keep _ _ (st.base b o e), k.same st.same, st.cel, (fun a y => let ⟨vs, n, e⟩ := st.yl a y; ⟨vs, n, k.keep _ _ e⟩),
    fun x a ds e => let ⟨h1, h2, vs, n, h3, h4⟩ := st.own x a ds e; ⟨h1.keeps k.keep, h2, vs, n, k.keep _ _ h3, h4.keeps k.keep⟩, st.vars.keeps k.keep⟩
/-- forget, and tell anew -/
theorem St.weaken {ρ' : List (Str × PyData)} (st : St K A env X₀ s₀ Y sr ω ρ s) (h : ∀ p ∈ ρ', ρ.lookup p.1 = some p.2) : St K A env X₀ s₀ Y sr ω ρ' s :=
  ⟨st.ok, st.chg, st.slt, st.yn, st.xn, st.fa, st.ge, st.base, st.same, st.cel, st.yl, st.own, fun x d e => st.vars x d (h (x, d) (PySem.mem_of_lookup e))⟩
theorem St.ref (st : St K A env X₀ s₀ Y sr ω ρ s) : St K A env X₀ s₀ Y s ω ρ s := ⟨st.ok, .refl s, st.slt, st.yn, st.xn, st.fa, st.ge, st.base, st.same, st.cel, st.yl, st.own, st.vars⟩
theorem St.kp (st : St K A env X₀ s₀ Y sr ω ρ s) : Kp s₀ s := by
  obtain ⟨h, tk, rfl⟩ := st.same
  exact ⟨h, tk, rfl, st.base⟩
theorem St.var (st : St K A env X₀ s₀ Y sr ω ρ s) {x : Str} {d : PyData} (h : ρ.lookup x = some d) : Has env (Ow X₀ Y) s.heap x d := st.vars x d h
theorem Ev.var {x : Str} {pos : Pos} {d : PyData} (st : St K A env X₀ s₀ Y sr ω ρ s) (h : ρ.lookup x = some d) (hd : (x == ("__debug__" : Str)) = false := by decide) : Ev prog w A env (Ow X₀ Y) s (.Name x pos) d :=
  Ev.name st.ok (st.var h) hd

/-- after a store into x -/
theorem St.stored {x : Str} {v : Value} {d : PyData} {h' : Heap} {tk : Nat} {a : Addr} (st : St K A env X₀ s₀ Y sr ω ρ s) (hω : ∀ y a ds, ω = some (y, a, ds) → y ≠ x) (ha : At env x a) (hs : Heap.SameBut a s.heap h') (hna : NoSeq s.heap a) (hao : ∃ o, s.heap.get? a = some o)
    (hvx : Var env h' x v) (hvo : ∀ y u, y ≠ x → Var env s.heap y u → Var env h' y u) (hsl : ∀ y, Slt env s.heap y → Slt env h' y) (hr : Rp s.heap (Ow X₀ Y) v d) :
    St K A env X₀ s₀ Y sr ω ((x, d) :: ρ) { s with heap := h', toks := tk } where
  ok := ⟨st.ok.rm, st.ok.kf, st.ok.eg, st.ok.eb, st.ge.keeps fun b o e => (hs.2 b fun q => by rw [q, st.fa a ⟨x, ha⟩] at e; cases e).trans (st.base b o e), fun b hb => by
    obtain ⟨o, e⟩ := st.ok.xa b hb
    by_cases hba : b = a
    · subst hba
      exact ((hsl x (st.slt x ha.kind)).obj ha).1
    · exact ⟨o, (hs.2 b hba).trans e⟩⟩
  chg := st.chg.trans ⟨⟨h', tk, rfl⟩, fun b o e hf _ => (hs.2 b fun q => hf ⟨x, q ▸ ha⟩).trans e⟩
  slt := fun y h => hsl y (st.slt y h)
  yn := st.yn
  xn := st.xn
  fa := st.fa
  ge := st.ge
  base := fun b o e => (hs.2 b fun q => by rw [q, st.fa a ⟨x, ha⟩] at e; cases e).trans (st.base b o e)
  same := by obtain ⟨h, t, rfl⟩ := st.same; exact ⟨h', tk, rfl⟩
  cel := st.cel
  yl := fun b y => let ⟨vs, n, e⟩ := st.yl b y; ⟨vs, n, (hs.2 b fun q => hna _ (q ▸ e) _ _ rfl).trans e⟩
  own := fun y b ds e => by
    obtain ⟨h1, h2, vs, n, h3, h4⟩ := st.own y b ds e
    exact ⟨hvo y _ (hω y b ds e) h1, h2, vs, n, (hs.2 b fun q => hna _ (q ▸ h3) _ _ rfl).trans h3, h4.but hs hna⟩
  vars := fun y dy e => by
    rw [List.lookup_cons] at e
    cases hb : y == x with
    | true => rw [hb] at e; cases e; rw [beq_iff_eq.mp hb]; exact ⟨v, hvx, hr.but hs hna⟩
    | false =>
      rw [hb] at e
      obtain ⟨u, hu, hru⟩ := st.vars y dy e
      exact ⟨u, hvo y u (fun q => by rw [q] at hb; simp at hb) hu, hru.but hs hna⟩

/-- after the loop's own object has turned -/
theorem St.walked {h' : Heap} {tk : Nat} {wr : List Addr} (st : St K A env X₀ s₀ Y sr ω ρ s) (hk : ∀ b o, b ∉ wr → s.heap.get? b = some o → h'.get? b = some o) (hn : ∀ b ∈ wr, NoSeq s.heap b)
    (hf : ∀ b ∈ wr, ¬ Fa env b) (hx : ∀ b ∈ wr, ¬ Ow X₀ Y b) (h0 : ∀ b ∈ wr, s₀.heap.get? b = none) (hr : ∀ b ∈ wr, sr.heap.get? b = none) :
    St K A env X₀ s₀ Y sr ω ρ { s with heap := h', toks := tk } := by
  have base' : ∀ b o, s₀.heap.get? b = some o → h'.get? b = some o := fun b o e => hk b o (fun q => by rw [h0 b q] at e; cases e) (st.base b o e)
  have rp : ∀ {v d}, Rp s.heap (Ow X₀ Y) v d → Rp h' (Ow X₀ Y) v d := fun r => r.turn (W := fun b => b ∈ wr) (fun b o e hb => hk b o hb e) (fun b hb o ho => .inr (hn b hb o ho)) fun _ x => x
  have rpa : ∀ {vs ds}, RpAll s.heap (Ow X₀ Y) vs ds → RpAll h' (Ow X₀ Y) vs ds := fun r => r.turn (W := fun b => b ∈ wr) (fun b o e hb => hk b o hb e) (fun b hb o ho => .inr (hn b hb o ho)) fun _ x => x
  have sl : ∀ x, (env.kindOf x = some .local ∨ env.kindOf x = some .cell) → Slt env h' x := fun x hx => by
    rcases st.slt x hx with ⟨q, m, hn⟩ | ⟨q, c, b, ⟨v, o, ho, hd⟩, d⟩
    · exact .inl ⟨q, m, hn.at' fun o e => hk _ o (fun hw => hf _ hw ⟨x, .inl ⟨q, rfl⟩⟩) e⟩
    · exact .inr ⟨q, c, b, ⟨v, o, hk _ o (fun hw => hf _ hw ⟨x, .inr ⟨q, b⟩⟩) ho, hd⟩, d⟩
  have vr : ∀ {y v}, Var env s.heap y v → Var env h' y v := fun {y v} hv => by
    rcases hv with ⟨q, m, hn, e⟩ | ⟨q, c, b, o, ho, hd⟩
    · exact .inl ⟨q, m, hn.at' fun o e => hk _ o (fun hw => hf _ hw ⟨y, .inl ⟨q, rfl⟩⟩) e, e⟩
    · exact .inr ⟨q, c, b, o, hk _ o (fun hw => hf c hw ⟨y, .inr ⟨st.cel y c b, b⟩⟩) ho, hd⟩
  exact ⟨⟨st.ok.rm, st.ok.kf, st.ok.eg, st.ok.eb, st.ge.keeps base', fun b hb => let ⟨o, e⟩ := st.ok.xa b hb; ⟨o, hk b o (fun q => hx b q hb) e⟩⟩,
    ⟨let ⟨⟨h1, t1, e⟩, _⟩ := st.chg; ⟨h', tk, by rw [e]⟩, fun b o e a c => hk b o (fun q => by rw [hr b q] at e; cases e) (st.chg.2 b o e a c)⟩,
    sl, st.yn, st.xn, st.fa, st.ge, base', by obtain ⟨h, t, rfl⟩ := st.same; exact ⟨h', tk, rfl⟩, st.cel, (fun b y => let ⟨vs, n, e⟩ := st.yl b y; ⟨vs, n, hk b _ (fun q => hx b q (.inr y)) e⟩),
    fun y b ds e => let ⟨h1, h2, vs, n, h3, h4⟩ := st.own y b ds e; ⟨vr h1, h2, vs, n, hk b _ (fun q => hx b q (.inr h2)) h3, rpa h4⟩,
    fun y dy e => let ⟨u, hu, hru⟩ := st.vars y dy e; ⟨u, vr hu, rp hru⟩⟩

theorem run_store {x : Str} {v : Value} {d : PyData} {Q : Unit → Shared → Prop} {E} (st : St K A env X₀ s₀ Y sr ω ρ s) (hx : env.kindOf x = some .local ∨ env.kindOf x = some .cell) (hω : ∀ y a ds, ω = some (y, a, ds) → y ≠ x) (hr : Rp s.heap (Ow X₀ Y) v d)
    (hq : ∀ s', St K A env X₀ s₀ Y sr ω ((x, d) :: ρ) s' → Q () s') : wpAny (model prog w) A (storeName env x v) Q E s :=
  store_var st.ok.kf (st.slt x hx) fun h' tk a ha hs hna hao hvx hvo hsl => hq _ (st.stored hω ha hs hna hao hvx hvo hsl hr)

theorem run_assign {x : Str} {p' pos : Pos} {e : Expr} {d : PyData} {rest : List Stmt} {Q : Flow → Shared → Prop} {E} (st : St K A env X₀ s₀ Y sr ω ρ s) (he : Ev prog w A env (Ow X₀ Y) s e d) (hx : env.kindOf x = some .local ∨ env.kindOf x = some .cell)
    (hω : ∀ y a ds, ω = some (y, a, ds) → y ≠ x)
    (next : ∀ s', St K A env X₀ s₀ Y sr ω ((x, d) :: ρ) s' → wpAny (model prog w) A (execs rest env) Q E s') (hs : swapsWith e (some (.Name x p')) pos.line env = pure false := by rfl) :
    wpAny (model prog w) A (execs (.Assign [.Name x p'] e pos :: rest) env) Q E s :=
  wpAny_execs_cons (wpAny_Assign_Name (he s (.refl _) _ _ fun v s₁ k1 r1 => run_store (st.keeps k1) hx hω r1 fun s' st' => next s' st') hs)

theorem run_if {test : Expr} {body orelse rest : List Stmt} {pos : Pos} {b : Bool} {Q : Flow → Shared → Prop} {E} (st : St K A env X₀ s₀ Y sr ω ρ s) (ht : Tr prog w A env s test b)
    (next : ∀ s', St K A env X₀ s₀ Y sr ω ρ s' → wpAny (model prog w) A (execs (if b then body else orelse) env) (fun f s₁ => match f with | .next => wpAny (model prog w) A (execs rest env) Q E s₁ | f => Q f s₁) E s') :
    wpAny (model prog w) A (execs (.If test body orelse pos :: rest) env) Q E s :=
  wpAny_execs_cons (wpAny_If (ht s (.refl _) _ _ fun s₁ k1 => by
    have := next s₁ (st.keeps k1)
    cases b <;> exact this))

/-- an if whose ways meet -/
theorem run_ifm {test : Expr} {body orelse rest : List Stmt} {pos : Pos} {b : Bool} {Q : Flow → Shared → Prop} {E} (ρ' : List (Str × PyData)) (st : St K A env X₀ s₀ Y sr ω ρ s) (ht : Tr prog w A env s test b)
    (hb : ∀ s', St K A env X₀ s₀ Y sr ω ρ s' → ∀ E', wpAny (model prog w) A (execs (if b then body else orelse) env) (fun f s₁ => match f with | .next => St K A env X₀ s₀ Y sr ω ρ' s₁ | f => Q f s₁) E' s')
    (next : ∀ s', St K A env X₀ s₀ Y sr ω ρ' s' → wpAny (model prog w) A (execs rest env) Q E s') :
    wpAny (model prog w) A (execs (.If test body orelse pos :: rest) env) Q E s :=
  run_if st ht fun s' st' => wpAny_mono (hb s' st' _) (fun f s₁ h₁ => by cases f <;> first | exact next _ h₁ | exact h₁) fun _ _ e => e

theorem run_return {e : Expr} {d : PyData} {rest : List Stmt} {pos : Pos} {Q : Flow → Shared → Prop} {E} (st : St K A env X₀ s₀ Y sr ω ρ s) (he : Ev prog w A env (Ow X₀ Y) s e d)
    (hq : ∀ v s', St K A env X₀ s₀ Y sr ω ρ s' → Rp s'.heap (Ow X₀ Y) v d → Q (.ret v) s') : wpAny (model prog w) A (execs (.Return (some e) pos :: rest) env) Q E s :=
  wpAny_execs_cons (wpAny_Return_some (he s (.refl _) _ _ fun v s₁ k1 r1 => hq v s₁ (st.keeps k1) r1))
theorem run_nil {Q : Flow → Shared → Prop} {E} (hq : Q .next s) : wpAny (model prog w) A (execs [] env) Q E s := wpAny_execs_nil hq

theorem St.trans {s₁ : Shared} {ω' : Option (Str × Addr × List PyData)} {ρ' : List (Str × PyData)} (h : Chg env Y sr s₁) (st : St K A env X₀ s₀ Y s₁ ω' ρ' s) : St K A env X₀ s₀ Y sr ω' ρ' s :=
  ⟨st.ok, h.trans st.chg, st.slt, st.yn, st.xn, st.fa, st.ge, st.base, st.same, st.cel, st.yl, st.own, st.vars⟩

/-- a for over data; a turn may return -/
theorem run_for {x : Str} {px pos : Pos} {iter : Expr} {body rest : List Stmt} {ds : List PyData} {Q : Flow → Shared → Prop} {E} (st : St K A env X₀ s₀ Y sr ω ρ s) (hit : It prog w A env (Ow X₀ Y) s iter ds) (hx : env.kindOf x = some .local ∨ env.kindOf x = some .cell)
    (ωs : Nat → Option (Str × Addr × List PyData)) (ρs : Nat → List (Str × PyData)) (hω : ∀ i y a es, ωs i = some (y, a, es) → y ≠ x)
    (h0 : ωs 0 = ω ∧ ∀ p ∈ ρs 0, ρ.lookup p.1 = some p.2)
    (turn : ∀ i d s₁, ds[i]? = some d → St K A env X₀ s₀ Y s₁ (ωs i) ((x, d) :: ρs i) s₁ →
      ∀ E', wpAny (model prog w) A (execs body env) (fun f s₂ => match f with | .next => St K A env X₀ s₀ Y s₁ (ωs (i + 1)) (ρs (i + 1)) s₂ | .ret v => Q (.ret v) s₂ | _ => False) E' s₁)
    (next : ∀ s', St K A env X₀ s₀ Y sr (ωs ds.length) (ρs ds.length) s' → wpAny (model prog w) A (execs rest env) Q E s')
    (hs : ∀ x, foldedSetIterable iter env x = pure x := by intro _; rfl) : wpAny (model prog w) A (execs (.For (.Name x px) iter body [] pos :: rest) env) Q E s := by
  refine wpAny_execs_cons (wpAny_For (hit s (.refl _) _ _ fun I fp wr P St' s₂ k2 W hst hfp hwr hfp2 hP hns => ?_) hs)
  -- the loop's own objects lie off the frame's
  have faS : ∀ b, Fa env b → (∃ o, s.heap.get? b = some o) ∧ NoSeq s.heap b := fun b ⟨y, hy⟩ => (st.slt y hy.kind).obj hy
  have hfF : ∀ b ∈ fp, ¬ Fa env b ∧ ¬ Y b := fun b hb => by
    rcases hfp2 b hb with q | ⟨q, vs, n, hl⟩
    · refine ⟨fun f => ?_, fun y => ?_⟩
      · obtain ⟨⟨o, e⟩, _⟩ := faS b f; rw [q] at e; cases e
      · obtain ⟨o, e⟩ := st.ok.xa b (.inr y); rw [q] at e; cases e
    · exact ⟨fun f => (faS b f).2 _ hl _ _ rfl, fun y => q (.inr y)⟩
  have hwF : ∀ b ∈ wr, ¬ Fa env b := fun b hb => (hfF b (W.sub _ hb)).1
  have hwX : ∀ b ∈ wr, ¬ Ow X₀ Y b := fun b hb x => by
    obtain ⟨o, e⟩ := st.ok.xa b x; rw [hwr b hb] at e; cases e
  have hw0 : ∀ b ∈ wr, s₀.heap.get? b = none := fun b hb => by
    cases e : s₀.heap.get? b with
    | none => rfl
    | some o => have := st.base _ _ e; rw [hwr b hb] at this; cases this
  have hwR : ∀ b ∈ wr, sr.heap.get? b = none := fun b hb => by
    cases e : sr.heap.get? b with
    | none => rfl
    | some o => have := st.chg.2 _ _ e (hwF b hb) (fun y => hwX b hb (.inr y)); rw [hwr b hb] at this; cases this
  obtain ⟨e0, h0⟩ := h0
  subst e0
  have stA : St K A env X₀ s₀ Y sr (ωs 0) (ρs 0) s₂ := (st.keeps k2).weaken h0
  refine codeAny_forLoop (fun k s' => ∃ i, i ≤ ds.length ∧ k = ds.length + 1 - i ∧ St' i s'.heap ∧ St K A env X₀ s₀ Y sr (ωs i) (ρs i) s' ∧ (∀ b o, s₂.heap.get? b = some o → b ∉ wr → ¬ Fa env b → ¬ Y b → s'.heap.get? b = some o)) ?_ (ds.length + 1)
    ⟨0, Nat.zero_le _, rfl, hst, stA, fun _ _ e _ _ _ => e⟩
  rintro k s' ⟨i, hi, rfl, hsti, sti, hk⟩
  have hnw : ∀ b ∈ wr, NoSeq s'.heap b := fun b hb o ho => hns i _ hsti b hb o ho
  by_cases hlt : i < ds.length
  · refine W.item i s' _ _ hlt hsti fun v h₁ tk₁ hPv hst₁ hk₁ => ?_
    obtain ⟨d, hd, hr⟩ := hP i v hPv
    have st₁ : St K A env X₀ s₀ Y sr (ωs i) (ρs i) { s' with heap := h₁, toks := tk₁ } := sti.walked hk₁ hnw hwF hwX hw0 hwR
    have hk2 : ∀ b o, s₂.heap.get? b = some o → b ∉ wr → ¬ Fa env b → ¬ Y b → h₁.get? b = some o := fun b o e a c f => hk₁ b o a (hk b o e a c f)
    have hr₁ : Rp h₁ (Ow X₀ Y) v d := hr.turn (W := fun b => b ∈ wr ∨ Fa env b ∨ Y b) (fun b o e hb => hk2 b o e (fun q => hb (.inl q)) (fun q => hb (.inr (.inl q))) fun q => hb (.inr (.inr q)))
      (fun b hb o ho => by
        rcases hb with hb | hb | hb
        · exact .inr (hns 0 _ hst b hb o ho)
        · obtain ⟨y, hy⟩ := hb
          exact .inr (((stA.slt y hy.kind).obj hy).2 o ho)
        · obtain ⟨vs, n, e⟩ := stA.yl b hb
          rw [e] at ho; cases ho
          exact .inl ⟨rfl, .inr hb⟩) fun _ x => x
    refine wpAny_assign_Name (run_store st₁.ref hx (hω i) hr₁ fun s₃ st₃ => ?_)
    refine wpAny_mono (turn i d s₃ hd st₃.ref _) (fun f s₄ h₄ => ?_) fun _ _ e => e
    cases f with
    | next =>
      have c1 : Chg env Y { s' with heap := h₁, toks := tk₁ } s₄ := st₃.chg.trans h₄.chg
      refine ⟨ds.length + 1 - (i + 1), by omega, i + 1, hlt, rfl, W.frame _ _ _ hst₁ fun b hb o e => c1.2 b o e (hfF b hb).1 (hfF b hb).2, St.trans (st₁.chg.trans st₃.chg) h₄, fun b o e a c f => c1.2 b o (hk2 b o e a c f) c f⟩
    | ret v => exact h₄
    | brk => exact h₄.elim
    | cont => exact h₄.elim
  · have hin : i = ds.length := by omega
    subst hin
    refine W.done s' _ _ hsti fun h₁ tk₁ hk₁ => wpAny_execs_nil ?_
    exact next _ (sti.walked hk₁ hnw hwF hwX hw0 hwR)
end
end Mine
end

section
namespace Mine

def noY : Addr → Prop := fun _ => False
def addY (Y : Addr → Prop) (a : Addr) : Addr → Prop := fun b => Y b ∨ b = a

section
variable {prog : Program} {w : World} {K : Frag} {A : Around} {env : Env} {X₀ Y : Addr → Prop} {s₀ sr s : Shared} {ω : Option (Str × Addr × List PyData)} {ρ : List (Str × PyData)}

theorem kind_of {sc : Scope} {x : Str} {k : NameKind} (h : env.scope = sc) (hl : sc.names.lookup x = some k) : env.kindOf x = some k := by unfold Env.kindOf; rw [h]; exact hl

/-- a list that is new becomes the frame's own -/
theorem run_own {x : Str} {p' pos : Pos} {e : Expr} {ds : List PyData} {rest : List Stmt} {Q : Flow → Shared → Prop} {E} (st : St K A env X₀ s₀ Y sr none ρ s) (he : EvNew prog w A env (Ow X₀ Y) s e ds) (hx : env.kindOf x = some .local ∨ env.kindOf x = some .cell)
    (hρ : ρ.lookup x = none)
    (next : ∀ a s', ¬ Y a → sr.heap.get? a = none → St K A env X₀ s₀ (addY Y a) sr (some (x, a, ds)) ρ s' → wpAny (model prog w) A (execs rest env) Q E s') (hs : swapsWith e (some (.Name x p')) pos.line env = pure false := by rfl) :
    wpAny (model prog w) A (execs (.Assign [.Name x p'] e pos :: rest) env) Q E s := by
  refine wpAny_execs_cons (wpAny_Assign_Name (he s (.refl _) _ _ fun a vs n s₁ k1 ha hl hr => ?_) hs)
  have nY : ¬ Y a := fun y => by obtain ⟨o, e⟩ := st.ok.xa a (.inr y); rw [ha] at e; cases e
  have nX : ¬ X₀ a := fun y => by obtain ⟨o, e⟩ := st.ok.xa a (.inl y); rw [ha] at e; cases e
  have nF : ¬ Fa env a := fun ⟨y, hy⟩ => by obtain ⟨⟨o, e⟩, _⟩ := (st.slt y hy.kind).obj hy; rw [ha] at e; cases e
  have hsr : sr.heap.get? a = none := by
    cases e : sr.heap.get? a with
    | none => rfl
    | some o => have := st.chg.2 _ _ e nF nY; rw [ha] at this; cases this
  have h0 : s₀.heap.get? a = none := by
    cases e : s₀.heap.get? a with
    | none => rfl
    | some o => have := st.base _ _ e; rw [ha] at this; cases this
  have hw : ∀ b, Ow X₀ (addY Y a) b → Ow X₀ Y b ∨ s.heap.get? b = none := fun b hb => by
    rcases hb with q | q | rfl
    · exact .inl (.inl q)
    · exact .inl (.inr q)
    · exact .inr ha
  have hr' : RpAll s₁.heap (Ow X₀ (addY Y a)) vs.toList ds := hr.less fun b hb => by
    rcases hb with q | q | rfl
    · exact .inl (.inl q)
    · exact .inl (.inr q)
    · exact .inr rfl
  have st₁ : St K A env X₀ s₀ (addY Y a) sr none ρ s₁ := by
    refine ⟨⟨st.ok.rm, st.ok.kf, st.ok.eg, st.ok.eb, st.ok.ge.keeps k1.keep, fun b hb => ?_⟩, (st.chg.trans (.kp k1)).more fun b y => .inl y, fun y h => (st.slt y h).keeps k1.keep, fun b hb => ?_, st.xn, st.fa, st.ge,
      fun b o e => k1.keep _ _ (st.base b o e), k1.same st.same, st.cel, fun b hb => ?_, (fun _ _ _ e => by cases e), fun y dy e => ((st.vars y dy e).more hw).keeps k1.keep⟩
    · rcases hb with q | q | rfl
      · obtain ⟨o, e⟩ := st.ok.xa b (.inl q); exact ⟨o, k1.keep _ _ e⟩
      · obtain ⟨o, e⟩ := st.ok.xa b (.inr q); exact ⟨o, k1.keep _ _ e⟩
      · exact ⟨_, hl⟩
    · rcases hb with q | rfl
      · exact st.yn b q
      · exact h0
    · rcases hb with q | rfl
      · obtain ⟨vs', n', e⟩ := st.yl b q; exact ⟨vs', n', k1.keep _ _ e⟩
      · exact ⟨vs, n, hl⟩
  refine store_var st₁.ok.kf (st₁.slt x hx) fun h' tk c hc hsb hna hao hvx hvo hsl => next a _ nY hsr ?_
  have hca : a ≠ c := fun q => nF ⟨x, q ▸ hc⟩
  have := st₁.stored (d := .none) (v := .none) (x := x) (tk := tk) ((fun _ _ _ e => by cases e)) hc hsb hna hao
  refine ⟨⟨st.ok.rm, st.ok.kf, st.ok.eg, st.ok.eb, st.ge.keeps fun b o e => (hsb.2 b fun q => by rw [q, st.fa c ⟨x, hc⟩] at e; cases e).trans (st₁.base b o e), fun b hb => ?_⟩,
    st₁.chg.trans ⟨⟨h', tk, rfl⟩, fun b o e hf _ => (hsb.2 b fun q => hf ⟨x, q ▸ hc⟩).trans e⟩, fun y h => hsl y (st₁.slt y h), st₁.yn, st₁.xn, st.fa, st.ge,
    fun b o e => (hsb.2 b fun q => by rw [q, st.fa c ⟨x, hc⟩] at e; cases e).trans (st₁.base b o e), ?_, st.cel, fun b y => ?_, fun y b es e => ?_, fun y dy e => ?_⟩
  · obtain ⟨o, e⟩ := st₁.ok.xa b hb
    by_cases hbc : b = c
    · subst hbc; exact ((hsl x (st₁.slt x hc.kind)).obj hc).1
    · exact ⟨o, (hsb.2 b hbc).trans e⟩
  · obtain ⟨h1, t1, rfl⟩ := st₁.same; exact ⟨h', tk, rfl⟩
  · obtain ⟨vs', n', e⟩ := st₁.yl b y; exact ⟨vs', n', (hsb.2 b fun q => hna _ (q ▸ e) _ _ rfl).trans e⟩
  · cases e
    exact ⟨hvx, .inr rfl, vs, n, (hsb.2 _ hca).trans hl, hr'.but hsb hna⟩
  · obtain ⟨u, hu, hru⟩ := st₁.vars y dy e
    exact ⟨u, hvo y u (fun q => by rw [q, hρ] at e; cases e) hu, hru.but hsb hna⟩

/-- an append to the frame's own list -/
theorem run_append {x : Str} {p apos pos epos : Pos} {e : Expr} {a : Addr} {ds : List PyData} {d : PyData} {rest : List Stmt} {Q : Flow → Shared → Prop} {E} (st : St K A env X₀ s₀ Y sr (some (x, a, ds)) ρ s) (he : Ev prog w A env (Ow X₀ Y) s e d)
    (hsz : ds.length ≤ sizeLine) (next : ∀ s', St K A env X₀ s₀ Y sr (some (x, a, ds ++ [d])) ρ s' → wpAny (model prog w) A (execs rest env) Q E s')
    (hd : (x == ("__debug__" : Str)) = false := by decide)
    (hbase : attributeBase (.Name x p) "append" env (eval (.Name x p) env) = eval (.Name x p) env := by rfl)
    (hfew : ((backTo pos (starEach [e] env)).all (fun x => !x.1) && (backToKw pos (keywordEach [] env)).all (fun x => x.1.isSome)
      && decide (([e] : List Expr).length + ([] : List Keyword).length + (if ([] : List Keyword).isEmpty then 0 else 1) < 30)) = true := by rfl)
    (hline : (apos.endLine == pos.line) = true := by rfl) (htrees : backTo pos (starEach [e] env) = [(false, eval e env)] := by rfl) :
    wpAny (model prog w) A (execs (.Expr (.Call (.Attribute (.Name x p) "append" apos) [e] [] pos) epos :: rest) env) Q E s := by
  obtain ⟨hv, hY, vs, n, hl, hr⟩ := st.own x a ds rfl
  have hlen : vs.size = ds.length := by rw [← hr.length]; simp
  refine wpAny_execs_cons (wpAny_Expr (wpAny_Call_append hbase hfew hline htrees (wpAny_Name (load_var st.ok.kf hv ⟨a, vs, rfl, ⟨_, n, hl, rfl, rfl, rfl⟩, ?_⟩) hd)) (by unfold interactive; rw [st.ok.kf]; rfl) rfl)
  refine he s (.refl _) _ _ fun v s₁ k1 r1 => ?_
  have st₁ := st.keeps k1
  have hl₁ : IsL s₁.heap a vs n := k1.keep _ _ hl
  refine wpAny_list_append_plain (hsz := by rw [hlen]; exact hsz) ⟨n, hl₁⟩ fun h' hl' hs' => ?_
  obtain ⟨n', hl'⟩ := hl'
  have nF : ¬ Fa env a := fun ⟨y, hy⟩ => ((st₁.slt y hy.kind).obj hy).2 _ hl₁ _ _ rfl
  have h0 := st.yn a hY
  have rp : ∀ {v d}, Rp s₁.heap (Ow X₀ Y) v d → Rp h' (Ow X₀ Y) v d := fun r => r.turn (W := fun b => b = a) (fun b o e hb => (hs'.2 b hb).trans e) (fun b hb o ho => .inl (by subst hb; rw [hl₁] at ho; cases ho; exact ⟨rfl, .inr hY⟩)) fun _ x => x
  have rpa : ∀ {v d}, RpAll s₁.heap (Ow X₀ Y) v d → RpAll h' (Ow X₀ Y) v d := fun r => r.turn (W := fun b => b = a) (fun b o e hb => (hs'.2 b hb).trans e) (fun b hb o ho => .inl (by subst hb; rw [hl₁] at ho; cases ho; exact ⟨rfl, .inr hY⟩)) fun _ x => x
  have vr : ∀ {y v}, Var env s₁.heap y v → Var env h' y v := fun {y v} hv => by
    rcases hv with ⟨q, m, hn, e⟩ | ⟨q, c, b, hc⟩
    · exact .inl ⟨q, m, hn.sameBut hs' (fun e => nF ⟨y, .inl ⟨q, e.symm⟩⟩), e⟩
    · exact .inr ⟨q, c, b, hc.sameBut hs' (fun e => nF ⟨y, .inr ⟨st.cel y c b, e ▸ b⟩⟩)⟩
  have base' : ∀ b o, s₀.heap.get? b = some o → h'.get? b = some o := fun b o e => (hs'.2 b fun q => by rw [q, h0] at e; cases e).trans (st₁.base b o e)
  refine next _ ⟨⟨st.ok.rm, st.ok.kf, st.ok.eg, st.ok.eb, st.ge.keeps base', fun b hb => ?_⟩, st₁.chg.trans ⟨⟨h', _, rfl⟩, fun b o e _ hy => (hs'.2 b fun q => hy (q ▸ hY)).trans e⟩, fun y h => ?_, st.yn, st.xn, st.fa, st.ge, base', ?_, st.cel, fun b y => ?_, fun y b es e => ?_, fun y dy e => ?_⟩
  · by_cases hba : b = a
    · subst hba; exact ⟨_, hl'⟩
    · obtain ⟨o, e⟩ := st₁.ok.xa b hb; exact ⟨o, (hs'.2 b hba).trans e⟩
  · rcases st₁.slt y h with ⟨q, m, hn⟩ | ⟨q, c, b, ⟨v0, hc⟩, ap⟩
    · exact .inl ⟨q, m, hn.sameBut hs' (fun e => nF ⟨y, .inl ⟨q, e.symm⟩⟩)⟩
    · exact .inr ⟨q, c, b, ⟨v0, hc.sameBut hs' (fun e => nF ⟨y, .inr ⟨q, e ▸ b⟩⟩)⟩, ap⟩
  · obtain ⟨h1, t1, rfl⟩ := st₁.same; exact ⟨h', _, rfl⟩
  · by_cases hba : b = a
    · subst hba; exact ⟨_, _, hl'⟩
    · obtain ⟨vs', m', e⟩ := st₁.yl b y; exact ⟨vs', m', (hs'.2 b hba).trans e⟩
  · cases e
    refine ⟨vr (hv.keeps k1.keep), hY, vs.push v, n', hl', ?_⟩
    have := (rpa (hr.keeps k1.keep)).append (rpa (.cons r1 .nil))
    simpa using this
  · obtain ⟨u, hu, hru⟩ := st₁.vars y dy e
    exact ⟨u, vr hu, rp hru⟩

/-- the own list becomes data -/
theorem St.freeze {x : Str} {a : Addr} {ds : List PyData} {Y' : Addr → Prop} (st : St K A env X₀ s₀ Y sr (some (x, a, ds)) ρ s) (hsr : sr.heap.get? a = none) (h1 : ∀ b, Y' b → Y b ∧ b ≠ a) (h2 : ∀ b, Y b → Y' b ∨ b = a) :
    St K A env X₀ s₀ Y' sr none ((x, .list ds) :: ρ) s := by
  obtain ⟨hv, hY, vs, n, hl, hr⟩ := st.own x a ds rfl
  have less : ∀ b, Ow X₀ Y' b → Ow X₀ Y b := fun b hb => hb.imp id fun y => (h1 b y).1
  refine ⟨⟨st.ok.rm, st.ok.kf, st.ok.eg, st.ok.eb, st.ok.ge, fun b hb => st.ok.xa b (less b hb)⟩, ⟨st.chg.1, fun b o e hf hy => st.chg.2 b o e hf fun y => ?_⟩, st.slt, fun b y => st.yn b (h1 b y).1, st.xn, st.fa, st.ge, st.base, st.same, st.cel,
    fun b y => st.yl b (h1 b y).1, (fun _ _ _ e => by cases e), fun y dy e => ?_⟩
  · rcases h2 b y with q | rfl
    · exact hy q
    · rw [hsr] at e; cases e
  · rw [List.lookup_cons] at e
    cases hb : y == x with
    | true =>
      rw [hb] at e; cases e
      rw [beq_iff_eq.mp hb]
      refine ⟨_, hv, .list hl (fun q => ?_) (hr.less less)⟩
      rcases q with q | q
      · obtain ⟨o, e⟩ := st.xn a q; rw [st.yn a hY] at e; cases e
      · exact (h1 a q).2 rfl
    | false =>
      rw [hb] at e
      obtain ⟨u, hu, hru⟩ := st.vars y dy e
      exact ⟨u, hu, hru.less less⟩
theorem St.freeze1 {x : Str} {a : Addr} {ds : List PyData} (st : St K A env X₀ s₀ (addY Y a) sr (some (x, a, ds)) ρ s) (hsr : sr.heap.get? a = none) (nY : ¬ Y a) : St K A env X₀ s₀ Y sr none ((x, .list ds) :: ρ) s :=
  st.freeze hsr (fun b y => ⟨.inl y, fun q => nY (q ▸ y)⟩) fun b y => y

/-! a call of a def of the text -/
theorem var_of_binds : ∀ (binds : List (Str × Value)) (m cm : Str → Option Value) {x : Str} {v : Value}, (binds.map (·.1)).Nodup → (x, v) ∈ binds →
    (env.kindOf x = some .local → bindL env.kindOf binds m x = some v) ∧ (env.kindOf x ≠ some .local → bindC env.kindOf binds cm x = some v) := by
  have keepL : ∀ (binds : List (Str × Value)) (m : Str → Option Value) (x : Str), x ∉ binds.map (·.1) → bindL env.kindOf binds m x = m x := by
    intro binds
    induction binds with
    | nil => intro m x _; rfl
    | cons p r ih =>
      intro m x hx
      obtain ⟨n, v⟩ := p
      simp only [List.map_cons, List.mem_cons, not_or] at hx
      unfold bindL
      rw [ih _ _ hx.2]
      split
      · simp [hx.1]
      · rfl
  have keepC : ∀ (binds : List (Str × Value)) (m : Str → Option Value) (x : Str), x ∉ binds.map (·.1) → bindC env.kindOf binds m x = m x := by
    intro binds
    induction binds with
    | nil => intro m x _; rfl
    | cons p r ih =>
      intro m x hx
      obtain ⟨n, v⟩ := p
      simp only [List.map_cons, List.mem_cons, not_or] at hx
      unfold bindC
      rw [ih _ _ hx.2]
      split
      · rfl
      · simp [hx.1]
  intro binds
  induction binds with
  | nil => intro m cm x v _ h; cases h
  | cons p r ih =>
    intro m cm x v hn h
    obtain ⟨n, u⟩ := p
    simp only [List.map_cons, List.nodup_cons] at hn
    rcases List.mem_cons.mp h with e | h
    · cases e
      refine ⟨fun hk => ?_, fun hk => ?_⟩
      · unfold bindL; rw [keepL _ _ _ hn.1, if_pos hk]; simp
      · unfold bindC; rw [keepC _ _ _ hn.1, if_neg hk]; simp
    · obtain ⟨i1, i2⟩ := ih (if env.kindOf n = some .local then fun y => if y = n then some u else m y else m) (if env.kindOf n = some .local then cm else fun y => if y = n then some u else cm y) hn.2 h
      refine ⟨fun hk => ?_, fun hk => ?_⟩
      · unfold bindL; exact i1 hk
      · unfold bindC; exact i2 hk

theorem fn_of {f : Addr} {o : Obj} {fd : FuncData} {body : List Stmt} {ps : List Str} {k : Nat} {ds : List PyData} {d : PyData} {sc : Scope}
    (ho : K.lookup f = some o) (hfd : o.data = .func fd) (hbody : fd.body = .stmts body) (hcode : codeIn K fd.code fd.qualname = true) (hclo : fd.closure = []) (hg : fd.globals = mainGlobals) (hb : fd.builtins = builtinsNs)
    (hsc : fd.scope = sc) (hk1 : 1 ≤ k) (hk : sc.kind = .function) (hco : sc.isCoroutine = false) (hgen : sc.isGenerator = false)
    (hbind : ∀ vs, vs.length = ps.length → bindArgs fd ⟨vs, []⟩ = pure (ps.zip vs)) (hps : ps.Nodup) (hlen : ps.length = ds.length)
    (hpk : ∀ x ∈ ps, sc.names.lookup x = some .local ∨ sc.names.lookup x = some .cell) (hcn : ∀ x ∈ sc.names, x.2 = .cell → sc.names.lookup x.1 = some .cell)
    (h : ∀ A env X₀ s₀ s, env.scope = sc → Room A k → St K A env X₀ s₀ noY s none (ps.zip ds) s → ∀ E, wpAny (model prog w) A (execs body env) (fun fl s' => ∃ v, fl = .ret v ∧ Kp s₀ s' ∧ Rp s'.heap X₀ v d) E s) :
    Fn prog w K (.ref f) (k + 1) ds d := by
  intro A X s vs hA hge hxa hr Q E hq
  have hvl : vs.length = ps.length := by rw [hr.length, hlen]
  have hkind : ∀ x ∈ ps.zip vs, fd.scope.names.lookup x.1 = some .local ∨ (fd.scope.names.lookup x.1 = some .cell ∧ ((cellsFrom (s.heap.objs.size + 1) fd.scope.names []).lookup x.1).isSome = true) := fun x hx => by
    rcases hpk x.1 (List.of_mem_zip hx).1 with q | q
    · exact .inl (hsc ▸ q)
    · exact .inr ⟨hsc ▸ q, cellsFrom_some _ _ _ (.inl (hsc ▸ q))⟩
  refine wpAny_call (codeAny_call_cells (fd := fd) (by have := hA.2.2; omega) (hge.inK _ _ ho) hfd hge.lim (codeRec_of hge.inK hcode) hbody (hbind vs hvl) hclo hkind (fun s₁ x => ?_) (hsc ▸ hco) (hsc ▸ hgen) (hsc ▸ hk))
  generalize henv : callEnvC fd s.heap.objs.size f = env at x ⊢
  have hes : env.scope = sc := by rw [← henv]; exact hsc
  have hel : env.locals = s.heap.objs.size := by rw [← henv]; rfl
  have hec : env.cells = cellsFrom (s.heap.objs.size + 1) sc.names [] := by rw [← henv, ← hsc]; rfl
  have hcel : ∀ y c, env.cells.lookup y = some c → env.kindOf y = some .cell := fun y c e => by
    rw [hec] at e
    rcases cellsFrom_names _ _ [] (fun _ _ _ => .inr trivial) y c (PySem.mem_of_lookup e) with q | q
    · exact kind_of hes (hcn _ q rfl)
    · cases q
  have hfa : ∀ a, Fa env a → s.heap.get? a = none := by
    rintro a ⟨y, ⟨_, rfl⟩ | ⟨_, q⟩⟩
    · cases e : s.heap.get? env.locals with
      | none => rfl
      | some o' => exact absurd (Heap.lt_size e) (by rw [hel]; exact Nat.lt_irrefl _)
    · have := x.above y a (PySem.mem_of_lookup q)
      cases e : s.heap.get? a with
      | none => rfl
      | some o' =>
        have h1 := Heap.lt_size e
        rw [hel] at this
        exact absurd (Nat.lt_trans h1 this) (Nat.lt_irrefl _)
  have hst : St K (A.deeper env) env X s noY s₁ none (ps.zip ds) s₁ := by
    obtain ⟨h₁, tk, rfl⟩ := x.toInCall.same
    have keep := x.toInCall.keep
    have rm : Room (A.deeper env) k := hA.deeper
    refine ⟨⟨?_, by rw [hes]; exact hk, by rw [← henv]; exact hg, by rw [← henv]; exact hb, hge.keeps keep, fun a ha => ?_⟩, .refl _, fun y hy => ?_, fun _ y => y.elim, hxa, hfa, hge, keep, ⟨h₁, tk, rfl⟩, hcel, fun _ y => y.elim, (fun _ _ _ e => by cases e), fun y dy e => ?_⟩
    · exact rm.less hk1
    · rcases ha with q | q
      · obtain ⟨o', e⟩ := hxa a q; exact ⟨o', keep _ _ e⟩
      · exact q.elim
    · rcases hy with q | q
      · exact .inl ⟨q, _, x.toInCall.ns⟩
      · have : (env.cells.lookup y).isSome = true := by
          rw [hec]; exact cellsFrom_some _ _ _ (.inl (by rw [← hes]; exact q))
        obtain ⟨c, hc⟩ := Option.isSome_iff_exists.mp this
        refine .inr ⟨q, c, hc, ⟨_, x.cell y c hc⟩, fun z c' hz hl e => hz ?_⟩
        subst e
        exact name_of_addr x.apart (PySem.mem_of_lookup hl) (PySem.mem_of_lookup hc)
    · obtain ⟨v, hv, hrv⟩ : ∃ v, (y, v) ∈ ps.zip vs ∧ Rp s.heap X v dy := by
        have key : ∀ (ps : List Str) (vs : List Value) (ds : List PyData), RpAll s.heap X vs ds → (ps.zip ds).lookup y = some dy → ∃ v, (y, v) ∈ ps.zip vs ∧ Rp s.heap X v dy := by
          intro ps
          induction ps with
          | nil => intro vs ds _ e; simp at e
          | cons p r ih =>
            intro vs ds hr e
            cases hr with
            | nil => simp at e
            | cons r0 r1 =>
              rw [List.zip_cons_cons, List.lookup_cons] at e
              cases hb : y == p with
              | true => rw [hb] at e; cases e; rw [beq_iff_eq.mp hb]; exact ⟨_, List.mem_cons_self, r0⟩
              | false =>
                rw [hb] at e
                obtain ⟨v, h1, h2⟩ := ih _ _ r1 e
                exact ⟨v, List.mem_cons_of_mem _ h1, h2⟩
        exact key ps vs ds hr e
      have hnd : ((ps.zip vs).map (·.1)).Nodup := by
        rw [List.map_fst_zip (by omega)]; exact hps
      obtain ⟨b1, b2⟩ := var_of_binds (env := env) (ps.zip vs) (fun _ => none) (fun _ => none) hnd hv
      have hyp : y ∈ ps := (List.of_mem_zip hv).1
      refine ⟨v, ?_, (hrv.less fun a q => q.elim id fun z => z.elim).keeps keep⟩
      rcases hpk y hyp with q | q
      · have q' := kind_of (env := env) hes q
        exact .inl ⟨q', _, x.toInCall.ns, b1 q'⟩
      · have q' := kind_of (env := env) hes q
        have : (env.cells.lookup y).isSome = true := by
          rw [hec]; exact cellsFrom_some _ _ _ (.inl q)
        obtain ⟨c, hc⟩ := Option.isSome_iff_exists.mp this
        refine .inr ⟨.inl q', c, hc, ?_⟩
        have := x.cell y c hc
        rw [b2 (by rw [q']; decide)] at this
        exact this
  have := h (A.deeper env) env X s s₁ hes hA.deeper hst (fun e s' => wpAny (model prog w) (A.deeper env) (leaving env e) (fun _ s'' => E e s'') (fun e' s'' => E e' s'') s')
  refine wpAny_mono this (fun fl s' hf => ?_) fun _ _ e => e
  obtain ⟨v, rfl, k1, r1⟩ := hf
  exact hq v s' k1 r1
end
end Mine
end

section
namespace Mine

section
variable {prog : Program} {w : World} {K : Frag} {A : Around} {env : Env} {X₀ Y : Addr → Prop} {s₀ sr s : Shared} {ω : Option (Str × Addr × List PyData)} {ρ : List (Str × PyData)} {X : Addr → Prop}

theorem swaps_local {elt : Expr} {gens : List Comprehension} {scope : Scope} {pos p : Pos} {t : Str} {line : Nat} (hk : env.scope.kind = .function) (ht : env.kindOf t = some .local) (hl : (p.line == pos.line) = true)
    (hn : (scope.names.any fun (n, k) => n == t && (k == .local || k == .cell)) = false) : swapsWith (.ListComp elt gens scope pos) (some (.Name t p)) line env = pure true := by
  unfold swapsWith
  dsimp only
  have : env.blockKind = .function := by unfold Env.blockKind; rw [hk]; rfl
  show (pure (env.blockKind == .function && env.kindOf t == some .local && p.line == pos.line && !(scope.names.any fun (n, k) => n == t && (k == .local || k == .cell))) : Sem Bool) = _
  rw [this, ht, hl, hn]; rfl
theorem swaps_cell {elt : Expr} {gens : List Comprehension} {scope : Scope} {pos p : Pos} {t : Str} {line : Nat} (ht : env.kindOf t = some .cell) :
    swapsWith (.ListComp elt gens scope pos) (some (.Name t p)) line env = pure false := by
  unfold swapsWith
  dsimp only
  show (pure (env.blockKind == .function && env.kindOf t == some .local && p.line == pos.line && !(scope.names.any fun (n, k) => n == t && (k == .local || k == .cell))) : Sem Bool) = _
  rw [ht]
  have : (some NameKind.cell == some NameKind.local) = false := rfl
  rw [this]
  simp

/-- a comprehension that is stored into a local on its line -/
theorem comp_swap {elt iter : Expr} {x y : Str} {px py spos : Pos} {ifs : List Expr} {scope : Scope} {pos : Pos} {ds : List PyData} {p : PyData → Bool} {f : PyData → PyData} {caps : List (Str × PyData)} {Q : Flow → Shared → Prop} {E}
    (ok : Ok K A env X s) (hc : CompOk env scope x caps) (hv : Vars env X s.heap caps) (hit : It prog w A env X s iter ds) (hsz : ds.length ≤ sizeLine)
    (ht : ∀ d ∈ ds, Turns prog w K A scope ((x, d) :: caps) ifs elt (p d) (f d)) (hsw : swapsWith (.ListComp elt [⟨.Name x px, iter, ifs, 0⟩] scope pos) (some (.Name y py)) spos.line env = pure true) (hy : Slt env s.heap y)
    (hq : ∀ D C vs n s₂, Kp s s₂ → s.heap.get? D = none → s.heap.get? C = none → D ≠ C → IsL s₂.heap D vs n → RpAll s₂.heap (fun a => X a ∨ a = D) vs.toList ((ds.filter p).map f) → NoSeq s₂.heap C →
      ∀ h' tk a, At env y a → Heap.SameBut a s₂.heap h' → NoSeq s₂.heap a → (∃ o, s₂.heap.get? a = some o) → Var env h' y (.ref D) → (∀ z u, z ≠ y → Var env s₂.heap z u → Var env h' z u) → (∀ z, Slt env s₂.heap z → Slt env h' z) → NoSeq h' C →
        ∀ h'', Heap.SameBut C h' h'' → Q .next { s₂ with heap := h'', toks := tk })
    (hs : ∀ x, foldedSetIterable iter env x = pure x := by intro _; rfl) :
    wpAny (model prog w) A (exec (.Assign [.Name y py] (.ListComp elt [⟨.Name x px, iter, ifs, 0⟩] scope pos) spos) env) Q E s := by
  obtain ⟨cl, hcl⟩ := comp_close hc hv
  rw [exec_Assign_Name_used _ _ _ _ hsw]
  refine wpAny_bind (wpAny_standAt (wpAny_bind ?_))
  show wpAny _ A (do let _ ← comprehension (.ListComp elt [⟨.Name x px, iter, ifs, 0⟩] scope pos) scope env _ (newList []) false (eval iter env) (some (assign (.Name y py) env))) _ _ s
  refine wpAny_bind (wpAny_mono (wpAny_comprehension_free (use := some (assign (.Name y py) env)) (Q := fun _ s' => Q .next s') rfl hs (closureFor_of hcl) hc.kind hc.names
    (hit s (.refl _) _ _ fun I fp wr P St s₂ k2 W hst hfp hwr _ hP hns => ?_)) (fun _ s' hq => wpAny_pure (wpAny_pure hq)) fun _ _ e => e)
  refine comp_core (RR := fun acc C => compPost (model prog w) A E (some (assign (.Name y py) env)) (fun _ s' => Q .next s') acc C) ok hc hcl hv hsz k2 W hst hfp hwr hP hns ht ?_
  intro D C h' tk m ys n hD hC hDC hn hl hr hk
  have fr : ∀ b, s₂.heap.get? b = none → s.heap.get? b = none := fun b hb => by
    cases e : s.heap.get? b with
    | none => rfl
    | some o => rw [k2.keep _ _ e] at hb; cases hb
  have k3 : Kp s { s₂ with heap := h', toks := tk } := by
    obtain ⟨h2, t2, rfl, kk⟩ := k2
    exact ⟨h', tk, rfl, hk⟩
  show wpAny _ A (assign (.Name y py) env (.ref D)) _ _ _
  refine wpAny_assign_Name (store_var (s := { s₂ with heap := h', toks := tk }) ok.kf (hy.keeps hk) fun h₃ tk₃ a ha hs₃ hna hao hvx hvo hsl => ?_)
  have haC : C ≠ a := fun e => by
    obtain ⟨⟨o, ho⟩, _⟩ := hy.obj ha
    rw [← e, fr C hC] at ho; cases ho
  have hnC : h₃.Ns C m := hn.sameBut hs₃ haC
  exact ⟨m, hnC, fun h₄ hs₄ => hq D C ys n _ k3 (fr D hD) (fr C hC) hDC hl hr (noSeq_ns hn) h₃ tk₃ a ha hs₃ hna hao hvx hvo hsl (noSeq_ns hnC) h₄ hs₄⟩

theorem St.behind {D C : Addr} {h₃ h₄ : Heap} {tk : Nat} (st : St K A env X₀ s₀ Y sr ω ρ { s with heap := h₃, toks := tk }) (hs₄ : Heap.SameBut C h₃ h₄) (hnC : NoSeq h₃ C) (hF : ¬ Fa env C) (hX : ¬ Ow X₀ Y C) (h0 : s₀.heap.get? C = none) (hr : sr.heap.get? C = none) :
    St K A env X₀ s₀ Y sr ω ρ { s with heap := h₄, toks := tk } :=
  St.walked (s := { s with heap := h₃, toks := tk }) (wr := [C]) st (fun b o hb e => (hs₄.2 b fun q => hb (by rw [q]; exact List.mem_cons_self)).trans e) (fun b hb => by rw [List.mem_singleton.mp hb]; exact hnC) (fun b hb => by rw [List.mem_singleton.mp hb]; exact hF)
    (fun b hb => by rw [List.mem_singleton.mp hb]; exact hX) (fun b hb => by rw [List.mem_singleton.mp hb]; exact h0) (fun b hb => by rw [List.mem_singleton.mp hb]; exact hr)

theorem St.newOff {C : Addr} (st : St K A env X₀ s₀ Y sr ω ρ s) (hC : s.heap.get? C = none) : ¬ Fa env C ∧ ¬ Ow X₀ Y C ∧ s₀.heap.get? C = none ∧ sr.heap.get? C = none := by
  have nF : ¬ Fa env C := fun ⟨y, hy⟩ => by obtain ⟨⟨o, e⟩, _⟩ := (st.slt y hy.kind).obj hy; rw [hC] at e; cases e
  have nX : ¬ Ow X₀ Y C := fun x => by obtain ⟨o, e⟩ := st.ok.xa C x; rw [hC] at e; cases e
  refine ⟨nF, nX, ?_, ?_⟩
  · cases e : s₀.heap.get? C with
    | none => rfl
    | some o => have := st.base _ _ e; rw [hC] at this; cases this
  · cases e : sr.heap.get? C with
    | none => rfl
    | some o => have := st.chg.2 _ _ e nF (fun y => nX (.inr y)); rw [hC] at this; cases this

theorem run_comp {elt iter : Expr} {x y : Str} {px py spos : Pos} {ifs : List Expr} {scope : Scope} {pos : Pos} {ds : List PyData} {p : PyData → Bool} {f : PyData → PyData} (caps : List (Str × PyData)) {rest : List Stmt} {Q : Flow → Shared → Prop} {E}
    (st : St K A env X₀ s₀ Y sr ω ρ s) (hc : CompOk env scope x caps) (hv : ∀ q ∈ caps, ρ.lookup q.1 = some q.2) (hit : It prog w A env (Ow X₀ Y) s iter ds) (hsz : ds.length ≤ sizeLine)
    (ht : ∀ d ∈ ds, Turns prog w K A scope ((x, d) :: caps) ifs elt (p d) (f d)) (hy : env.kindOf y = some .local) (hl : (py.line == pos.line) = true) (hn : (scope.names.any fun (n, k) => n == y && (k == .local || k == .cell)) = false)
    (hω : ∀ z a es, ω = some (z, a, es) → z ≠ y)
    (next : ∀ s', St K A env X₀ s₀ Y sr ω ((y, .list ((ds.filter p).map f)) :: ρ) s' → wpAny (model prog w) A (execs rest env) Q E s')
    (hs : ∀ x, foldedSetIterable iter env x = pure x := by intro _; rfl) :
    wpAny (model prog w) A (execs (.Assign [.Name y py] (.ListComp elt [⟨.Name x px, iter, ifs, 0⟩] scope pos) spos :: rest) env) Q E s := by
  refine wpAny_execs_cons (comp_swap st.ok hc (fun z d e => st.vars z d (hv (z, d) (PySem.mem_of_lookup e))) hit hsz ht (swaps_local st.ok.kf hy hl hn) (st.slt y (.inl hy)) (fun D C vs n s₂ k2 hD hC hDC hlD hr hnC h' tk a ha hsa hna hao hvx hvo hsl hnC' h'' hs'' => ?_) hs)
  obtain ⟨c1, c2, c3, c4⟩ := st.newOff hC
  refine next _ (St.behind (D := D) ((st.keeps k2).stored (tk := tk) hω ha hsa hna hao hvx hvo hsl ?_) hs'' hnC' c1 c2 c3 c4)
  exact .list hlD (st.newOff hD).2.1 (hr.less fun _ q => .inl q)

theorem run_comp_own {elt iter : Expr} {x y : Str} {px py spos : Pos} {ifs : List Expr} {scope : Scope} {pos : Pos} {ds : List PyData} {p : PyData → Bool} {f : PyData → PyData} (caps : List (Str × PyData)) {rest : List Stmt} {Q : Flow → Shared → Prop} {E}
    (st : St K A env X₀ s₀ Y sr none ρ s) (hc : CompOk env scope x caps) (hv : ∀ q ∈ caps, ρ.lookup q.1 = some q.2) (hit : It prog w A env (Ow X₀ Y) s iter ds) (hsz : ds.length ≤ sizeLine)
    (ht : ∀ d ∈ ds, Turns prog w K A scope ((x, d) :: caps) ifs elt (p d) (f d)) (hy : env.kindOf y = some .local) (hl : (py.line == pos.line) = true) (hn : (scope.names.any fun (n, k) => n == y && (k == .local || k == .cell)) = false)
    (hρ : ρ.lookup y = none)
    (next : ∀ a s', ¬ Y a → sr.heap.get? a = none → St K A env X₀ s₀ (addY Y a) sr (some (y, a, (ds.filter p).map f)) ρ s' → wpAny (model prog w) A (execs rest env) Q E s')
    (hs : ∀ x, foldedSetIterable iter env x = pure x := by intro _; rfl) :
    wpAny (model prog w) A (execs (.Assign [.Name y py] (.ListComp elt [⟨.Name x px, iter, ifs, 0⟩] scope pos) spos :: rest) env) Q E s := by
  refine wpAny_execs_cons (comp_swap st.ok hc (fun z d e => st.vars z d (hv (z, d) (PySem.mem_of_lookup e))) hit hsz ht (swaps_local st.ok.kf hy hl hn) (st.slt y (.inl hy)) (fun D C vs n s₂ k2 hD hC hDC hlD hr hnC h' tk a ha hsa hna hao hvx hvo hsl hnC' h'' hs'' => ?_) hs)
  obtain ⟨c1, c2, c3, c4⟩ := st.newOff hC
  obtain ⟨d1, d2, d3, d4⟩ := st.newOff hD
  have st₂ := st.keeps k2
  have hDa : D ≠ a := fun q => d1 ⟨y, q ▸ ha⟩
  have hw : ∀ b, Ow X₀ (addY Y D) b → Ow X₀ Y b ∨ s.heap.get? b = none := fun b hb => by
    rcases hb with q | q | rfl
    · exact .inl (.inl q)
    · exact .inl (.inr q)
    · exact .inr hD
  refine next D _ (fun y => d2 (.inr y)) d4 (St.behind (D := D) (s := s₂) (h₃ := h') ?_ hs'' hnC' c1 ?_ c3 c4)
  · refine ⟨⟨st.ok.rm, st.ok.kf, st.ok.eg, st.ok.eb, st.ge.keeps fun b o e => (hsa.2 b fun q => by rw [q, st.fa a ⟨y, ha⟩] at e; cases e).trans (st₂.base b o e), fun b hb => ?_⟩,
      (st₂.chg.more fun b y => .inl y).trans ⟨⟨h', tk, rfl⟩, fun b o e hf _ => (hsa.2 b fun q => hf ⟨y, q ▸ ha⟩).trans e⟩, fun z h => hsl z (st₂.slt z h), fun b hb => ?_, st.xn, st.fa, st.ge,
      fun b o e => (hsa.2 b fun q => by rw [q, st.fa a ⟨y, ha⟩] at e; cases e).trans (st₂.base b o e), ?_, st.cel, fun b hb => ?_, fun z b es e => ?_, fun z dz e => ?_⟩
    · by_cases hba : b = a
      · subst hba; exact ((hsl y (st₂.slt y ha.kind)).obj ha).1
      · rcases hb with q | q | rfl
        · obtain ⟨o, e⟩ := st₂.ok.xa b (.inl q); exact ⟨o, (hsa.2 b hba).trans e⟩
        · obtain ⟨o, e⟩ := st₂.ok.xa b (.inr q); exact ⟨o, (hsa.2 b hba).trans e⟩
        · exact ⟨_, (hsa.2 _ hba).trans hlD⟩
    · rcases hb with q | rfl
      · exact st.yn b q
      · exact d3
    · obtain ⟨h1, t1, rfl⟩ := st₂.same; exact ⟨h', tk, rfl⟩
    · rcases hb with q | rfl
      · obtain ⟨vs', n', e⟩ := st₂.yl b q; exact ⟨vs', n', (hsa.2 b fun q' => hna _ (q' ▸ e) _ _ rfl).trans e⟩
      · exact ⟨vs, n, (hsa.2 _ hDa).trans hlD⟩
    · cases e
      refine ⟨hvx, .inr rfl, vs, n, (hsa.2 _ hDa).trans hlD, (hr.less fun b hb => ?_).but hsa hna⟩
      rcases hb with q | q | rfl
      · exact .inl (.inl q)
      · exact .inl (.inr q)
      · exact .inr rfl
    · obtain ⟨u, hu, hru⟩ := ((st.vars z dz e).more hw).keeps k2.keep
      exact ⟨u, hvo z u (fun q => by rw [q, hρ] at e; cases e) hu, hru.but hsa hna⟩
  · rintro (q | q | q)
    · exact c2 (.inl q)
    · exact c2 (.inr q)
    · exact hDC q.symm
end
end Mine
end

section
namespace Mine

section
variable {prog : Program} {w : World} {K : Frag} {A : Around} {env : Env} {X : Addr → Prop} {s : Shared}

/-! and, or -/
theorem Ev.and2 {x y : Expr} {pos : Pos} {a b : Bool} (hx : Ev prog w A env X s x (.bool a)) (hy : a = true → Ev prog w A env X s y (.bool b)) : Ev prog w A env X s (.BoolOp .And [x, y] pos) (.bool (a && b)) := fun s₁ k Q E hq =>
  wpAny_And2 (hx s₁ k _ _ fun v s₂ k2 r2 => by
    obtain rfl := r2.bool_inv
    refine wpAny_truthy_bool ?_
    cases a with
    | false => exact hq _ _ k2 (.bool _)
    | true => exact hy rfl s₂ (k.trans k2) Q E fun v s₃ k3 r3 => hq _ _ (k2.trans k3) r3)
theorem Ev.orL {x y : Expr} {pos : Pos} {xs ys : List PyData} (hsz : xs.length ≤ sizeLine) (hx : Ev prog w A env X s x (.list xs)) (hy : xs = [] → Ev prog w A env X s y (.list ys)) : Ev prog w A env X s (.BoolOp .Or [x, y] pos) (.list (if xs = [] then ys else xs)) := fun s₁ k Q E hq =>
  wpAny_Or2 (hx s₁ k _ _ fun v s₂ k2 r2 => by
    obtain ⟨a, vs, n, rfl, hl, hxa, hr⟩ := r2.list_inv
    have hlen : vs.size = xs.length := by rw [← hr.length]; simp
    refine wpAny_truthy_list hl.isList (by rw [hlen]; rw [sizeLine_eq] at hsz; omega) ?_
    by_cases hxs : xs = []
    · rw [if_pos hxs] at hq
      have : vs.isEmpty = true := by
        rw [Array.isEmpty_iff_size_eq_zero, hlen, hxs]; rfl
      rw [this]
      exact hy hxs _ (k.trans (k2.trans (.tok _ _))) Q E fun v s₃ k3 r3 => hq _ _ ((k2.trans (.tok _ _)).trans k3) r3
    · rw [if_neg hxs] at hq
      have : vs.isEmpty = false := by
        cases he : vs.isEmpty with
        | false => rfl
        | true =>
          rw [Array.isEmpty_iff_size_eq_zero, hlen] at he
          exact absurd (List.length_eq_zero_iff.mp he) hxs
      rw [this]
      exact hq _ _ (k2.trans (.tok _ _)) r2)

theorem Ev.iteI {t b o : Expr} {pos : Pos} {c : Bool} {x y : Int} (ht : Tr prog w A env s t c) (hb : Ev prog w A env X s b (.int x)) (ho : Ev prog w A env X s o (.int y)) : Ev prog w A env X s (.IfExp t b o pos) (.int (if c then x else y)) :=
  Ev.ite ht (fun h => hb.cast (by rw [h]; rfl)) fun h => ho.cast (by rw [h]; rfl)
theorem Ev.iteS {t b o : Expr} {pos : Pos} {c : Bool} {x y : Str} (ht : Tr prog w A env s t c) (hb : Ev prog w A env X s b (.str x)) (ho : Ev prog w A env X s o (.str y)) : Ev prog w A env X s (.IfExp t b o pos) (.str (if c then x else y)) :=
  Ev.ite ht (fun h => hb.cast (by rw [h]; rfl)) fun h => ho.cast (by rw [h]; rfl)

/-- all of a row of tests -/
def TrAll (prog : Program) (w : World) (A : Around) (env : Env) (s : Shared) (es : List Expr) (b : Bool) : Prop :=
  ∀ s₁, Kp s s₁ → ∀ (Q : Bool → Shared → Prop) (E : Value → Shared → Prop), (∀ s₂, Kp s₁ s₂ → Q b s₂) → wpAny (model prog w) A (allTrue .And es env) Q E s₁
theorem TrAll.nil : TrAll prog w A env s [] true := fun s₁ k Q E hq => wpAny_allTrue_And_nil (hq _ (.refl _))
theorem TrAll.cons {e : Expr} {es : List Expr} {a b : Bool} (h : Tr prog w A env s e a) (hr : a = true → TrAll prog w A env s es b) : TrAll prog w A env s (e :: es) (a && b) := fun s₁ k Q E hq =>
  wpAny_allTrue_And_cons (h s₁ k _ _ fun s₂ k2 => by
    cases a with
    | false => exact hq _ k2
    | true => exact hr rfl s₂ (k.trans k2) Q E fun s₃ k3 => hq _ (k2.trans k3))
theorem Tr.all {es : List Expr} {pos : Pos} {b : Bool} (h : TrAll prog w A env s es b) : Tr prog w A env s (.BoolOp .And es pos) b := fun s₁ k Q E hq => wpAny_isTrue_BoolOp (h s₁ k Q E hq)
theorem Tr.and2 {x y : Expr} {pos : Pos} {a b : Bool} (hx : Tr prog w A env s x a) (hy : a = true → Tr prog w A env s y b) : Tr prog w A env s (.BoolOp .And [x, y] pos) (a && b) :=
  Tr.cast (Tr.all (TrAll.cons hx fun h => TrAll.cons (hy h) fun _ => .nil)) (by simp)
end

/-! equality of plain data -/
theorem eqv_int (a b : Int) : PyData.eqv (.int a) (.int b) = (a == b) := by simp [PyData.eqv]
theorem eqv_str (a b : Str) : PyData.eqv (.str a) (.str b) = (a == b) := by
  simp only [PyData.eqv]
theorem shaped_ints (ns : List Int) : SeqAt.shaped (.list (ns.map .int)) = true := by
  unfold SeqAt.shaped
  have h1 : PyData.canLayAll0 (ns.map .int) = true := by
    induction ns with
    | nil => rfl
    | cons n r ih => simp only [List.map_cons, PyData.canLayAll0, PyData.canLay0, ih]; rfl
  have h2 : PyData.depthAll (ns.map .int) = 0 := by
    clear h1
    induction ns with
    | nil => rfl
    | cons n r ih => simp only [List.map_cons, PyData.depthAll, PyData.depth, ih]; rfl
  simp [PyData.canLay0, h1, PyData.depth, h2]
theorem shaped_pair (a b : Int) : SeqAt.shaped (.tuple [.int a, .int b]) = true := by
  simp [SeqAt.shaped, PyData.canLay0, PyData.canLayAll0, PyData.depth, PyData.depthAll]
theorem eqv_pair (a b c d : Int) : PyData.eqv (.tuple [.int a, .int b]) (.tuple [.int c, .int d]) = (a == c && b == d) := by
  simp [PyData.eqv, PyData.eqvAll]
theorem eqv_ints (a b : List Int) : PyData.eqv (.list (a.map .int)) (.list (b.map .int)) = (a == b) := by
  rw [PyData.eqv]
  induction a generalizing b with
  | nil => cases b <;> rfl
  | cons x r ih =>
    cases b with
    | nil => rfl
    | cons y q => simp only [List.map_cons, PyData.eqvAll, eqv_int, ih]; rfl
end Mine
end

section
namespace Mine

section
variable {prog : Program} {w : World} {K : Frag} {A : Around} {env : Env} {X₀ Y : Addr → Prop} {s₀ sr s : Shared} {ω : Option (Str × Addr × List PyData)} {ρ : List (Str × PyData)}

/-- the own list is turned in place -/
theorem St.turned {x : Str} {a : Addr} {ds ds' : List PyData} {h' : Heap} {vs' : Array Value} {n' : Nat} (st₁ : St K A env X₀ s₀ Y sr (some (x, a, ds)) ρ s) (hl' : IsL h' a vs' n') (hs' : Heap.SameBut a s.heap h') (hr' : RpAll s.heap (Ow X₀ Y) vs'.toList ds') (tk : Nat) :
    St K A env X₀ s₀ Y sr (some (x, a, ds')) ρ { s with heap := h', toks := tk } := by
  obtain ⟨hv, hY, vs, n, hl₁, hr⟩ := st₁.own x a ds rfl
  have nF : ¬ Fa env a := fun ⟨y, hy⟩ => ((st₁.slt y hy.kind).obj hy).2 _ hl₁ _ _ rfl
  have h0 := st₁.yn a hY
  have rp : ∀ {v d}, Rp s.heap (Ow X₀ Y) v d → Rp h' (Ow X₀ Y) v d := fun r => r.turn (W := fun b => b = a) (fun b o e hb => (hs'.2 b hb).trans e) (fun b hb o ho => .inl (by subst hb; rw [hl₁] at ho; cases ho; exact ⟨rfl, .inr hY⟩)) fun _ x => x
  have rpa : ∀ {v d}, RpAll s.heap (Ow X₀ Y) v d → RpAll h' (Ow X₀ Y) v d := fun r => r.turn (W := fun b => b = a) (fun b o e hb => (hs'.2 b hb).trans e) (fun b hb o ho => .inl (by subst hb; rw [hl₁] at ho; cases ho; exact ⟨rfl, .inr hY⟩)) fun _ x => x
  have vr : ∀ {y v}, Var env s.heap y v → Var env h' y v := fun {y v} hv => by
    rcases hv with ⟨q, m, hn, e⟩ | ⟨q, c, b, hc⟩
    · exact .inl ⟨q, m, hn.sameBut hs' (fun e => nF ⟨y, .inl ⟨q, e.symm⟩⟩), e⟩
    · exact .inr ⟨q, c, b, hc.sameBut hs' (fun e => nF ⟨y, .inr ⟨st₁.cel y c b, e ▸ b⟩⟩)⟩
  have base' : ∀ b o, s₀.heap.get? b = some o → h'.get? b = some o := fun b o e => (hs'.2 b fun q => by rw [q, h0] at e; cases e).trans (st₁.base b o e)
  refine ⟨⟨st₁.ok.rm, st₁.ok.kf, st₁.ok.eg, st₁.ok.eb, st₁.ge.keeps base', fun b hb => ?_⟩, st₁.chg.trans ⟨⟨h', _, rfl⟩, fun b o e _ hy => (hs'.2 b fun q => hy (q ▸ hY)).trans e⟩, fun y h => ?_, st₁.yn, st₁.xn, st₁.fa, st₁.ge, base', ?_, st₁.cel, fun b y => ?_, fun y b es e => ?_, fun y dy e => ?_⟩
  · by_cases hba : b = a
    · subst hba; exact ⟨_, hl'⟩
    · obtain ⟨o, e⟩ := st₁.ok.xa b hb; exact ⟨o, (hs'.2 b hba).trans e⟩
  · rcases st₁.slt y h with ⟨q, m, hn⟩ | ⟨q, c, b, ⟨v0, hc⟩, ap⟩
    · exact .inl ⟨q, m, hn.sameBut hs' (fun e => nF ⟨y, .inl ⟨q, e.symm⟩⟩)⟩
    · exact .inr ⟨q, c, b, ⟨v0, hc.sameBut hs' (fun e => nF ⟨y, .inr ⟨q, e ▸ b⟩⟩)⟩, ap⟩
  · obtain ⟨h1, t1, rfl⟩ := st₁.same; exact ⟨h', _, rfl⟩
  · by_cases hba : b = a
    · subst hba; exact ⟨_, _, hl'⟩
    · obtain ⟨vs', m', e⟩ := st₁.yl b y; exact ⟨vs', m', (hs'.2 b hba).trans e⟩
  · cases e
    exact ⟨vr hv, hY, vs', n', hl', rpa hr'⟩
  · obtain ⟨u, hu, hru⟩ := st₁.vars y dy e
    exact ⟨u, vr hu, rp hru⟩

/-- del x[i] of the own list -/
theorem run_del {x : Str} {p pos dpos : Pos} {i : Expr} {a : Addr} {ds ds' : List PyData} {j : Int} {k : Nat} {rest : List Stmt} {Q : Flow → Shared → Prop} {E} (st : St K A env X₀ s₀ Y sr (some (x, a, ds)) ρ s) (hi : Ev prog w A env (Ow X₀ Y) s i (.int j))
    (hfit : Builtin.List.listFitsIndex j = true) (hk : seqIndex? j ds.length = some k) (hds : ds' = ds.eraseIdx k) (hkl : k < ds.length) (hsz : ds.length ≤ sizeLine)
    (next : ∀ s', St K A env X₀ s₀ Y sr (some (x, a, ds')) ρ s' → wpAny (model prog w) A (execs rest env) Q E s')
    (hd : (x == ("__debug__" : Str)) = false := by decide) :
    wpAny (model prog w) A (execs (.Delete [.Subscript (.Name x p) i pos] dpos :: rest) env) Q E s := by
  obtain ⟨hv, hY, vs, n, hl, hr⟩ := st.own x a ds rfl
  have hlen : vs.size = ds.length := by rw [← hr.length]; simp
  refine wpAny_execs_cons (wpAny_Delete (wpAny_deleteEach_cons (wpAny_delete_Subscript (wpAny_Name (load_var st.ok.kf hv ?_) hd))))
  refine hi s (.refl _) _ _ fun v s₁ k1 r1 => ?_
  obtain ⟨t, rfl⟩ := r1.int_inv
  have hl₁ : IsL s₁.heap a vs n := k1.keep _ _ hl
  refine P.delItem_list (k := k) hl₁ hfit (by rw [hlen]; exact hk) (wpAny_deleteEach_nil (next _ ((st.keeps k1).turned (IsL.update hl₁ _) (Heap.SameBut.update ..) ?_ _))) (by rw [hlen]; exact hsz)
  subst hds
  rw [← hlen] at hkl
  have e : (vs.eraseIdxIfInBounds k).toList = vs.toList.eraseIdx k := by
    rw [Array.eraseIdxIfInBounds, dif_pos hkl]; simp
  rw [e]
  have key : ∀ (vl : List Value) (dl : List PyData) (k : Nat), RpAll s₁.heap (Ow X₀ Y) vl dl → RpAll s₁.heap (Ow X₀ Y) (vl.eraseIdx k) (dl.eraseIdx k) := by
    intro vl
    induction vl with
    | nil => intro dl k h; cases h; exact .nil
    | cons v r ih =>
      intro dl k h
      cases h with
      | cons h1 h2 =>
        cases k with
        | zero => exact h2
        | succ k => exact .cons h1 (ih _ k h2)
  exact key _ _ _ (hr.keeps k1.keep)

/-- an item of the own list -/
theorem Ev.ownItem {x : Str} {p pos : Pos} {i : Expr} {a : Addr} {ds : List PyData} {j : Int} {d : PyData} (st : St K A env X₀ s₀ Y sr (some (x, a, ds)) ρ s) (hi : Ev prog w A env (Ow X₀ Y) s i (.int j))
    (h0 : 0 ≤ j) (hk : j < 2 ^ 63) (hd : ds[j.toNat]? = some d) (hs : ∀ o i', subscripted i false o i' = operate [o, i'] (getItem o i') := by intro _ _; rfl) (hdb : (x == ("__debug__" : Str)) = false := by decide) :
    Ev prog w A env (Ow X₀ Y) s (.Subscript (.Name x p) i pos) d := fun s₁ k1 Q E hq => by
  obtain ⟨hv, hY, vs, n, hl, hr⟩ := (st.keeps k1).own x a ds rfl
  refine Subscript_ (wpAny_Name (load_var st.ok.kf hv (hi s₁ k1 _ _ fun u s₃ k3 r3 => ?_)) hdb)
  obtain ⟨t, rfl⟩ := r3.int_inv
  obtain ⟨y, e, ry⟩ := (hr.keeps k3.keep).get hd
  exact tail_any (T := "list") ⟨_, k3.keep _ _ hl, rfl⟩ list_getitem_lookup (wpAny_getItem_list (IsL.isList (n := n) (k3.keep _ _ hl)) h0 hk (by simpa using e) (hq _ _ k3 ry)) (hs _ _)
theorem Ev.ownItemNeg {x : Str} {p pos : Pos} {i : Expr} {a : Addr} {ds : List PyData} {j : Int} {d : PyData} (st : St K A env X₀ s₀ Y sr (some (x, a, ds)) ρ s) (hi : Ev prog w A env (Ow X₀ Y) s i (.int j))
    (h0 : j < 0) (h1 : -(ds.length : Int) ≤ j) (hk : -(2 ^ 63) ≤ j) (hd : ds[(j + ds.length).toNat]? = some d) (hs : ∀ o i', subscripted i false o i' = operate [o, i'] (getItem o i') := by intro _ _; rfl) (hdb : (x == ("__debug__" : Str)) = false := by decide) :
    Ev prog w A env (Ow X₀ Y) s (.Subscript (.Name x p) i pos) d := fun s₁ k1 Q E hq => by
  obtain ⟨hv, hY, vs, n, hl, hr⟩ := (st.keeps k1).own x a ds rfl
  refine Subscript_ (wpAny_Name (load_var st.ok.kf hv (hi s₁ k1 _ _ fun u s₃ k3 r3 => ?_)) hdb)
  obtain ⟨t, rfl⟩ := r3.int_inv
  obtain ⟨y, e, ry⟩ := (hr.keeps k3.keep).get hd
  have hlen : vs.size = ds.length := by rw [← hr.length]; simp
  exact tail_any (T := "list") ⟨_, k3.keep _ _ hl, rfl⟩ list_getitem_lookup (wpAny_getItem_list_neg (IsL.isList (n := n) (k3.keep _ _ hl)) h0 (by rw [hlen]; exact h1) hk (by rw [hlen]; simpa using e) (hq _ _ k3 ry)) (hs _ _)

/-- an if whose ways meet, the own list too -/
theorem run_ifo {test : Expr} {body orelse rest : List Stmt} {pos : Pos} {b : Bool} {Q : Flow → Shared → Prop} {E} (ω' : Option (Str × Addr × List PyData)) (ρ' : List (Str × PyData)) (st : St K A env X₀ s₀ Y sr ω ρ s) (ht : Tr prog w A env s test b)
    (hb : ∀ s', St K A env X₀ s₀ Y sr ω ρ s' → ∀ E', wpAny (model prog w) A (execs (if b then body else orelse) env) (fun f s₁ => match f with | .next => St K A env X₀ s₀ Y sr ω' ρ' s₁ | f => Q f s₁) E' s')
    (next : ∀ s', St K A env X₀ s₀ Y sr ω' ρ' s' → wpAny (model prog w) A (execs rest env) Q E s') :
    wpAny (model prog w) A (execs (.If test body orelse pos :: rest) env) Q E s :=
  run_if st ht fun s' st' => wpAny_mono (hb s' st' _) (fun f s₁ h₁ => by cases f <;> first | exact next _ h₁ | exact h₁) fun _ _ e => e

theorem run_assert {test : Expr} {msg : Option Expr} {rest : List Stmt} {pos : Pos} {Q : Flow → Shared → Prop} {E} (st : St K A env X₀ s₀ Y sr ω ρ s) (ht : Tr prog w A env s test true)
    (next : ∀ s', St K A env X₀ s₀ Y sr ω ρ s' → wpAny (model prog w) A (execs rest env) Q E s') : wpAny (model prog w) A (execs (.Assert test msg pos :: rest) env) Q E s :=
  wpAny_execs_cons (wpAny_Assert_holds (ht s (.refl _) _ _ fun s₁ k1 => ⟨rfl, next s₁ (st.keeps k1)⟩))

theorem run_augAdd {x : Str} {p' pos : Pos} {e : Expr} {i j : Int} {rest : List Stmt} {Q : Flow → Shared → Prop} {E} (st : St K A env X₀ s₀ Y sr ω ρ s) (hv : ρ.lookup x = some (.int i)) (he : Ev prog w A env (Ow X₀ Y) s e (.int j)) (hx : env.kindOf x = some .local ∨ env.kindOf x = some .cell)
    (hω : ∀ y a ds, ω = some (y, a, ds) → y ≠ x)
    (next : ∀ s', St K A env X₀ s₀ Y sr ω ((x, .int (i + j)) :: ρ) s' → wpAny (model prog w) A (execs rest env) Q E s') :
    wpAny (model prog w) A (execs (.AugAssign (.Name x p') .Add e pos :: rest) env) Q E s := by
  obtain ⟨v, hv, r⟩ := st.var hv
  obtain ⟨t, rfl⟩ := r.int_inv
  refine wpAny_execs_cons (wpAny_AugAssign_Name (load_var st.ok.kf hv (he s (.refl _) _ _ fun u s₁ k1 r1 => ?_)))
  obtain ⟨t', rfl⟩ := r1.int_inv
  exact P.iadd_int (run_store ((st.keeps k1).keeps (.tok _ _)) hx hω (.int _ _) fun s' st' => next s' st')
theorem run_augSub {x : Str} {p' pos : Pos} {e : Expr} {i j : Int} {rest : List Stmt} {Q : Flow → Shared → Prop} {E} (st : St K A env X₀ s₀ Y sr ω ρ s) (hv : ρ.lookup x = some (.int i)) (he : Ev prog w A env (Ow X₀ Y) s e (.int j)) (hx : env.kindOf x = some .local ∨ env.kindOf x = some .cell)
    (hω : ∀ y a ds, ω = some (y, a, ds) → y ≠ x)
    (next : ∀ s', St K A env X₀ s₀ Y sr ω ((x, .int (i - j)) :: ρ) s' → wpAny (model prog w) A (execs rest env) Q E s') :
    wpAny (model prog w) A (execs (.AugAssign (.Name x p') .Sub e pos :: rest) env) Q E s := by
  obtain ⟨v, hv, r⟩ := st.var hv
  obtain ⟨t, rfl⟩ := r.int_inv
  refine wpAny_execs_cons (wpAny_AugAssign_Name (load_var st.ok.kf hv (he s (.refl _) _ _ fun u s₁ k1 r1 => ?_)))
  obtain ⟨t', rfl⟩ := r1.int_inv
  exact P.isub_int (run_store ((st.keeps k1).keeps (.tok _ _)) hx hω (.int _ _) fun s' st' => next s' st')

theorem St.no_dict {x : Str} {kvs : List (PyData × PyData)} (st : St K A env X₀ s₀ Y sr ω ρ s) (h : ρ.lookup x = some (.dict kvs)) : False := by
  obtain ⟨v, _, r⟩ := st.var h
  cases r

/-- a for with a fact of its own about the count -/
theorem run_forJ {x : Str} {px pos : Pos} {iter : Expr} {body rest : List Stmt} {ds : List PyData} {Q : Flow → Shared → Prop} {E} (z : Str) (hz : (z == x) = false) (st : St K A env X₀ s₀ Y sr ω ρ s) (hit : It prog w A env (Ow X₀ Y) s iter ds) (hx : env.kindOf x = some .local ∨ env.kindOf x = some .cell)
    (J : Nat → Prop) (ωs : Nat → Option (Str × Addr × List PyData)) (ρs : Nat → List (Str × PyData)) (hω : ∀ i y a es, ωs i = some (y, a, es) → y ≠ x)
    (h0 : ωs 0 = ω ∧ ∀ p ∈ ρs 0, ρ.lookup p.1 = some p.2) (hJ : J 0)
    (turn : ∀ i d s₁, ds[i]? = some d → J i → St K A env X₀ s₀ Y s₁ (ωs i) ((x, d) :: ρs i) s₁ →
      ∀ E', wpAny (model prog w) A (execs body env) (fun f s₂ => match f with | .next => J (i + 1) ∧ St K A env X₀ s₀ Y s₁ (ωs (i + 1)) (ρs (i + 1)) s₂ | .ret v => Q (.ret v) s₂ | _ => False) E' s₁)
    (next : ∀ s', J ds.length → St K A env X₀ s₀ Y sr (ωs ds.length) (ρs ds.length) s' → wpAny (model prog w) A (execs rest env) Q E s')
    (hs : ∀ x, foldedSetIterable iter env x = pure x := by intro _; rfl) : wpAny (model prog w) A (execs (.For (.Name x px) iter body [] pos :: rest) env) Q E s := by
  classical
  refine run_for st hit hx ωs (fun i => if J i then ρs i else [(z, .dict [])]) hω ⟨h0.1, by simpa [hJ] using h0.2⟩ (fun i d s₁ hd st' E' => ?_) (fun s' st' => ?_) hs
  · by_cases hi : J i
    · rw [if_pos hi] at st'
      refine wpAny_mono (turn i d s₁ hd hi st' E') (fun f s₂ h => ?_) fun _ _ e => e
      cases f <;> first | exact h | (obtain ⟨h1, h2⟩ := h; show St K A env X₀ s₀ Y s₁ (ωs (i + 1)) (if J (i + 1) then ρs (i + 1) else _) s₂; rw [if_pos h1]; exact h2)
    · rw [if_neg hi] at st'
      exact (st'.no_dict (x := z) (kvs := []) (by simp [List.lookup, hz])).elim
  · by_cases hi : J ds.length
    · rw [if_pos hi] at st'; exact next s' hi st'
    · rw [if_neg hi] at st'
      exact (st'.no_dict (x := z) (kvs := []) (by simp [List.lookup])).elim

/-- x, y = a, b -/
theorem run_tuple2 {x y : Str} {elts : List Expr} {k : _} {tpos pos : Pos} {e : Expr} {i : Int} {d2 : PyData} {rest : List Stmt} {Q : Flow → Shared → Prop} {E} (st : St K A env X₀ s₀ Y sr ω ρ s) (he : Ev prog w A env (Ow X₀ Y) s e (.tuple [.int i, d2]))
    (hx : env.kindOf x = some .local ∨ env.kindOf x = some .cell) (hy : env.kindOf y = some .local ∨ env.kindOf y = some .cell)
    (hω : ∀ z a ds, ω = some (z, a, ds) → z ≠ x ∧ z ≠ y)
    (next : ∀ s', St K A env X₀ s₀ Y sr ω ((x, .int i) :: (y, d2) :: ρ) s' → wpAny (model prog w) A (execs rest env) Q E s')
    (hs : swapsWithSole [.Tuple elts k tpos] e pos.line env = pure false := by rfl)
    (hw : swappedStores [.Tuple elts k tpos] e env = pure (some [x, y]) := by rfl) :
    wpAny (model prog w) A (execs (.Assign [.Tuple elts k tpos] e pos :: rest) env) Q E s := by
  refine wpAny_execs_cons (Assign_Tuple_swapped (names := [x, y]) (he s (.refl _) _ _ fun v s₁ k1 r1 => ?_) hs hw)
  obtain ⟨a, vs, n, rfl, hl, hr⟩ := r1.tuple_inv
  have hsz : vs.size = 2 := by have := hr.length; simpa using this
  show wpAny _ _ (unpackItems (.ref a) 2 none) _ _ _
  rw [← hsz]
  refine wpAny_unpackItems_tuple st.ok.rm.1 ⟨_, hl, rfl, n, rfl⟩ fun h' hx' => ?_
  have k2 : Kp s₁ { s₁ with heap := h' } := ⟨h', _, rfl, fun b o e => hx' b o (fun q => by
    have := Heap.lt_size e
    rw [q] at this
    exact Nat.lt_irrefl _ this) e⟩
  revert hr
  generalize vs.toList = vl
  intro hr
  match vl, hr with
  | [v1, v2], .cons q1 (.cons q2 .nil) =>
    obtain ⟨t, rfl⟩ := q1.int_inv
    refine wpAny_assignInOrder_more (wpAny_bindName (run_store ((st.keeps k1).keeps k2) hy (fun z a ds e => (hω z a ds e).2) (q2.keeps k2.keep) fun s₃ st₃ => ?_))
    exact wpAny_assignInOrder_more (wpAny_bindName (run_store st₃ hx (fun z a ds e => (hω z a ds e).1) (.int _ t) fun s₄ st₄ => wpAny_assignInOrder_none (next _ st₄)))
end
end Mine
end

section
namespace Mine

/-- a text by its codes -/
def S (l : List Nat) : Str := ⟨l.toArray⟩
theorem S_app (a b : List Nat) : S a ++ S b = S (a ++ b) := Str.ext' (by simp [S, Str.cps_append])
theorem S_len (a : List Nat) : (S a).length = a.length := by simp [S, Str.length]
theorem S_inj {a b : List Nat} (h : S a = S b) : a = b := by
  have := congrArg (fun x => x.cps.toList) h
  simpa [S] using this
theorem S_list (x : Str) : S x.cps.toList = x := by cases x; simp [S]
theorem S_beq (a b : List Nat) : (S a == S b) = (a == b) := by
  rw [Bool.eq_iff_iff, beq_iff_eq, beq_iff_eq]
  exact ⟨S_inj, fun h => h ▸ rfl⟩
theorem fold_app (x : Array Nat) : ∀ (n : Nat) (acc : Array Nat), (List.replicate n x).foldl (· ++ ·) acc = acc ++ (List.replicate n x.toList).flatten.toArray
  | 0, acc => by simp
  | n + 1, acc => by
    rw [List.replicate_succ, List.foldl_cons, fold_app x n, List.replicate_succ, List.flatten_cons]
    apply Array.ext'
    simp
theorem S_mul (l : List Nat) (n : Int) : Txt.mul (S l) n = S (List.replicate n.toNat l).flatten := by
  unfold Txt.mul
  by_cases h1 : n < 1
  · rw [if_pos h1]
    have : n.toNat = 0 := by omega
    rw [this]; rfl
  · rw [if_neg h1]
    by_cases h2 : (n == 1 || (S l).length == 0) = true
    · rw [if_pos h2]
      rw [Bool.or_eq_true] at h2
      rcases h2 with h2 | h2
      · rw [beq_iff_eq.mp h2]; simp
      · have : l = [] := by rw [S_len] at h2; exact List.length_eq_zero_iff.mp (beq_iff_eq.mp h2)
        subst this; simp
    · rw [if_neg h2, fold_app]
      apply Str.ext'
      simp [S]
theorem mulOk {l : List Nat} {n : Int} (h0 : -(2 ^ 62) ≤ n) (hn : n ≤ 1000) (hl : l.length ≤ 10) : MulOk (S l) n := by
  refine ⟨?_, fun h1 _ => ?_, fun h1 _ => ?_⟩
  · rw [Bool.or_eq_false_iff]; exact ⟨decide_eq_false (by omega), decide_eq_false (by omega)⟩
  · rw [S_len]
    have : (10 : Int) ≤ (2 ^ 63 - 1) / n := by
      rw [Int.le_ediv_iff_mul_le (by omega)]; omega
    omega
  · rw [S_len]
    unfold Builtin.Str.tooLong sizeLine
    refine decide_eq_false ?_
    have : l.length * n.toNat ≤ 10 * 1000 := Nat.mul_le_mul hl (by omega)
    omega
end Mine
end

set_option maxHeartbeats 8000000 in
open_top hd2 for PySem.Challenge.rw_pk0031_02

section
namespace Mine
theorem ret_ok {K : Frag} {A : Around} {env : Env} {X₀ Y : Addr → Prop} {s₀ sr : Shared} {ω} {ρ} {d : PyData} {v : Value} {s' : Shared} (st : St K A env X₀ s₀ Y sr ω ρ s') (r : Rp s'.heap (Ow X₀ Y) v d) :
    ∃ v', Flow.ret v = .ret v' ∧ Kp s₀ s' ∧ Rp s'.heap X₀ v' d := ⟨v, rfl, st.kp, r.less fun _ q => .inl q⟩
theorem noOwn {y : Str} {a : Addr} {ds : List PyData} {P : Prop} : none = some (y, a, ds) → P := fun e => by cases e
theorem S_dot : (Str.ofString ".") = S [46] := by decide +kernel
theorem S_adot : (Str.ofString "a.") = S [97, 46] := by decide +kernel
theorem S_crlf : (Str.ofString "\r\n") = S [13, 10] := by decide +kernel
theorem S_lf : (Str.ofString "\n") = S [10] := by decide +kernel
theorem S_cr : (Str.ofString "\r") = S [13] := by decide +kernel
theorem S_nil : (Str.ofString "") = S [] := by decide +kernel
theorem flat_one (c : Nat) (n : Nat) : (List.replicate n [c]).flatten = List.replicate n c := by
  induction n with
  | zero => rfl
  | succ n ih => simp [List.replicate_succ, ih]
end Mine
end

section
namespace Mine
theorem plainAttrs_pat : PlainAttrs "re.Pattern" :=
  ⟨⟨"object.__getattribute__", by rw [typeLookup_type, builtinLookup_eq_fast]; kernel_rfl, by decide +kernel⟩, by rw [typeLookup_type, builtinLookup_eq_fast]; kernel_rfl⟩
theorem slot_sub : Slot "re.Pattern" "sub" "re.Pattern.sub" :=
  .of (owner := "re.Pattern") (n := "sub") (by rw [typeLookup_type, builtinLookup_eq_fast]; kernel_rfl) (by decide +kernel) (by decide +kernel) (by decide +kernel)
    (by first | exact .inl (by decide +kernel) | exact .inr (by decide +kernel)) (by rw [isSubtype_type]; kernel_rfl)
theorem type_sub : typeOf (.builtin "re.Pattern.sub") = pure (.type "method_descriptor") := by show builtinType _ = _; rw [builtinType_eq_fast]; kernel_rfl
theorem entry_sub : entryFor table "re.Pattern.sub" = some Builtin.«re.Pattern.sub» := entryFor_of_tree (by kernel_rfl)
theorem entry_loop : entryFor table "re.Pattern.sub.loop" = some Builtin.«re.Pattern.sub.loop» := entryFor_of_tree (by kernel_rfl)
theorem args_sub (a b c : Value) : argsOk "re.Pattern.sub" ⟨[a, b, c], []⟩ := by
  unfold argsOk; kernel_rfl
theorem str_no_call : typeLookup (.type "str") "__call__" = pure none := by rw [typeLookup_type, builtinLookup_eq_fast]; kernel_rfl
end Mine
end

section
namespace Mine
open PySem.Sre

/-- the machine, without groups and loops -/
def mc (code text : Array Nat) (lim ls st pc pos hd : Nat) (om : Bool) (fr : List Sre.Frame) (wt : Nat) (ans : Option Bool) (sn : Sre.Seen) : Sre.M :=
  { code, text, lim, start := st, lastStart := ls, wholeText := false, mustAdvance := false, pc, pos, handed := hd, outermost := om, marks := #[], frames := fr, weight := wt, answer := ans, seen := sn }

section
variable {code text : Array Nat} {lim ls st pc pos hd wt : Nat} {om : Bool} {fr : List Sre.Frame} {sn : Sre.Seen}

theorem step_lit {c : Nat} (hp : pc < code.size) (h0 : code.getD pc 0 = 16) (h1 : code.getD (pc + 1) 0 = c) :
    ∃ sn', (mc code text lim ls st pc pos hd om fr wt none sn).step = if pos < lim ∧ text.getD pos 0 = c then mc code text lim ls st (pc + 2) (pos + 1) hd om fr wt none sn' else mc code text lim ls st pc pos hd om fr wt (some false) sn' := by
  refine ⟨sn.add 16, ?_⟩
  have e : (mc code text lim ls st pc pos hd om fr wt none sn).step = (mc code text lim ls st pc pos hd om fr wt none sn).exec := by
    simp [M.step, mc, hp]
  rw [e]
  unfold M.exec M.word
  simp only [mc, Nat.add_zero, h0]
  have eo : ops[16]? = some .LITERAL := rfl
  rw [eo]
  simp only [accepts, h0, eo, h1, itemWidth, M.say]
  by_cases hl : pos < lim
  · rw [if_neg (by omega)]
    by_cases hc : text.getD pos 0 = c
    · rw [if_pos ⟨hl, hc⟩]
      have : (text.getD pos 0 == c) = true := by simpa using hc
      rw [this]
    · rw [if_neg (fun h => hc h.2)]
      have : (text.getD pos 0 == c) = false := by simpa using hc
      rw [this]
  · rw [if_pos (by omega), if_neg (fun h => hl h.1)]

theorem step_exec (hp : pc < code.size) : (mc code text lim ls st pc pos hd om fr wt none sn).step = (mc code text lim ls st pc pos hd om fr wt none sn).exec := by simp [M.step, mc, hp]

theorem step_branch (hp : pc < code.size) (h0 : code.getD pc 0 = 7) (h1 : code.getD (pc + 1) 0 ≠ 0) (hw : wt ≤ 1000) :
    ∃ sn', (mc code text lim ls st pc pos hd om fr wt none sn).step = mc code text lim ls st (pc + 2) pos pos om ({ wait := .nextBranch, pc := pc + 1, pos := pos, outermost := om } :: fr) (wt + 1) none sn' := by
  refine ⟨sn.add 7, ?_⟩
  rw [step_exec hp]
  unfold M.exec M.word
  simp only [mc, Nat.add_zero, h0]
  have eo : ops[7]? = some .BRANCH := rfl
  rw [eo]
  simp only [M.alternative, M.attempt, M.frame, M.keep]
  rw [if_neg (by simpa using h1), if_neg (by simp; omega)]
  rfl
theorem step_jump (hp : pc < code.size) (h0 : code.getD pc 0 = 15) :
    ∃ sn', (mc code text lim ls st pc pos hd om fr wt none sn).step = mc code text lim ls st (pc + 1 + code.getD (pc + 1) 0) pos hd om fr wt none sn' := by
  refine ⟨sn.add 15, ?_⟩
  rw [step_exec hp]
  unfold M.exec M.word
  simp only [mc, Nat.add_zero, h0]
  have eo : ops[15]? = some .JUMP := rfl
  rw [eo]
theorem step_success (hp : pc < code.size) (h0 : code.getD pc 0 = 1) :
    ∃ sn', (mc code text lim ls st pc pos hd om fr wt none sn).step = mc code text lim ls st pc pos pos om fr wt (some true) sn' := by
  refine ⟨sn.add 1, ?_⟩
  rw [step_exec hp]
  unfold M.exec M.word
  simp only [mc, Nat.add_zero, h0]
  have eo : ops[1]? = some .SUCCESS := rfl
  rw [eo]
  simp [M.say]
theorem step_assertNot (hp : pc < code.size) (h0 : code.getD pc 0 = 5) (h2 : code.getD (pc + 2) 0 = 0) (hw : wt ≤ 1000) :
    ∃ sn', (mc code text lim ls st pc pos hd om fr wt none sn).step = mc code text lim ls st (pc + 3) pos pos false ({ wait := .lookNot, pc := pc, pos := pos, outermost := om } :: fr) (wt + 1) none sn' := by
  refine ⟨sn.add 5, ?_⟩
  rw [step_exec hp]
  unfold M.exec M.word
  simp only [mc, Nat.add_zero, h0, h2]
  have eo : ops[5]? = some .ASSERT_NOT := rfl
  rw [eo]
  simp only [M.attempt, M.frame, M.keep]
  rw [if_neg (by omega), if_neg (by simp; omega)]
  rfl
theorem step_at (hp : pc < code.size) (h0 : code.getD pc 0 = 6) (h1 : code.getD (pc + 1) 0 = 1) :
    ∃ sn', (mc code text lim ls st pc pos hd om fr wt none sn).step = if pos = 0 ∨ text.getD (pos - 1) 0 = 10 then mc code text lim ls st (pc + 2) pos hd om fr wt none sn' else mc code text lim ls st pc pos hd om fr wt (some false) sn' := by
  refine ⟨(sn.add 6).add 44, ?_⟩
  rw [step_exec hp]
  unfold M.exec M.word
  simp only [mc, Nat.add_zero, h0, h1]
  have eo : ops[6]? = some .AT := rfl
  rw [eo]
  simp only [M.isAt, M.say]
  by_cases hc : pos = 0 ∨ text.getD (pos - 1) 0 = 10
  · rw [if_pos hc]
    have : (pos == 0 || text.getD (pos - 1) 0 == 10) = true := by simpa using hc
    simp only [this, if_true]
  · rw [if_neg hc]
    have : (pos == 0 || text.getD (pos - 1) 0 == 10) = false := by
      rw [Bool.eq_false_iff]; intro h; apply hc; simpa using h
    simp only [this, Bool.false_eq_true, if_false]

theorem answer_end {b : Bool} : (mc code text lim ls st pc pos hd om [] wt (some b) sn).step = { mc code text lim ls st pc pos hd om [] wt (some b) sn with outcome := some (if b then .matched else .failed) } := by
  simp [M.step, mc]
theorem answer_branch_yes {f : Nat} {p : Nat} {o : Bool} : (mc code text lim ls st pc pos hd om ({ wait := .nextBranch, pc := f, pos := p, outermost := o } :: fr) (wt + 1) (some true) sn).step = mc code text lim ls st f p hd o fr wt (some true) sn := by
  simp [M.step, mc, M.resume, M.say]
theorem answer_branch_no {f : Nat} {p : Nat} {o : Bool} (hw : wt ≤ 1000) : (mc code text lim ls st pc pos hd om ({ wait := .nextBranch, pc := f, pos := p, outermost := o } :: fr) (wt + 1) (some false) sn).step =
    if code.getD (f + code.getD f 0) 0 = 0 then mc code text lim ls st f p hd o fr wt (some false) sn
    else mc code text lim ls st (f + code.getD f 0 + 1) p p o ({ wait := .nextBranch, pc := f + code.getD f 0, pos := p, outermost := o } :: fr) (wt + 1) none sn := by
  by_cases hz : code.getD (f + code.getD f 0) 0 = 0
  · rw [if_pos hz]
    simp [M.step, mc, M.resume, M.say, M.alternative, M.putBack, hz, -Array.getD_eq_getD_getElem?]
  · rw [if_neg hz]
    simp [M.step, mc, M.resume, M.alternative, M.putBack, hz, M.attempt, M.frame, -Array.getD_eq_getD_getElem?]
    omega
theorem answer_look_no {f : Nat} {p : Nat} {o : Bool} : (mc code text lim ls st pc pos hd om ({ wait := .lookNot, pc := f, pos := p, outermost := o } :: fr) (wt + 1) (some false) sn).step = mc code text lim ls st (f + 1 + code.getD (f + 1) 0) p hd o fr wt none sn := by
  simp [M.step, mc, M.resume, M.putBack, M.word, -Array.getD_eq_getD_getElem?]
theorem answer_start_yes {f : Nat} {p : Nat} {o : Bool} : (mc code text lim ls st pc pos hd om ({ wait := .nextStart, pc := f, pos := p, outermost := o } :: fr) (wt + 1) (some true) sn).step = mc code text lim ls st f p hd o fr wt (some true) sn := by
  simp [M.step, mc, M.resume, M.say]
theorem answer_start_no {f : Nat} {p : Nat} {o : Bool} : (mc code text lim ls st pc pos hd om ({ wait := .nextStart, pc := f, pos := p, outermost := o } :: fr) (wt + 1) (some false) sn).step =
    if p < ls then (mc code text lim ls st f p hd o fr wt none sn).attemptFrom (p + 1) false else mc code text lim ls st f p hd o fr wt (some false) sn := by
  by_cases hz : p < ls
  · rw [if_pos hz]
    simp [M.step, mc, M.resume, M.putBack, hz]
  · rw [if_neg hz]
    simp [M.step, mc, M.resume, M.putBack, hz, M.say]
theorem attemptAt_mc {s : Nat} {first : Bool} (hw : wt ≤ 1000) : (mc code text lim ls st pc pos hd om fr wt none sn).attemptAt s first = mc code text lim ls s pc s s first ({ wait := .nextStart, pc := pc, pos := s, outermost := first } :: fr) (wt + 1) none sn := by
  simp [M.attemptAt, mc, M.attempt]
  omega
end

/-! driving -/
/-- m comes to m', an end, in at most n steps -/
def Rch (n : Nat) (m m' : Sre.M) : Prop := ∃ k, k ≤ n ∧ m.runFor k = m' ∧ m'.outcome.isSome = true
theorem Rch.here {n : Nat} {m : Sre.M} (h : m.outcome.isSome = true) : Rch n m m := ⟨0, Nat.zero_le _, rfl, h⟩
theorem Rch.go {n : Nat} {m m₁ m' : Sre.M} (h0 : m.outcome = none) (h : m.step = m₁) (hr : Rch n m₁ m') : Rch (n + 1) m m' := by
  obtain ⟨k, h1, h2, h3⟩ := hr
  refine ⟨k + 1, by omega, ?_, h3⟩
  unfold M.runFor
  rw [h0, if_neg (by simp), h]
  exact h2
theorem Rch.more {n n' : Nat} {m m' : Sre.M} (h : Rch n m m') (hn : n ≤ n') : Rch n' m m' := let ⟨k, a, b, c⟩ := h; ⟨k, by omega, b, c⟩
theorem runFor_some {n : Nat} {m : Sre.M} (h : m.outcome.isSome = true) : m.runFor n = m := by cases n <;> simp [M.runFor, h]
theorem runFor_succ (n : Nat) (m : Sre.M) : m.runFor (n + 1) = if m.outcome.isSome then m else m.step.runFor n := rfl
theorem runFor_add (a b : Nat) (m : Sre.M) : m.runFor (a + b) = (m.runFor a).runFor b := by
  induction a generalizing m with
  | zero => rw [Nat.zero_add]; rfl
  | succ a ih =>
    rw [Nat.succ_add, runFor_succ, runFor_succ]
    by_cases h : m.outcome.isSome = true
    · rw [if_pos h, if_pos h, runFor_some h]
    · rw [if_neg h, if_neg h]; exact ih _

theorem drive {M : Model} {A : Around} {E : Value → Shared → Prop} {s : Shared} {Q : Sre.M → Shared → Prop} : ∀ (turns n : Nat) {m m' : Sre.M}, Rch n m m' → n < 4 * turns → Q m' s → wpAny M A (Builtin.Re.reDrive turns m) Q E s
  | 0, n, _, _, _, h, _ => by omega
  | t + 1, n, m, m', hr, hn, hq => by
    obtain ⟨k, h1, h2, h3⟩ := hr
    unfold Builtin.Re.reDrive
    have e4 : Builtin.Re.reTurnSteps = 4 := rfl
    dsimp only
    rw [e4]
    by_cases hk : k ≤ 4
    · have : m.runFor 4 = m' := by
        rw [show 4 = k + (4 - k) by omega, runFor_add, h2, runFor_some h3]
      rw [this, if_pos h3]
      exact wpAny_pure hq
    · have e : m.runFor k = (m.runFor 4).runFor (k - 4) := by rw [← runFor_add]; congr 1; omega
      by_cases ho : (m.runFor 4).outcome.isSome = true
      · have : m.runFor 4 = m' := by rw [← h2, e, runFor_some ho]
        rw [if_pos ho, this]
        exact wpAny_pure hq
      · rw [if_neg ho]
        exact wpAny_bind (wpAny_rule (drive t (n - 4) ⟨k - 4, by omega, by rw [← e]; exact h2, h3⟩ (by omega) hq))

theorem run_to_end {M : Model} {A : Around} {E : Value → Shared → Prop} {s : Shared} {Q : Option Sre.M → Shared → Prop} {m m' : Sre.M} {n : Nat} (hr : Rch n m m') (hn : n < 2 ^ 40)
    (h1 : (∃ o, m'.outcome = some o ∧ match o with | .matched => Q (some m') s | .failed => Q none s | .stuck _ => False)) : wpAny M A (Builtin.Re.reRunToEnd m) Q E s := by
  unfold Builtin.Re.reRunToEnd
  refine wpAny_bind (drive (2 ^ 64) n hr (by omega) ?_)
  have key : ∀ (l : List Nat) (f : Nat → PUnit → Sem (ForInStep PUnit)) (K : PUnit → Shared → Prop), (∀ i u (K' : ForInStep PUnit → Shared → Prop), (∀ u', K' (.yield u') s) → wpAny M A (f i u) K' E s) → K ⟨⟩ s → wpAny M A (forIn l ⟨⟩ f) K E s := by
    intro l f K hf hk
    induction l with
    | nil => rw [List.forIn_nil]; exact wpAny_pure hk
    | cons a r ih => rw [List.forIn_cons]; exact wpAny_bind (hf a ⟨⟩ _ fun u' => ih)
  refine wpAny_bind (key _ _ _ (fun i u K' hk => ?_) ?_)
  · split
    · exact wpAny_bind (wpAny_rule (wpAny_pure (hk _)))
    · exact wpAny_pure (hk _)
  · obtain ⟨o, ho, hm⟩ := h1
    rw [ho]
    cases o with
    | matched => exact wpAny_pure hm
    | failed => exact wpAny_pure hm
    | stuck w => exact hm.elim

/-! the two patterns -/
def c1 : Array Nat := #[14, 4, 0, 1, 1, 6, 1, 16, 46, 1]
def c2 : Array Nat := #[14, 9, 4, 1, 2, 16, 10, 16, 13, 0, 7, 7, 16, 13, 16, 10, 15, 18, 5, 16, 10, 15, 13, 11, 16, 13, 5, 5, 0, 16, 10, 1, 15, 2, 0, 1]

def nl (c : Nat) : Bool := c == 10 || c == 13

theorem inSet_lit {code : Array Nat} {c fuel i : Nat} {yes : Bool} {sn : Sre.Seen} (h0 : code.getD i 0 = 16) : inSet code c (fuel + 1) i yes sn = if c == code.getD (i + 1) 0 then .ok (yes, sn.add 16) else inSet code c fuel (i + 2) yes (sn.add 16) := by
  rw [inSet]
  simp only [Nat.add_zero, h0]
  have eo : ops[16]? = some .LITERAL := rfl
  rw [eo]
theorem inSet_fail {code : Array Nat} {c fuel i : Nat} {yes : Bool} {sn : Sre.Seen} (h0 : code.getD i 0 = 0) : inSet code c (fuel + 1) i yes sn = .ok (!yes, sn.add 0) := by
  rw [inSet]
  simp only [Nat.add_zero, h0]
  have eo : ops[0]? = some .FAILURE := rfl
  rw [eo]
theorem inSet2 (c : Nat) (sn : Sre.Seen) : ∃ sn', inSet c2 c c2.size 5 true sn = .ok (nl c, sn') := by
  have e : c2.size = 35 + 1 := rfl
  rw [e, inSet_lit rfl]
  have w6 : c2.getD (5 + 1) 0 = 10 := rfl
  by_cases h1 : c = 10
  · subst h1; exact ⟨_, rfl⟩
  · rw [if_neg (by rw [w6]; simpa using h1), inSet_lit rfl]
    have w8 : c2.getD (5 + 2 + 1) 0 = 13 := rfl
    by_cases h2 : c = 13
    · subst h2; exact ⟨_, rfl⟩
    · rw [if_neg (by rw [w8]; simpa using h2), inSet_fail rfl]
      exact ⟨_, by unfold nl; simp [h1, h2]; rfl⟩

section
variable {text : Array Nat} {ls st pc pos hd wt : Nat} {om : Bool} {fr : List Sre.Frame} {sn : Sre.Seen}

theorem match2 {s : Nat} {first : Bool} (hs : s < text.size) (hc : text.getD s 0 = 10 ∨ text.getD s 0 = 13) :
    ∃ m', Rch 40 (mc c2 text text.size text.size s 10 s s first [{ wait := .nextStart, pc := 10, pos := s, outermost := first }] 1 none sn) m' ∧ m'.outcome = some .matched ∧ m'.start = s ∧
      m'.handed = s + (if text.getD s 0 = 13 ∧ s + 1 < text.size ∧ text.getD (s + 1) 0 = 10 then 2 else 1) := by
  -- the ends of the frames
  have fin : ∀ (n pc pos hd : Nat) (om : Bool) (f : Nat) (sn : Sre.Seen), ∃ m', Rch (n + 3) (mc c2 text text.size text.size s pc pos hd om [{ wait := .nextBranch, pc := f, pos := s, outermost := first }, { wait := .nextStart, pc := 10, pos := s, outermost := first }] 2 (some true) sn) m' ∧
      m'.outcome = some .matched ∧ m'.start = s ∧ m'.handed = hd := by
    intro n pc pos hd om f sn
    refine ⟨_, Rch.go rfl answer_branch_yes (Rch.go rfl answer_start_yes (Rch.go rfl answer_end (Rch.here rfl))), rfl, rfl, rfl⟩
  obtain ⟨sn1, e1⟩ := step_branch (code := c2) (text := text) (lim := text.size) (ls := text.size) (st := s) (pc := 10) (pos := s) (hd := s) (om := first) (fr := [{ wait := .nextStart, pc := 10, pos := s, outermost := first }]) (wt := 1) (sn := sn) (by decide) rfl (by decide) (by omega)
  obtain ⟨sn2, e2⟩ := step_lit (code := c2) (text := text) (lim := text.size) (ls := text.size) (st := s) (pc := 12) (pos := s) (hd := s) (om := first) (fr := [{ wait := .nextBranch, pc := 11, pos := s, outermost := first }, { wait := .nextStart, pc := 10, pos := s, outermost := first }]) (wt := 2) (sn := sn1) (c := 13) (by decide) rfl rfl
  rcases hc with hc | hc
  · -- a feed
    have n13 : ¬ (s < text.size ∧ text.getD s 0 = 13) := by rw [hc]; simp
    rw [if_neg n13] at e2
    have e3 := answer_branch_no (code := c2) (text := text) (lim := text.size) (ls := text.size) (st := s) (pc := 12) (pos := s) (hd := s) (om := first) (f := 11) (p := s) (o := first) (fr := [{ wait := .nextStart, pc := 10, pos := s, outermost := first }]) (wt := 1) (sn := sn2) (by omega)
    rw [if_neg (by decide)] at e3
    obtain ⟨sn4, e4⟩ := step_lit (code := c2) (text := text) (lim := text.size) (ls := text.size) (st := s) (pc := 19) (pos := s) (hd := s) (om := first) (fr := [{ wait := .nextBranch, pc := 18, pos := s, outermost := first }, { wait := .nextStart, pc := 10, pos := s, outermost := first }]) (wt := 2) (sn := sn2) (c := 10) (by decide) rfl rfl
    rw [if_pos ⟨hs, hc⟩] at e4
    obtain ⟨sn5, e5⟩ := step_jump (code := c2) (text := text) (lim := text.size) (ls := text.size) (st := s) (pc := 21) (pos := s + 1) (hd := s) (om := first) (fr := [{ wait := .nextBranch, pc := 18, pos := s, outermost := first }, { wait := .nextStart, pc := 10, pos := s, outermost := first }]) (wt := 2) (sn := sn4) (by decide) rfl
    obtain ⟨sn6, e6⟩ := step_success (code := c2) (text := text) (lim := text.size) (ls := text.size) (st := s) (pc := 35) (pos := s + 1) (hd := s) (om := first) (fr := [{ wait := .nextBranch, pc := 18, pos := s, outermost := first }, { wait := .nextStart, pc := 10, pos := s, outermost := first }]) (wt := 2) (sn := sn5) (by decide) rfl
    obtain ⟨m', r, a, b, c⟩ := fin 31 35 (s + 1) (s + 1) first 18 sn6
    refine ⟨m', Rch.go rfl e1 (Rch.go rfl e2 (Rch.go rfl e3 (Rch.go rfl e4 (Rch.go rfl e5 (Rch.go rfl e6 r))))), a, b, ?_⟩
    rw [c, if_neg (fun h => by rw [hc] at h; cases h.1)]
  · -- a return
    rw [if_pos ⟨hs, hc⟩] at e2
    obtain ⟨sn3, e3⟩ := step_lit (code := c2) (text := text) (lim := text.size) (ls := text.size) (st := s) (pc := 14) (pos := s + 1) (hd := s) (om := first) (fr := [{ wait := .nextBranch, pc := 11, pos := s, outermost := first }, { wait := .nextStart, pc := 10, pos := s, outermost := first }]) (wt := 2) (sn := sn2) (c := 10) (by decide) rfl rfl
    by_cases h2 : s + 1 < text.size ∧ text.getD (s + 1) 0 = 10
    · rw [if_pos h2] at e3
      obtain ⟨sn5, e5⟩ := step_jump (code := c2) (text := text) (lim := text.size) (ls := text.size) (st := s) (pc := 16) (pos := s + 1 + 1) (hd := s) (om := first) (fr := [{ wait := .nextBranch, pc := 11, pos := s, outermost := first }, { wait := .nextStart, pc := 10, pos := s, outermost := first }]) (wt := 2) (sn := sn3) (by decide) rfl
      obtain ⟨sn6, e6⟩ := step_success (code := c2) (text := text) (lim := text.size) (ls := text.size) (st := s) (pc := 35) (pos := s + 1 + 1) (hd := s) (om := first) (fr := [{ wait := .nextBranch, pc := 11, pos := s, outermost := first }, { wait := .nextStart, pc := 10, pos := s, outermost := first }]) (wt := 2) (sn := sn5) (by decide) rfl
      obtain ⟨m', r, a, b, c⟩ := fin 32 35 (s + 1 + 1) (s + 1 + 1) first 11 sn6
      refine ⟨m', Rch.go rfl e1 (Rch.go rfl e2 (Rch.go rfl e3 (Rch.go rfl e5 (Rch.go rfl e6 r)))), a, b, ?_⟩
      rw [c, if_pos ⟨hc, h2⟩]
    · rw [if_neg h2] at e3
      have e4 := answer_branch_no (code := c2) (text := text) (lim := text.size) (ls := text.size) (st := s) (pc := 14) (pos := s + 1) (hd := s) (om := first) (f := 11) (p := s) (o := first) (fr := [{ wait := .nextStart, pc := 10, pos := s, outermost := first }]) (wt := 1) (sn := sn3) (by omega)
      rw [if_neg (by decide)] at e4
      obtain ⟨sn5, e5⟩ := step_lit (code := c2) (text := text) (lim := text.size) (ls := text.size) (st := s) (pc := 19) (pos := s) (hd := s) (om := first) (fr := [{ wait := .nextBranch, pc := 18, pos := s, outermost := first }, { wait := .nextStart, pc := 10, pos := s, outermost := first }]) (wt := 2) (sn := sn3) (c := 10) (by decide) rfl rfl
      rw [if_neg (by rw [hc]; simp)] at e5
      have e6 := answer_branch_no (code := c2) (text := text) (lim := text.size) (ls := text.size) (st := s) (pc := 19) (pos := s) (hd := s) (om := first) (f := 18) (p := s) (o := first) (fr := [{ wait := .nextStart, pc := 10, pos := s, outermost := first }]) (wt := 1) (sn := sn5) (by omega)
      rw [if_neg (by decide)] at e6
      obtain ⟨sn7, e7⟩ := step_lit (code := c2) (text := text) (lim := text.size) (ls := text.size) (st := s) (pc := 24) (pos := s) (hd := s) (om := first) (fr := [{ wait := .nextBranch, pc := 23, pos := s, outermost := first }, { wait := .nextStart, pc := 10, pos := s, outermost := first }]) (wt := 2) (sn := sn5) (c := 13) (by decide) rfl rfl
      rw [if_pos ⟨hs, hc⟩] at e7
      obtain ⟨sn8, e8⟩ := step_assertNot (code := c2) (text := text) (lim := text.size) (ls := text.size) (st := s) (pc := 26) (pos := s + 1) (hd := s) (om := first) (fr := [{ wait := .nextBranch, pc := 23, pos := s, outermost := first }, { wait := .nextStart, pc := 10, pos := s, outermost := first }]) (wt := 2) (sn := sn7) (by decide) rfl rfl (by omega)
      obtain ⟨sn9, e9⟩ := step_lit (code := c2) (text := text) (lim := text.size) (ls := text.size) (st := s) (pc := 29) (pos := s + 1) (hd := s + 1) (om := false) (fr := [{ wait := .lookNot, pc := 26, pos := s + 1, outermost := first }, { wait := .nextBranch, pc := 23, pos := s, outermost := first }, { wait := .nextStart, pc := 10, pos := s, outermost := first }]) (wt := 3) (sn := sn8) (c := 10) (by decide) rfl rfl
      rw [if_neg h2] at e9
      have e10 := answer_look_no (code := c2) (text := text) (lim := text.size) (ls := text.size) (st := s) (pc := 29) (pos := s + 1) (hd := s + 1) (om := false) (f := 26) (p := s + 1) (o := first) (fr := [{ wait := .nextBranch, pc := 23, pos := s, outermost := first }, { wait := .nextStart, pc := 10, pos := s, outermost := first }]) (wt := 2) (sn := sn9)
      obtain ⟨sn11, e11⟩ := step_jump (code := c2) (text := text) (lim := text.size) (ls := text.size) (st := s) (pc := 32) (pos := s + 1) (hd := s + 1) (om := first) (fr := [{ wait := .nextBranch, pc := 23, pos := s, outermost := first }, { wait := .nextStart, pc := 10, pos := s, outermost := first }]) (wt := 2) (sn := sn9) (by decide) rfl
      obtain ⟨sn12, e12⟩ := step_success (code := c2) (text := text) (lim := text.size) (ls := text.size) (st := s) (pc := 35) (pos := s + 1) (hd := s + 1) (om := first) (fr := [{ wait := .nextBranch, pc := 23, pos := s, outermost := first }, { wait := .nextStart, pc := 10, pos := s, outermost := first }]) (wt := 2) (sn := sn11) (by decide) rfl
      obtain ⟨m', r, a, b, c⟩ := fin 25 35 (s + 1) (s + 1) first 23 sn12
      refine ⟨m', Rch.go rfl e1 (Rch.go rfl e2 (Rch.go rfl e3 (Rch.go rfl e4 (Rch.go rfl e5 (Rch.go rfl e6 (Rch.go rfl e7 (Rch.go rfl e8 (Rch.go rfl e9 (Rch.go rfl e10 (Rch.go rfl e11 (Rch.go rfl e12 r))))))))))), a, b, ?_⟩
      rw [c, if_neg (fun h => h2 h.2)]
end
end Mine
end

section
namespace Mine
open PySem.Sre

def sn0 : Sre.Seen := ({} : Sre.Seen).add 14
theorem forSearch2 (text : Array Nat) (pos : Nat) : forSearch c2 text 0 pos text.size false =
    if pos > text.size || text.size - pos < 1 then mc c2 text text.size 0 pos 10 pos pos true [] 0 (some false) sn0 else (mc c2 text text.size text.size pos 10 pos pos true [] 0 none sn0).attemptFrom pos true := rfl
theorem forSearch1 (text : Array Nat) (pos : Nat) : forSearch c1 text 0 pos text.size false =
    if pos > text.size || text.size - pos < 1 then mc c1 text text.size 0 pos 5 pos pos true [] 0 (some false) sn0 else (mc c1 text text.size text.size pos 5 pos pos true [] 0 none sn0).attemptFrom pos true := rfl

theorem drop_head {text : Array Nat} {s : Nat} {c : Nat} {r : List Nat} (h : text.toList.drop s = c :: r) : s < text.size ∧ text.getD s 0 = c ∧ text.toList.drop (s + 1) = r := by
  have hs : s < text.toList.length := by
    rcases Nat.lt_or_ge s text.toList.length with h1 | h1
    · exact h1
    · rw [List.drop_of_length_le h1] at h; cases h
  have hs' : s < text.size := by simpa using hs
  refine ⟨hs', ?_, ?_⟩
  · rw [List.drop_eq_getElem_cons hs] at h
    have := (List.cons.inj h).1
    simpa [Array.getD, hs'] using this
  · rw [List.drop_eq_getElem_cons hs] at h
    exact (List.cons.inj h).2
theorem drop_nil {text : Array Nat} {s : Nat} (h : text.toList.drop s = []) : text.size ≤ s := by
  have := List.drop_eq_nil_iff.mp h
  simpa using this

theorem admitted2 (m : Sre.M) (hcode : m.code = c2) (hlim : m.lim = m.text.size) : ∀ (pre rest : List Nat) (s fuel : Nat) (sn : Sre.Seen), m.text.toList.drop s = pre ++ rest → (∀ c ∈ pre, nl c = false) → pre.length + 1 ≤ fuel →
    (rest = [] ∨ ∃ c r, rest = c :: r ∧ nl c = true) → ∃ sn', m.admitted fuel s sn = .ok (if rest = [] then none else some (s + pre.length), sn')
  | [], rest, s, fuel + 1, sn, h, _, _, hr => by
    unfold M.admitted
    rcases hr with rfl | ⟨c, r, rfl, hc⟩
    · have := drop_nil h
      rw [if_pos (by omega)]
      exact ⟨_, rfl⟩
    · obtain ⟨h1, h2, h3⟩ := drop_head h
      rw [if_neg (by omega), hcode, h2]
      obtain ⟨sn', e⟩ := inSet2 c sn
      rw [e, hc]
      exact ⟨_, rfl⟩
  | d :: pre, rest, s, fuel + 1, sn, h, hp, hf, hr => by
    unfold M.admitted
    obtain ⟨h1, h2, h3⟩ := drop_head h
    rw [if_neg (by omega), hcode, h2]
    obtain ⟨sn', e⟩ := inSet2 d sn
    rw [e, hp d List.mem_cons_self]
    obtain ⟨sn'', e2⟩ := admitted2 m hcode hlim pre rest (s + 1) fuel sn' h3 (fun c hc => hp c (List.mem_cons_of_mem _ hc)) (by simp at hf; omega) hr
    refine ⟨sn'', ?_⟩
    dsimp only
    rw [e2]
    by_cases hn : rest = []
    · rw [if_pos hn, if_pos hn]
    · rw [if_neg hn, if_neg hn, List.length_cons]; congr 3; omega

theorem search2 {text : Array Nat} {pos : Nat} {pre rest : List Nat} (h : text.toList.drop pos = pre ++ rest) (hp : ∀ c ∈ pre, nl c = false) (hr : rest = [] ∨ ∃ c r, rest = c :: r ∧ nl c = true) :
    ∃ m', Rch 41 (forSearch c2 text 0 pos text.size false) m' ∧ ((rest = [] ∧ m'.outcome = some .failed) ∨ ∃ c r, rest = c :: r ∧ m'.outcome = some .matched ∧ m'.start = pos + pre.length ∧
      m'.handed = pos + pre.length + (if c = 13 ∧ r.head? = some 10 then 2 else 1)) := by
  rw [forSearch2]
  by_cases hpos : (pos > text.size || text.size - pos < 1) = true
  · rw [if_pos hpos]
    have hge : text.size ≤ pos := by
      rw [Bool.or_eq_true] at hpos
      rcases hpos with q | q
      · have := of_decide_eq_true q; omega
      · have := of_decide_eq_true q; omega
    have hnil : text.toList.drop pos = [] := List.drop_of_length_le (by simpa using hge)
    rw [hnil] at h
    have : rest = [] := (List.append_eq_nil_iff.mp h.symm).2
    exact ⟨_, Rch.go rfl answer_end (Rch.here rfl), .inl ⟨this, rfl⟩⟩
  · rw [if_neg hpos]
    have hlt : pos < text.size := by
      rcases Nat.lt_or_ge pos text.size with q | q
      · exact q
      · exfalso; apply hpos; rw [Bool.or_eq_true]; exact .inr (decide_eq_true (by omega))
    have hlen : pre.length + rest.length = text.size - pos := by
      have := congrArg List.length h
      simp at this; omega
    have e0 : (mc c2 text text.size text.size pos 10 pos pos true [] 0 none sn0).attemptFrom pos true =
        match (mc c2 text text.size text.size pos 10 pos pos true [] 0 none sn0).admitted (text.size + 1 - pos) pos sn0 with
        | .ok (some s, seen) => { mc c2 text text.size text.size pos 10 pos pos true [] 0 none sn0 with mustAdvance := false, seen }.attemptAt s true
        | .ok (none, seen) => { mc c2 text text.size text.size pos 10 pos pos true [] 0 none sn0 with seen }.say false
        | .error why => (mc c2 text text.size text.size pos 10 pos pos true [] 0 none sn0).stick why := rfl
    obtain ⟨sn', e1⟩ := admitted2 (mc c2 text text.size text.size pos 10 pos pos true [] 0 none sn0) rfl rfl pre rest pos (text.size + 1 - pos) sn0 h hp (by omega) hr
    rw [e0, e1]
    rcases hr with rfl | ⟨c, r, rfl, hc⟩
    · rw [if_pos rfl]
      exact ⟨_, Rch.go rfl (answer_end (code := c2) (text := text) (lim := text.size) (ls := text.size) (st := pos) (pc := 10) (pos := pos) (hd := pos) (om := true) (wt := 0) (sn := sn')) (Rch.here rfl), .inl ⟨rfl, rfl⟩⟩
    · rw [if_neg (by simp)]
      have hd : text.toList.drop (pos + pre.length) = c :: r := by
        rw [← List.drop_drop, h]; simp
      obtain ⟨h1, h2, h3⟩ := drop_head hd
      have hc' : text.getD (pos + pre.length) 0 = 10 ∨ text.getD (pos + pre.length) 0 = 13 := by
        rw [h2]; unfold nl at hc; simpa using hc
      obtain ⟨m', q1, q2, q3, q4⟩ := match2 (text := text) (first := true) (sn := sn') h1 hc'
      have e2 : ({ mc c2 text text.size text.size pos 10 pos pos true [] 0 none sn0 with mustAdvance := false, seen := sn' } : Sre.M).attemptAt (pos + pre.length) true =
          mc c2 text text.size text.size (pos + pre.length) 10 (pos + pre.length) (pos + pre.length) true [{ wait := .nextStart, pc := 10, pos := pos + pre.length, outermost := true }] 1 none sn' :=
        attemptAt_mc (code := c2) (text := text) (lim := text.size) (ls := text.size) (st := pos) (pc := 10) (pos := pos) (hd := pos) (om := true) (fr := []) (wt := 0) (sn := sn') (by omega)
      dsimp only
      rw [e2]
      refine ⟨m', q1.more (by omega), .inr ⟨c, r, rfl, q2, q3, ?_⟩⟩
      rw [q4, h2]
      congr 1
      have : (pos + pre.length + 1 < text.size ∧ text.getD (pos + pre.length + 1) 0 = 10) ↔ r.head? = some 10 := by
        cases r with
        | nil =>
          have := drop_nil h3
          simp; omega
        | cons d r =>
          obtain ⟨g1, g2, _⟩ := drop_head h3
          rw [g2]; simp [g1]
      simp only [this]

/-! lines that open with a dot -/
def fl (f : Bool) : List Nat → Bool
  | [] => f
  | c :: r => fl (c == 10) r
def noHit (f : Bool) : List Nat → Bool
  | [] => true
  | c :: r => !(f && c == 46) && noHit (c == 10) r
def flagAt (text : Array Nat) (s : Nat) : Bool := s == 0 || text.getD (s - 1) 0 == 10

theorem search1_at {text : Array Nat} : ∀ (pre rest : List Nat) (s : Nat) (first : Bool) (sn : Sre.Seen) (pos0 : Nat), text.toList.drop s = pre ++ rest → s ≤ text.size → noHit (flagAt text s) pre = true →
    (rest = [] ∨ ∃ r, rest = 46 :: r ∧ fl (flagAt text s) pre = true) →
    ∃ m', Rch (4 * pre.length + 10) (mc c1 text text.size text.size s 5 s s first [{ wait := .nextStart, pc := 5, pos := s, outermost := first }] 1 none sn) m' ∧ ((rest = [] ∧ m'.outcome = some .failed) ∨ ∃ r, rest = 46 :: r ∧ m'.outcome = some .matched ∧ m'.start = s + pre.length ∧ m'.handed = s + pre.length + 1) := by
  intro pre
  induction pre with
  | nil =>
    intro rest s first sn pos0 h hs _ hr
    obtain ⟨sn1, e1⟩ := step_at (code := c1) (text := text) (lim := text.size) (ls := text.size) (st := s) (pc := 5) (pos := s) (hd := s) (om := first) (fr := [{ wait := .nextStart, pc := 5, pos := s, outermost := first }]) (wt := 1) (sn := sn) (by decide) rfl rfl
    rcases hr with rfl | ⟨r, rfl, hf⟩
    · have hge : s = text.size := by have := drop_nil h; omega
      have stop : ∀ (pc : Nat) (sn : Sre.Seen), ∃ m', Rch 8 (mc c1 text text.size text.size s pc s s first [{ wait := .nextStart, pc := 5, pos := s, outermost := first }] 1 (some false) sn) m' ∧ m'.outcome = some .failed := by
        intro pc sn
        have e := answer_start_no (code := c1) (text := text) (lim := text.size) (ls := text.size) (st := s) (pc := pc) (pos := s) (hd := s) (om := first) (fr := []) (wt := 0) (sn := sn) (f := 5) (p := s) (o := first)
        rw [if_neg (by omega)] at e
        exact ⟨_, Rch.go rfl e (Rch.go rfl answer_end (Rch.here rfl)), rfl⟩
      by_cases hL : s = 0 ∨ text.getD (s - 1) 0 = 10
      · rw [if_pos hL] at e1
        obtain ⟨sn2, e2⟩ := step_lit (code := c1) (text := text) (lim := text.size) (ls := text.size) (st := s) (pc := 7) (pos := s) (hd := s) (om := first) (fr := [{ wait := .nextStart, pc := 5, pos := s, outermost := first }]) (wt := 1) (sn := sn1) (c := 46) (by decide) rfl rfl
        rw [if_neg (by omega)] at e2
        obtain ⟨m', r, o⟩ := stop 7 sn2
        exact ⟨m', Rch.go rfl e1 (Rch.go rfl e2 (r.more (by simp))), .inl ⟨rfl, o⟩⟩
      · rw [if_neg hL] at e1
        obtain ⟨m', r, o⟩ := stop 5 sn1
        exact ⟨m', Rch.go rfl e1 (r.more (by simp)), .inl ⟨rfl, o⟩⟩
    · obtain ⟨h1, h2, h3⟩ := drop_head h
      have hL : s = 0 ∨ text.getD (s - 1) 0 = 10 := by simpa [fl, flagAt] using hf
      rw [if_pos hL] at e1
      obtain ⟨sn2, e2⟩ := step_lit (code := c1) (text := text) (lim := text.size) (ls := text.size) (st := s) (pc := 7) (pos := s) (hd := s) (om := first) (fr := [{ wait := .nextStart, pc := 5, pos := s, outermost := first }]) (wt := 1) (sn := sn1) (c := 46) (by decide) rfl rfl
      rw [if_pos ⟨h1, h2⟩] at e2
      obtain ⟨sn3, e3⟩ := step_success (code := c1) (text := text) (lim := text.size) (ls := text.size) (st := s) (pc := 9) (pos := s + 1) (hd := s) (om := first) (fr := [{ wait := .nextStart, pc := 5, pos := s, outermost := first }]) (wt := 1) (sn := sn2) (by decide) rfl
      refine ⟨_, Rch.go rfl e1 (Rch.go rfl e2 (Rch.go rfl e3 (Rch.go rfl answer_start_yes (Rch.go rfl answer_end (Rch.here rfl))))), .inr ⟨r, rfl, rfl, rfl, rfl⟩⟩
  | cons d pre ih =>
    intro rest s first sn pos0 h hs hn hr
    obtain ⟨h1, h2, h3⟩ := drop_head h
    have hn' : ¬ (flagAt text s = true ∧ d = 46) ∧ noHit (d == 10) pre = true := by
      unfold noHit at hn
      rw [Bool.and_eq_true] at hn
      refine ⟨fun q => ?_, hn.2⟩
      have := hn.1
      rw [q.1, q.2] at this; simp at this
    have hfl : flagAt text (s + 1) = (d == 10) := by
      unfold flagAt
      rw [Nat.add_sub_cancel, h2]; simp
    obtain ⟨sn1, e1⟩ := step_at (code := c1) (text := text) (lim := text.size) (ls := text.size) (st := s) (pc := 5) (pos := s) (hd := s) (om := first) (fr := [{ wait := .nextStart, pc := 5, pos := s, outermost := first }]) (wt := 1) (sn := sn) (by decide) rfl rfl
    have next : ∀ (pc : Nat) (sn : Sre.Seen), ∃ m', Rch (4 * pre.length + 11) (mc c1 text text.size text.size s pc s s first [{ wait := .nextStart, pc := 5, pos := s, outermost := first }] 1 (some false) sn) m' ∧
        ((rest = [] ∧ m'.outcome = some .failed) ∨ ∃ r, rest = 46 :: r ∧ m'.outcome = some .matched ∧ m'.start = s + 1 + pre.length ∧ m'.handed = s + 1 + pre.length + 1) := by
      intro pc sn
      have e := answer_start_no (code := c1) (text := text) (lim := text.size) (ls := text.size) (st := s) (pc := pc) (pos := s) (hd := s) (om := first) (fr := []) (wt := 0) (sn := sn) (f := 5) (p := s) (o := first)
      rw [if_pos h1] at e
      have e' : (mc c1 text text.size text.size s 5 s s first [] 0 none sn).attemptFrom (s + 1) false = mc c1 text text.size text.size (s + 1) 5 (s + 1) (s + 1) false [{ wait := .nextStart, pc := 5, pos := s + 1, outermost := false }] 1 none sn :=
        attemptAt_mc (code := c1) (text := text) (lim := text.size) (ls := text.size) (st := s) (pc := 5) (pos := s) (hd := s) (om := first) (fr := []) (wt := 0) (sn := sn) (by omega)
      rw [e'] at e
      obtain ⟨m', r, o⟩ := ih rest (s + 1) false sn 0 h3 (by omega) (by rw [hfl]; exact hn'.2) (by rw [hfl]; exact hr)
      exact ⟨m', Rch.go rfl e r, o⟩
    have elen : s + (d :: pre).length = s + 1 + pre.length := by simp; omega
    rw [elen]
    by_cases hL : s = 0 ∨ text.getD (s - 1) 0 = 10
    · rw [if_pos hL] at e1
      obtain ⟨sn2, e2⟩ := step_lit (code := c1) (text := text) (lim := text.size) (ls := text.size) (st := s) (pc := 7) (pos := s) (hd := s) (om := first) (fr := [{ wait := .nextStart, pc := 5, pos := s, outermost := first }]) (wt := 1) (sn := sn1) (c := 46) (by decide) rfl rfl
      have hfs : flagAt text s = true := by unfold flagAt; simpa using hL
      rw [if_neg (fun q => hn'.1 ⟨hfs, h2 ▸ q.2⟩)] at e2
      obtain ⟨m', r, o⟩ := next 7 sn2
      exact ⟨m', (Rch.go rfl e1 (Rch.go rfl e2 r)).more (by simp; omega), o⟩
    · rw [if_neg hL] at e1
      obtain ⟨m', r, o⟩ := next 5 sn1
      exact ⟨m', (Rch.go rfl e1 r).more (by simp; omega), o⟩

theorem search1 {text : Array Nat} {pos : Nat} {pre rest : List Nat} (h : text.toList.drop pos = pre ++ rest) (hn : noHit (flagAt text pos) pre = true) (hr : rest = [] ∨ ∃ r, rest = 46 :: r ∧ fl (flagAt text pos) pre = true) :
    ∃ m', Rch (4 * pre.length + 10) (forSearch c1 text 0 pos text.size false) m' ∧ ((rest = [] ∧ m'.outcome = some .failed) ∨ ∃ r, rest = 46 :: r ∧ m'.outcome = some .matched ∧ m'.start = pos + pre.length ∧ m'.handed = pos + pre.length + 1) := by
  rw [forSearch1]
  by_cases hpos : (pos > text.size || text.size - pos < 1) = true
  · rw [if_pos hpos]
    have hge : text.size ≤ pos := by
      rw [Bool.or_eq_true] at hpos
      rcases hpos with q | q
      · have := of_decide_eq_true q; omega
      · have := of_decide_eq_true q; omega
    have hnil : text.toList.drop pos = [] := List.drop_of_length_le (by simpa using hge)
    rw [hnil] at h
    have : rest = [] := (List.append_eq_nil_iff.mp h.symm).2
    exact ⟨_, (Rch.go (n := 0) rfl answer_end (Rch.here rfl)).more (by omega), .inl ⟨this, rfl⟩⟩
  · rw [if_neg hpos]
    have hlt : pos < text.size := by
      rcases Nat.lt_or_ge pos text.size with q | q
      · exact q
      · exfalso; apply hpos; rw [Bool.or_eq_true]; exact .inr (decide_eq_true (by omega))
    have e' : (mc c1 text text.size text.size pos 5 pos pos true [] 0 none sn0).attemptFrom pos true = mc c1 text text.size text.size pos 5 pos pos true [{ wait := .nextStart, pc := 5, pos := pos, outermost := true }] 1 none sn0 :=
      attemptAt_mc (code := c1) (text := text) (lim := text.size) (ls := text.size) (st := pos) (pc := 5) (pos := pos) (hd := pos) (om := true) (fr := []) (wt := 0) (sn := sn0) (by omega)
    rw [e']
    exact search1_at pre rest pos true sn0 0 h (by omega) hn hr
end Mine
end

section
namespace Mine
open PySem.Builtin PySem.Builtin.Re

section
variable {M : Model} {A : Around} {E : Value → Shared → Prop} {s : Shared}

/-- a compiled pattern without groups, on texts -/
structure Pat (h : Heap) (pat : Addr) (code : Array Nat) : Prop where
  obj : ∃ f0 f1 t2 f3 f4 ct t6 items n0, h.get? pat = some { cls := .type "re.Pattern", data := .fields #[f0, f1, .int 0 t2, f3, f4, .ref ct, .int 0 t6] } ∧ h.get? ct = some { cls := .type "tuple", data := .seq items n0 } ∧ (items.map reRawOf).map (·.toNat) = code
theorem Pat.keeps {h h' : Heap} {pat : Addr} {code : Array Nat} (p : Pat h pat code) (hk : ∀ b o, h.get? b = some o → (∀ vs n, o ≠ { cls := .type "list", data := .seq vs n }) → h'.get? b = some o) : Pat h' pat code := by
  obtain ⟨f0, f1, t2, f3, f4, ct, t6, items, n0, h1, h2, h3⟩ := p.obj
  exact ⟨f0, f1, t2, f3, f4, ct, t6, items, n0, hk _ _ h1 (fun _ _ e => by simp at e), hk _ _ h2 (fun _ _ e => by simp at e), h3⟩

theorem whole_target {pat : Addr} {text : List Nat} {t : Tok} {code : Array Nat} {Q : ReTarget → Shared → Prop} (hp : Pat s.heap pat code)
    (hq : Q { pattern := .ref pat, string := .str (S text) t, code := code, text := text.toArray, kind := 0, groups := 0, pos := 0, lim := text.toArray.size } s) :
    wpAny M A (reWholeTarget (.ref pat) (.str (S text) t)) Q E s := by
  obtain ⟨f0, f1, t2, f3, f4, ct, t6, items, n0, h1, h2, h3⟩ := hp.obj
  unfold reWholeTarget
  refine wpAny_bind (wpAny_fieldsOf h1 rfl ?_)
  show wpAny M A (reRawItems (.ref ct) >>= fun c => pure ({ pattern := .ref pat, string := .str (S text) t, code := c.map (·.toNat), text := text.toArray, kind := 0, groups := 0, pos := 0, lim := text.toArray.size } : ReTarget)) Q E s
  unfold reRawItems
  refine wpAny_bind (wpAny_bind (wpAny_seqItems h2 rfl (wpAny_pure (wpAny_pure ?_))))
  dsimp only [Option.getD_some]
  rw [h3]
  exact hq

theorem strs_app (l : List (Str × Tok)) (x : Str) (u : Tok) : (strValues l).toArray.push (.str x u) = (strValues (l ++ [(x, u)])).toArray := by
  simp [strValues]
end

section
variable {prog : Program} {w : World} {A : Around} {R : Result → Shared → Prop}

theorem join_nil (l : List (List Nat)) : Txt.join (S []) (l.map S) = S l.flatten := by
  show Builtin.Str.glued (S []) (l.map S) = _
  rw [StrLaws.glued_eq_join]
  have key : ∀ (r : List (List Nat)) (x : List Nat), Str.join (S []) ((x :: r).map S) = S (x ++ r.flatten) := by
    intro r
    induction r with
    | nil => intro x; simp [Str.join]
    | cons y r ih =>
      intro x
      show S x ++ S [] ++ Str.join (S []) ((y :: r).map S) = _
      rw [ih y, S_app, S_app]
      simp
  cases l with
  | nil => rfl
  | cons x r => rw [key]; simp

theorem slice_eq {M : Model} {A : Around} {E : Value → Shared → Prop} {s : Shared} {text : List Nat} {a b : Nat} {Q : Value → Shared → Prop} (hsz : text.length ≤ 100000) (h : Q (.str (S ((text.drop a).take (b - a))) s.toks) { s with toks := s.toks + 1 }) :
    wpAny M A (reSlice text.toArray 0 a b) Q E s := by
  have e : (⟨text.toArray.extract a b⟩ : Str) = S ((text.drop a).take (b - a)) := by
    apply Str.ext'
    simp [S, List.extract_eq_take_drop]
  show wpAny M A (mkStr ⟨text.toArray.extract a b⟩) Q E s
  rw [e]
  refine wpAny_mkStr h ?_
  rw [S_len, List.length_take, List.length_drop, sizeLine_eq]; omega

theorem push_one {M : Model} {A : Around} {E : Value → Shared → Prop} {s : Shared} {D : Addr} {l : List (Str × Tok)} {n : Nat} {x : Str} {u : Tok} {Q : Unit → Shared → Prop} (hl : IsL s.heap D (strValues l).toArray n) (hz : (strValues l).toArray.size ≤ 300000)
    (h : ∀ h' n', IsL h' D (strValues (l ++ [(x, u)])).toArray n' → Heap.SameBut D s.heap h' → Q () { s with heap := h' }) : wpAny M A (updateSeq D fun xs => xs.push (.str x u)) Q E s := by
  refine wpAny_updateSeq hl rfl ?_ (by rw [sizeLine_eq]; omega) (by rw [Array.size_push, sizeLine_eq]; omega)
  have := IsL.update hl (fun xs => xs.push (.str x u))
  rw [strs_app] at this
  exact h _ _ this (Heap.SameBut.update ..)

theorem piece_if {M : Model} {A : Around} {E : Value → Shared → Prop} {s : Shared} {β : Type} {D : Addr} {l : List (Str × Tok)} {n : Nat} {acc : List (List Nat)} {text : List Nat} {a b : Nat} {REST : Sem β} {Q : β → Shared → Prop} (hsz : text.length ≤ 100000)
    (hl : IsL s.heap D (strValues l).toArray n) (hla : l.map (·.1) = acc.map S) (hz : (strValues l).toArray.size ≤ 200000)
    (h : ∀ (s1 : Shared) (l1 : List (Str × Tok)) (n1 : Nat) (acc1 : List (List Nat)), Heap.SameBut D s.heap s1.heap → (∃ h tk, s1 = { s with heap := h, toks := tk }) → IsL s1.heap D (strValues l1).toArray n1 → l1.map (·.1) = acc1.map S → acc1.flatten = acc.flatten ++ (text.drop a).take (b - a) → acc1.length ≤ acc.length + 1 →
      (strValues l1).toArray.size ≤ 200001 → wpAny M A REST Q E s1) :
    wpAny M A (if a < b then (do let x ← reSlice text.toArray 0 a b; updateSeq D (fun xs => xs.push x); REST) else REST) Q E s := by
  by_cases hab : a < b
  · rw [if_pos hab]
    refine wpAny_bind (slice_eq hsz (wpAny_bind (push_one (s := { s with toks := s.toks + 1 }) hl (by omega) fun h' n' hl' hs' => ?_)))
    refine h _ _ n' (acc ++ [(text.drop a).take (b - a)]) hs' ⟨h', _, rfl⟩ hl' (by simp [hla]) (by simp) (by simp) ?_
    simp [strValues] at hz ⊢
    omega
  · rw [if_neg hab]
    refine h s l n acc (.refl ..) ⟨_, _, rfl⟩ hl hla ?_ (by omega) (by omega)
    have : b - a = 0 := by omega
    rw [this]; simp

abbrev loopArgs (pat : Addr) (text : List Nat) (t : Tok) (rp : List Nat) (u : Tok) (cnt : Int) (pos : Nat) (D : Addr) : Args :=
  ⟨[.ref pat, .str (S text) t, .str (S rp) u, rawInt 0, rawInt 0, rawInt cnt, rawInt pos, rawInt pos, .bool false, .ref D, .bool false], []⟩

theorem sub_loop {pat D : Addr} {code : Array Nat} {text rp : List Nat} {t u : Tok} (out : Nat → List Nat) (hsz : text.length ≤ 100000) (hrp : rp.length ≤ 10)
    (hfind : ∀ pos, pos ≤ text.length → ∃ m' n, Rch n (Sre.forSearch code text.toArray 0 pos text.toArray.size false) m' ∧ n < 2 ^ 40 ∧
      ((m'.outcome = some .failed ∧ out pos = text.drop pos) ∨ (m'.outcome = some .matched ∧ pos ≤ m'.start ∧ m'.start < m'.handed ∧ m'.handed ≤ text.length ∧ out pos = (text.drop pos).take (m'.start - pos) ++ rp ++ out m'.handed))) :
    ∀ (k pos : Nat) (cnt : Int) (s : Shared) (l : List (Str × Tok)) (n : Nat) (acc : List (List Nat)), text.length - pos = k → pos ≤ text.length → Pat s.heap pat code → IsL s.heap D (strValues l).toArray n → l.map (·.1) = acc.map S → acc.flatten.length ≤ 20 * pos → acc.length ≤ 2 * pos →
      (∀ s' x, Heap.SameBut D s.heap s'.heap → (∃ h tk, s' = { s with heap := h, toks := tk }) → R (.ok (.ret (.str (S (acc.flatten ++ out pos)) x))) s') →
      codeAny (model prog w) A (.builtin "re.Pattern.sub.loop" (loopArgs pat text t rp u cnt pos D)) R s := by
  intro k
  induction k using Nat.strongRecOn with
  | ind k ih =>
    intro pos cnt s l n acc hk hpos hp hl hla hal hac hR
    obtain ⟨m', nn, hr, hnn, hm⟩ := hfind pos hpos
    refine codeAny_builtin entry_loop ?_
    rw [Around.under_plainId (by decide +kernel)]
    show wpAny _ _ (reWholeTarget (.ref pat) (.str (S text) t) >>= _) _ _ _
    refine wpAny_bind (whole_target hp ?_)
    show wpAny _ _ (reLiteralCannotBeTurned (.str (S rp) u) >>= _) _ _ _
    refine wpAny_bind (wpAny_pure ?_)
    show wpAny _ _ (reRunToEnd (Sre.forSearch code text.toArray 0 pos text.toArray.size false) >>= _) _ _ _
    refine wpAny_bind (run_to_end hr hnn ?_)
    have hlsz : (strValues l).toArray.size ≤ 200000 := by
      have := congrArg List.length hla
      simp at this
      simp [strValues]; omega
    rcases hm with ⟨ho, hout⟩ | ⟨ho, h1, h2, h3, hout⟩
    · refine ⟨_, ho, ?_⟩
      dsimp only
      refine piece_if hsz hl hla hlsz fun s1 l1 n1 acc1 hsb hsame hl1 hla1 hfl hlen hz1 => ?_
      have hfl' : acc1.flatten = acc.flatten ++ out pos := by
        have e2 : ((pos : Int)).toNat = pos := by omega
        rw [hfl, hout, e2, List.take_of_length_le (by simp)]
      refine wpAny_bind (slice_eq hsz ?_)
      refine wpAny_bind (wpAny_seqItems (s := { s1 with toks := s1.toks + 1 }) hl1 rfl ?_)
      have hsame' : ∀ k, ∃ h tk, ({ s1 with toks := k } : Shared) = { s with heap := h, toks := tk } := by
        obtain ⟨h, tk, rfl⟩ := hsame
        exact fun k => ⟨h, k, rfl⟩
      dsimp only [Option.getD_some]
      have e0 : S ((text.drop 0).take (0 - 0)) = S [] := by simp
      rw [e0]
      by_cases hem : (strValues l1).toArray.isEmpty = true
      · rw [if_pos hem]
        refine wpAny_bind (wpAny_pure ?_)
        rw [if_neg (by decide)]
        refine wpAny_pure ?_
        have hn : l1 = [] := by simpa [strValues] using hem
        have ha1 : acc1 = [] := by rw [hn] at hla1; simpa using hla1.symm
        have := hR { s1 with toks := s1.toks + 1 } s1.toks hsb (hsame' _)
        rw [← hfl', ha1] at this
        exact this
      · rw [if_neg hem]
        refine wpAny_bind ?_
        show wpAny _ _ (call (.builtin "str.join") [.str (S []) s1.toks, .ref D]) _ _ _
        refine SC.join (s := { s1 with toks := s1.toks + 1 }) (l := l1) (texts := acc1.map S) hl1.isList hla1 ?_ fun t' k => ?_
        · have hlf : acc1.flatten.length ≤ 2100000 := by
            rw [hfl, List.length_append, List.length_take, List.length_drop]; omega
          unfold JoinOk
          rw [StrLaws.joinTotal]
          have e : ((acc1.map S).map (·.length)).sum = acc1.flatten.length := by
            rw [List.map_map, List.length_flatten]
            congr 1
          rw [e, S_len]
          unfold Builtin.Str.tooLong
          rw [Bool.not_eq_true']
          refine decide_eq_false ?_
          rw [sizeLine_eq]
          have : (([] : List Nat).length) = 0 := rfl
          rw [this]; omega
        · rw [if_neg (by decide)]
          refine wpAny_pure ?_
          rw [join_nil, hfl']
          exact hR _ t' hsb (by obtain ⟨h, tk, rfl⟩ := hsame; exact ⟨h, k, rfl⟩)
    · refine ⟨_, ho, ?_⟩
      dsimp only
      have epos : ((pos : Int)).toNat = pos := by omega
      refine piece_if hsz hl hla hlsz fun s1 l1 n1 acc1 hsb hsame hl1 hla1 hfl hlen hz1 => ?_
      rw [if_pos (by decide)]
      refine wpAny_bind (wpAny_pure ?_)
      rw [if_pos (by rfl)]
      refine wpAny_bind (push_one hl1 (by omega) fun h' n' hl' hs' => wpAny_pure ⟨Code.quiet_builtin _ (by decide +kernel), ?_⟩)
      have em : (m'.handed == m'.start) = false := by simpa using Nat.ne_of_gt h2
      rw [em]
      have hsb' : Heap.SameBut D s.heap h' := hsb.trans hs'
      refine ih (text.length - m'.handed) (by omega) m'.handed (cnt + 1) { s1 with heap := h' } (l1 ++ [(S rp, u)]) n' (acc1 ++ [rp]) rfl h3 (hp.keeps fun b o e hb => (hsb'.2 b fun q => hb _ _ (by rw [q, hl] at e; cases e; rfl)).trans e) hl' (by simp [hla1]) ?_ ?_ fun s' x hs'' hsm => ?_
      · rw [List.flatten_append, hfl]
        simp only [List.flatten_cons, List.flatten_nil, List.append_nil, List.length_append, List.length_take, List.length_drop]
        omega
      · simp; omega
      · have := hR s' x (hsb'.trans hs'') (by
          obtain ⟨h0, tk0, rfl⟩ := hsame
          obtain ⟨h2, tk2, rfl⟩ := hsm
          exact ⟨h2, tk2, rfl⟩)
        rw [hout] at this
        rw [List.flatten_append, hfl]
        simpa [List.append_assoc] using this
end
end Mine
end

section
namespace Mine
open PySem.Builtin PySem.Builtin.Re

/-- every end of a line as 13, 10; `b`: the sign ahead is a 13 -/
def nrm (b : Bool) : List Nat → List Nat
  | [] => []
  | c :: r => if c = 10 then (if b then nrm false r else 13 :: 10 :: nrm false r) else if c = 13 then 13 :: 10 :: nrm true r else c :: nrm false r
/-- a dot ahead of every dot at a line's front; `f`: we are at a line's front -/
def qt (f : Bool) : List Nat → List Nat
  | [] => []
  | c :: r => if f && c == 46 then 46 :: 46 :: qt false r else c :: qt (c == 10) r
def quoted (x : List Nat) : List Nat := qt true (nrm false x)

theorem nrm_len : ∀ (b : Bool) (l : List Nat), (nrm b l).length ≤ 2 * l.length := by
  intro b l
  induction l generalizing b with
  | nil => simp [nrm]
  | cons c r ih =>
    unfold nrm
    have h1 := ih false
    have h2 := ih true
    simp only [List.length_cons]
    split
    · split
      · omega
      · simp only [List.length_cons]; omega
    · split
      · simp only [List.length_cons]; omega
      · simp only [List.length_cons]; omega
theorem qt_len : ∀ (b : Bool) (l : List Nat), (qt b l).length ≤ 2 * l.length := by
  intro b l
  induction l generalizing b with
  | nil => simp [qt]
  | cons c r ih =>
    unfold qt
    have h1 := ih false
    have h2 := ih (c == 10)
    simp only [List.length_cons]
    split <;> simp only [List.length_cons] <;> omega
theorem quoted_len (l : List Nat) : (quoted l).length ≤ 4 * l.length := by
  have := qt_len true (nrm false l); have := nrm_len false l
  unfold quoted; omega

theorem nl_iff (c : Nat) : nl c = true ↔ c = 10 ∨ c = 13 := by
  simp [nl]
theorem nrm_pre (pre rest : List Nat) (h : ∀ c ∈ pre, nl c = false) : nrm false (pre ++ rest) = pre ++ nrm false rest := by
  induction pre with
  | nil => rfl
  | cons c r ih =>
    have hc := h c (by simp)
    have : ¬ (c = 10) ∧ ¬ (c = 13) := by
      have : ¬ (c = 10 ∨ c = 13) := fun h => by rw [(nl_iff c).mpr h] at hc; cases hc
      exact not_or.mp this
    rw [List.cons_append, nrm, if_neg this.1, if_neg this.2, ih fun d hd => h d (by simp [hd])]
    rfl
theorem nrm_true {r : List Nat} (h : r.head? ≠ some 10) : nrm true r = nrm false r := by
  cases r with
  | nil => rfl
  | cons c r =>
    have : ¬ c = 10 := by simpa using h
    simp [nrm, this]

theorem split2 (l : List Nat) : ∃ pre rest, l = pre ++ rest ∧ (∀ c ∈ pre, nl c = false) ∧ (rest = [] ∨ ∃ c r, rest = c :: r ∧ nl c = true) := by
  induction l with
  | nil => exact ⟨[], [], rfl, by simp, .inl rfl⟩
  | cons c r ih =>
    by_cases hc : nl c = true
    · exact ⟨[], c :: r, rfl, by simp, .inr ⟨c, r, rfl, hc⟩⟩
    · obtain ⟨pre, rest, e, h1, h2⟩ := ih
      exact ⟨c :: pre, rest, by rw [e]; rfl, by simpa [hc] using h1, h2⟩

theorem find2 {text : List Nat} (hsz : text.length ≤ 100000) (pos : Nat) (hpos : pos ≤ text.length) : ∃ m' n, Rch n (Sre.forSearch c2 text.toArray 0 pos text.toArray.size false) m' ∧ n < 2 ^ 40 ∧
      ((m'.outcome = some .failed ∧ nrm false (text.drop pos) = text.drop pos) ∨ (m'.outcome = some .matched ∧ pos ≤ m'.start ∧ m'.start < m'.handed ∧ m'.handed ≤ text.length ∧ nrm false (text.drop pos) = (text.drop pos).take (m'.start - pos) ++ [13, 10] ++ nrm false (text.drop m'.handed))) := by
  obtain ⟨pre, rest, e, h1, h2⟩ := split2 (text.drop pos)
  obtain ⟨m', hr, hm⟩ := search2 (text := text.toArray) (pos := pos) e h1 h2
  refine ⟨m', 41, hr, by decide, ?_⟩
  have hlen := congrArg List.length e
  rw [List.length_drop, List.length_append] at hlen
  rcases hm with ⟨q, ho⟩ | ⟨c, r, q, ho, hst, hha⟩
  · left
    refine ⟨ho, ?_⟩
    rw [e, q, nrm_pre _ _ h1]; rfl
  · right
    have hlr : rest.length = r.length + 1 := by rw [q]; rfl
    have hnl : nl c = true := by
      rcases h2 with h | ⟨c', r', h, h'⟩
      · rw [h] at q; cases q
      · rw [h] at q; cases q; exact h'
    have hdr : ∀ n, text.drop (pos + pre.length + n) = rest.drop n := by
      intro n
      rw [show pos + pre.length + n = pos + (pre.length + n) by omega, ← List.drop_drop, e]
      rw [← List.drop_drop, List.drop_left]
    refine ⟨ho, by omega, ?_, ?_, ?_⟩
    · rw [hst, hha]; split <;> omega
    · rw [hha]
      split
      · rename_i hc
        have : 1 ≤ r.length := by cases r with | nil => simp at hc | cons => simp
        omega
      · omega
    · rw [e, nrm_pre _ _ h1, hst]
      have et : (pre ++ rest).take (pos + pre.length - pos) = pre := by
        rw [show pos + pre.length - pos = pre.length by omega]; simp
      rw [et, hha, List.append_assoc]
      congr 1
      rw [hdr, q]
      split
      · rename_i hc
        obtain ⟨rfl, hh⟩ := hc
        cases r with
        | nil => simp at hh
        | cons d r =>
          have : d = 10 := by simpa using hh
          subst this
          simp [nrm]
      · rename_i hc
        rw [List.drop_one, List.tail_cons]
        rcases (nl_iff c).mp hnl with rfl | rfl
        · simp [nrm]
        · rw [nrm, if_neg (by decide), if_pos rfl, nrm_true (fun h => hc ⟨rfl, h⟩)]
          rfl

theorem qt_pre : ∀ (pre rest : List Nat) (f : Bool), noHit f pre = true → qt f (pre ++ rest) = pre ++ qt (fl f pre) rest := by
  intro pre
  induction pre with
  | nil => intro rest f _; rfl
  | cons c r ih =>
    intro rest f h
    rw [noHit, Bool.and_eq_true] at h
    have h1 : (f && c == 46) = false := by have := h.1; revert this; cases (f && c == 46) <;> simp
    rw [List.cons_append, qt, if_neg (by simp [h1]), ih rest _ h.2]
    rfl
theorem split1 (l : List Nat) : ∀ f, ∃ pre rest, l = pre ++ rest ∧ noHit f pre = true ∧ (rest = [] ∨ ∃ r, rest = 46 :: r ∧ fl f pre = true) := by
  induction l with
  | nil => exact fun f => ⟨[], [], rfl, rfl, .inl rfl⟩
  | cons c r ih =>
    intro f
    by_cases hc : (f && c == 46) = true
    · rw [Bool.and_eq_true] at hc
      have h2 : c = 46 := by simpa using hc.2
      subst h2
      exact ⟨[], 46 :: r, rfl, rfl, .inr ⟨r, rfl, hc.1⟩⟩
    · obtain ⟨pre, rest, e, h1, h2⟩ := ih (c == 10)
      refine ⟨c :: pre, rest, by rw [e]; rfl, ?_, ?_⟩
      · rw [noHit, h1]; revert hc; cases (f && c == 46) <;> simp
      · rcases h2 with h | ⟨r', h, h'⟩
        · exact .inl h
        · exact .inr ⟨r', h, h'⟩

theorem find1 {text : List Nat} (hsz : text.length ≤ 100000) (pos : Nat) (hpos : pos ≤ text.length) : ∃ m' n, Rch n (Sre.forSearch c1 text.toArray 0 pos text.toArray.size false) m' ∧ n < 2 ^ 40 ∧
      ((m'.outcome = some .failed ∧ qt (flagAt text.toArray pos) (text.drop pos) = text.drop pos) ∨ (m'.outcome = some .matched ∧ pos ≤ m'.start ∧ m'.start < m'.handed ∧ m'.handed ≤ text.length ∧ qt (flagAt text.toArray pos) (text.drop pos) = (text.drop pos).take (m'.start - pos) ++ [46, 46] ++ qt (flagAt text.toArray m'.handed) (text.drop m'.handed))) := by
  obtain ⟨pre, rest, e, h1, h2⟩ := split1 (text.drop pos) (flagAt text.toArray pos)
  obtain ⟨m', hr, hm⟩ := search1 (text := text.toArray) (pos := pos) e h1 h2
  have hlen := congrArg List.length e
  rw [List.length_drop, List.length_append] at hlen
  refine ⟨m', _, hr, by omega, ?_⟩
  rcases hm with ⟨q, ho⟩ | ⟨r, q, ho, hst, hha⟩
  · left
    refine ⟨ho, ?_⟩
    rw [e, q, qt_pre _ _ _ h1]; rfl
  · right
    have hlr : rest.length = r.length + 1 := by rw [q]; rfl
    have hfl : fl (flagAt text.toArray pos) pre = true := by
      rcases h2 with h | ⟨r', h, h'⟩
      · rw [h] at q; cases q
      · exact h'
    have hdr : ∀ n, text.drop (pos + pre.length + n) = rest.drop n := by
      intro n
      rw [show pos + pre.length + n = pos + (pre.length + n) by omega, ← List.drop_drop, e]
      rw [← List.drop_drop, List.drop_left]
    refine ⟨ho, by omega, by omega, by omega, ?_⟩
    have hfd : flagAt text.toArray m'.handed = false := by
      have h0 := hdr 0
      rw [Nat.add_zero, List.drop_zero, q] at h0
      obtain ⟨_, g, _⟩ := drop_head (text := text.toArray) h0
      rw [hha]
      unfold flagAt
      rw [show pos + pre.length + 1 - 1 = pos + pre.length by omega, g]
      simp
    rw [hfd, e, qt_pre _ _ _ h1, hst]
    have et : (pre ++ rest).take (pos + pre.length - pos) = pre := by
      rw [show pos + pre.length - pos = pre.length by omega]; simp
    rw [et, hha, List.append_assoc, hdr, q, hfl, List.drop_one, List.tail_cons]
    rfl
end Mine
end

section
namespace Mine
open PySem.Builtin PySem.Builtin.Re

section
variable {prog : Program} {w : World} {A : Around} {R : Result → Shared → Prop}

theorem sub_call {E : Value → Shared → Prop} {s : Shared} {Q : Value → Shared → Prop} {pat : Addr} {code : Array Nat} {text rp : List Nat} {t u : Tok} (out : Nat → List Nat) (hsz : text.length ≤ 100000) (hrp : rp.length ≤ 10) (h92 : (S rp).cps.contains 92 = false)
    (hfind : ∀ pos, pos ≤ text.length → ∃ m' n, Rch n (Sre.forSearch code text.toArray 0 pos text.toArray.size false) m' ∧ n < 2 ^ 40 ∧
      ((m'.outcome = some .failed ∧ out pos = text.drop pos) ∨ (m'.outcome = some .matched ∧ pos ≤ m'.start ∧ m'.start < m'.handed ∧ m'.handed ≤ text.length ∧ out pos = (text.drop pos).take (m'.start - pos) ++ rp ++ out m'.handed)))
    (hp : Pat s.heap pat code) (hq : ∀ x s', Kp s s' → Q (.str (S (out 0)) x) s') :
    wpAny (model prog w) A (call (.builtin "re.Pattern.sub") [.ref pat, .str (S rp) u, .str (S text) t]) Q E s := by
  obtain ⟨f0, f1, t2, f3, f4, ct, t6, items, n0, h1, h2, h3⟩ := hp.obj
  refine wpAny_call (codeAny_call_builtin slot_sub.plain entry_sub (slot_sub.check _ _ _ _ _ _ _ _ ⟨_, h1, rfl⟩ (args_sub _ _ _) ?_))
  show wpAny _ _ (reSubstitute "re.Pattern.sub" "sub" false ⟨[.ref pat, .str (S rp) u, .str (S text) t], []⟩) _ _ s
  unfold reSubstitute
  dsimp only
  refine wpAny_bind (wpAny_of_eq (a := [some (.str (S rp) u), some (.str (S text) t), none]) rfl ?_)
  refine wpAny_bind (wpAny_pure ?_)
  refine wpAny_bind (wpAny_specialOf_val (T := "str") rfl str_no_call ?_)
  rw [if_neg (by decide)]
  refine wpAny_bind (wpAny_of_eq (a := some (S rp)) rfl ?_)
  dsimp only
  rw [h92]
  refine wpAny_bind (wpAny_pure ?_)
  rw [if_neg (by decide), if_pos (by decide)]
  refine wpAny_bind (wpAny_pure ?_)
  dsimp only
  refine wpAny_bind (wpAny_holding (whole_target hp ?_))
  rw [if_neg (by decide)]
  refine wpAny_bind (wpAny_newList ?_ (by rw [sizeLine_eq]; decide))
  refine wpAny_pure ⟨Code.quiet_builtin _ (by decide +kernel), ?_⟩
  have hl : IsL (s.heap.push { cls := .type "list", data := .seq #[] }) s.heap.objs.size (strValues []).toArray 0 := by
    exact Heap.get?_push_size _ rfl
  refine sub_loop (D := s.heap.objs.size) (code := code) (text := text) (rp := rp) (t := t) (u := u) out hsz hrp hfind _ 0 0 _ [] 0 [] rfl (by omega) (hp.keeps fun b o e _ => Heap.get?_push_of_some _ e) hl rfl (by simp) (by simp) fun s' x hsb hs' => ?_
  obtain ⟨h, tk, rfl⟩ := hs'
  refine hq x _ (.of fun b o e => ?_)
  have hb : b ≠ s.heap.objs.size := fun q => by
    have := Heap.lt_size e
    rw [q] at this
    exact Nat.lt_irrefl _ this
  exact (hsb.2 b hb).trans (Heap.get?_push_of_some _ e)
end
end Mine
end

section
namespace Mine
open PySem.Builtin PySem.Builtin.Re

section
variable {prog : Program} {w : World} {A : Around} {env : Env} {X : Addr → Prop} {s : Shared} {K : Frag}

theorem Ev.resub {x : Str} {p apos pos : Pos} {e1 e2 : Expr} {pat : Addr} {code : Array Nat} {rp text : List Nat} {out : List Nat → Nat → List Nat} (ok : Ok K A env X s) (hx : env.kindOf x = some .globalImplicit) (hg : nsIn K mainGlobals x = some (some (.ref pat)))
    (hp : ∀ h, K.In h → Pat h pat code) (h92 : (S rp).cps.contains 92 = false) (hrp : rp.length ≤ 10) (hsz : text.length ≤ 100000)
    (hfind : ∀ pos, pos ≤ text.length → ∃ m' n, Rch n (Sre.forSearch code text.toArray 0 pos text.toArray.size false) m' ∧ n < 2 ^ 40 ∧
      ((m'.outcome = some .failed ∧ out text pos = text.drop pos) ∨ (m'.outcome = some .matched ∧ pos ≤ m'.start ∧ m'.start < m'.handed ∧ m'.handed ≤ text.length ∧ out text pos = (text.drop pos).take (m'.start - pos) ++ rp ++ out text m'.handed)))
    (h1 : Ev prog w A env X s e1 (.str (S rp))) (h2 : Ev prog w A env X s e2 (.str (S text)))
    (hbase : attributeBase (.Name x p) "sub" env (eval (.Name x p) env) = eval (.Name x p) env := by rfl)
    (hfew : ((backTo pos (starEach [e1, e2] env)).all (fun x => !x.1) && (backToKw pos (keywordEach [] env)).all (fun x => x.1.isSome)
      && decide ([e1, e2].length + ([] : List Keyword).length + (if ([] : List Keyword).isEmpty then 0 else 1) < 30)) = true := by rfl)
    (hline : (apos.endLine == pos.line) = true := by rfl)
    (he : starEach [e1, e2] env = (false, eval e1 env) :: starEach [e2] env := by rfl) (he2 : starEach [e2] env = (false, eval e2 env) :: starEach [] env := by rfl) (hplain : (backTo pos (starEach [e2] env)).any (·.1) = false := by rfl) (hd : (x == ("__debug__" : Str)) = false := by decide) :
    Ev prog w A env X s (.Call (.Attribute (.Name x p) "sub" apos) [e1, e2] [] pos) (.str (S (out text 0))) := fun s₁ k1 Q E hq =>
  wpAny_Call_method_lateS hbase hfew hline (eval_global (ok.keeps k1) hx hg (by
    have hP := hp _ (ok.keeps k1).ge.inK
    obtain ⟨f0, f1, t2, f3, f4, ct, t6, items, n0, g1, g2, g3⟩ := hP.obj
    refine ⟨"re.Pattern", "re.Pattern.sub", plainAttrs_pat, slot_sub, type_sub, ⟨_, g1, rfl⟩, (fun a e => ⟨_, by cases e; exact g1, rfl⟩), ?_⟩
    have ha : EvAll prog w A env X s [e1, e2] [.str (S rp), .str (S text)] := .cons h1 (.cons h2 .nil he2) he
    have hx := ha s₁ k1 pos (fun vs s₃ => wpAny (model prog w) A (PySem.call (.builtin "re.Pattern.sub") (.ref pat :: vs)) Q E s₃) E fun vs s₃ k3 r3 => by
      match vs, r3 with
      | [v1, v2], .cons r1 (.cons r2 .nil) =>
        obtain ⟨u, rfl⟩ := r1.str_inv
        obtain ⟨t, rfl⟩ := r2.str_inv
        exact sub_call (out text) hsz hrp h92 hfind (hp _ ((ok.keeps k1).keeps k3).ge.inK) fun x s' k' => hq _ _ (k3.trans k') (.str _ _)
    rw [he] at hx ⊢
    exact Calls.callWith_builtin (by show (false || (backTo pos (starEach [e2] env)).any (·.1)) = false; rw [hplain]; rfl) (Calls.evalArgs_plain hx)) hd)
end

theorem S_dots2 : (Str.ofString "..") = S [46, 46] := by decide +kernel
theorem pat1 {P : Params} {h : Heap} (hk : (hd2.heap_39 P).In h) : Pat h 36 c1 :=
  ⟨⟨_, _, _, _, _, 35, _, _, _, hk 36 _ rfl, hk 35 _ rfl, by decide +kernel⟩⟩
theorem pat2 {P : Params} {h : Heap} (hk : (hd2.heap_39 P).In h) : Pat h 41 c2 :=
  ⟨⟨_, _, _, _, _, 40, _, _, _, hk 41 _ rfl, hk 40 _ rfl, by decide +kernel⟩⟩

theorem fn_quote {prog : Program} {w : World} {P : Params} (x : List Nat) (hl : x.length ≤ 50000) :
    Fn prog w (hd2.heap_39 P) (.ref 48) 3 [.str (S x)] (.str (S (quoted x))) := by
  refine fn_of (ps := ["data"]) rfl rfl rfl rfl rfl rfl rfl rfl (by omega) rfl rfl rfl (fun vs hvs => by match vs, hvs with | [v], _ => rfl) (by decide) rfl (by decide) (by decide) ?_
  intro A env X₀ s₀ s he hA st E
  have hn := nrm_len false x
  refine run_return (d := .str (S (quoted x))) st (Ev.resub (pat := 36) (code := c1) (rp := [46, 46]) (text := nrm false x) (out := fun t p => qt (flagAt t.toArray p) (t.drop p)) st.ok (kind_of he rfl) rfl (fun h hk => pat1 hk) (by decide +kernel) (by decide) (by omega) (fun pos hpos => find1 (by omega) pos hpos) (Ev.cast Ev.str (by rw [S_dots2]))
    (Ev.resub (pat := 41) (code := c2) (rp := [13, 10]) (text := x) (out := fun t p => nrm false (t.drop p)) st.ok (kind_of he rfl) rfl (fun h hk => pat2 hk) (by decide +kernel) (by decide) (by omega) (fun pos hpos => find2 (by omega) pos hpos) (Ev.cast (Ev.global_str st.ok (kind_of he rfl) rfl) (by rw [S_crlf])) (Ev.var st rfl))) fun v s st r => ret_ok st r
end Mine
end

section
namespace Mine
open PySem.Builtin PySem.Builtin.Str

/-! where a text lies in another -/
def atL (x y : List Nat) (hi i : Nat) : Prop := i + y.length ≤ hi ∧ (x.drop i).take y.length = y
theorem subAt_iff (x y : List Nat) (i : Nat) : subAt (S x) (S y) i = true ↔ (x.drop i).take y.length = y := by
  unfold subAt
  rw [S_len, beq_iff_eq]
  constructor
  · intro h
    have := congrArg Array.toList h
    simpa [S, List.extract_eq_take_drop] using this
  · intro h
    apply Array.toList_inj.mp
    simpa [S, List.extract_eq_take_drop] using h
theorem at_iff (x y : List Nat) (hi i : Nat) : StrLaws.At (S x) (S y) hi i ↔ atL x y hi i := by
  unfold StrLaws.At atL
  rw [S_len, subAt_iff]

def fnd (x y : List Nat) (lo hi : Nat) : Option Nat := (occurrences (S x) (S y) lo hi 1).head?

theorem range_split {lo n a : Nat} {pre post : List Nat} (h : List.range' lo n = pre ++ a :: post) : lo ≤ a ∧ ∀ k, lo ≤ k → k < a → k ∈ pre := by
  have hL : n = pre.length + (post.length + 1) := by
    have := congrArg List.length h
    simpa using this
  have hlen : lo + pre.length = a := by
    have h1 : (List.range' lo n)[pre.length]? = some a := by rw [h]; simp
    rw [List.getElem?_range'] at h1
    · simpa using h1
    · omega
  refine ⟨by omega, fun k h1 h2 => ?_⟩
  have h3 : (List.range' lo n)[k - lo]? = pre[k - lo]? := by rw [h, List.getElem?_append_left (by omega)]
  rw [List.getElem?_range'] at h3
  · have h4 : pre[k - lo]? = some k := by rw [← h3]; simp; omega
    exact List.mem_of_getElem? h4
  · omega

theorem fnd_spec (x y : List Nat) (lo hi : Nat) : (fnd x y lo hi = none ∧ ∀ i, lo ≤ i → ¬ atL x y hi i) ∨ ∃ i, fnd x y lo hi = some i ∧ lo ≤ i ∧ atL x y hi i ∧ ∀ k, lo ≤ k → k < i → ¬ atL x y hi k := by
  unfold fnd
  rw [StrLaws.occ_eq]
  rcases StrLaws.occ_first (S x) (S y) hi 1 (by omega) (List.range' lo (hi + 1 - lo)) lo (fun i h => by have := List.mem_range'_1.mp h; omega) with ⟨h1, h2⟩ | ⟨pre, a, post, e, h1, h2, h3⟩
  · left
    refine ⟨by rw [h1]; rfl, fun i hi' ha => h2 i ?_ ((at_iff ..).mpr ha)⟩
    rw [List.mem_range'_1]
    have := ha.1
    omega
  · right
    obtain ⟨g1, g2⟩ := range_split e
    refine ⟨a, by rw [List.head?_eq_getElem?, Array.getElem?_toList]; exact h1, g1, (at_iff ..).mp h2, fun k hk1 hk2 ha => h3 k (g2 k hk1 hk2) ((at_iff ..).mpr ha)⟩

/-! three dots -/
def pre3 (l : List Nat) : Bool := l.take 3 == [46, 46, 46]
def cuts : List Nat → Nat → Nat → List Nat
  | [], _, _ => []
  | _ :: r, i, k + 1 => cuts r (i + 1) k
  | c :: r, i, 0 => if pre3 (c :: r) then i :: cuts r (i + 1) 2 else cuts r (i + 1) 0

theorem pre3_len {l : List Nat} (h : pre3 l = true) : 3 ≤ l.length := by
  unfold pre3 at h
  have := congrArg List.length (eq_of_beq h)
  simp at this
  omega

theorem occ_cuts (x : List Nat) (limit : Nat) (hlim : x.length < limit) : ∀ (l : List Nat) (i free : Nat) (acc : Array Nat), x.drop i = l → i ≤ x.length → acc.size ≤ i →
    (forIn (List.range' i (x.length + 1 - i)) (acc, free) (StrLaws.occBody (S x) (S [46, 46, 46]) x.length limit)).run.fst.toList = acc.toList ++ cuts l i (free - i) := by
  intro l
  induction l with
  | nil =>
    intro i free acc hl hi hacc
    have : i = x.length := by have := congrArg List.length hl; simp at this; omega
    subst this
    rw [show x.length + 1 - x.length = 1 by omega]
    simp only [List.range'_one, List.forIn_cons, StrLaws.occBody]
    rw [if_neg (by rintro ⟨⟨_, h⟩, _⟩; rw [S_len] at h; simp at h; omega)]
    simp [cuts]
  | cons c r ih =>
    intro i free acc hl hi hacc
    have hlen : x.length = i + (r.length + 1) := by have := congrArg List.length hl; simp at this; omega
    have hr : x.drop (i + 1) = r := by rw [← List.drop_drop, hl]; rfl
    rw [show x.length + 1 - i = (x.length + 1 - (i + 1)) + 1 by omega, List.range'_succ, List.forIn_cons]
    unfold StrLaws.occBody
    cases hk : free - i with
    | succ k =>
      rw [if_neg (by rintro ⟨⟨⟨_, h⟩, _⟩, _⟩; simp at h; omega)]
      have := ih (i + 1) free acc hr (by omega) (by omega)
      rw [show free - (i + 1) = k by omega] at this
      exact this
    | zero =>
      by_cases hp : pre3 (c :: r) = true
      · have h3 := pre3_len hp
        rw [if_pos ⟨⟨⟨by simp; omega, by simp; omega⟩, by rw [S_len]; simp at h3 ⊢; omega⟩, by rw [subAt_iff, hl]; exact eq_of_beq hp⟩]
        have := ih (i + 1) (i + 3) (acc.push i) hr (by omega) (by simp; omega)
        rw [show i + 3 - (i + 1) = 2 by omega] at this
        rw [cuts, if_pos hp]
        refine Eq.trans this ?_
        simp
      · rw [if_neg (by
          rintro ⟨_, h⟩
          rw [subAt_iff, hl] at h
          exact hp (beq_iff_eq.mpr h))]
        have := ih (i + 1) free acc hr (by omega) (by omega)
        rw [show free - (i + 1) = 0 by omega] at this
        rw [cuts, if_neg hp]
        exact this

theorem occ_dots (x : List Nat) : occurrences (S x) (S [46, 46, 46]) 0 (S x).length ((S x).length + 1) = cuts x 0 0 := by
  rw [StrLaws.occ_eq, S_len]
  have := occ_cuts x (x.length + 1) (by omega) x 0 0 #[] rfl (by omega) (by simp)
  simpa using this

/-! the pieces between them -/
def hcons (p : List Nat) : List (List Nat) → List (List Nat)
  | [] => [p]
  | q :: r => (p ++ q) :: r
def pk : List Nat → Nat → List (List Nat)
  | [], _ => [[]]
  | _ :: r, k + 1 => pk r k
  | c :: r, 0 => if pre3 (c :: r) then [] :: pk r 2 else hcons [c] (pk r 0)
def parts (x : List Nat) : Nat → List Nat → List (List Nat)
  | st, [] => [x.drop st]
  | st, c :: cs => ((x.drop st).take (c - st)) :: parts x (c + 3) cs
theorem pk_ne : ∀ (l : List Nat) (k : Nat), pk l k ≠ [] := by
  intro l
  induction l with
  | nil => intro k; simp [pk]
  | cons c r ih =>
    intro k
    cases k with
    | succ k => exact ih k
    | zero =>
      rw [pk]; split
      · simp
      · cases h : pk r 0 <;> simp [hcons]
theorem hcons_hcons (a b : List Nat) (l : List (List Nat)) : hcons a (hcons b l) = hcons (a ++ b) l := by
  cases l <;> simp [hcons]
theorem parts_pk (x : List Nat) : ∀ (l : List Nat) (i : Nat), x.drop i = l → i ≤ x.length →
    (∀ st, st ≤ i → parts x st (cuts l i 0) = hcons ((x.drop st).take (i - st)) (pk l 0)) ∧ ∀ k, i + k ≤ x.length → parts x (i + k) (cuts l i k) = pk l k := by
  intro l
  induction l with
  | nil =>
    intro i hl hi
    have hx : i = x.length := by have := congrArg List.length hl; simp at this; omega
    subst hx
    refine ⟨fun st hst => ?_, fun k hk => ?_⟩
    · simp only [cuts, parts, pk, hcons, List.append_nil]
      rw [List.take_of_length_le (by simp)]
    · have : k = 0 := by omega
      subst this
      simp [cuts, parts, pk]
  | cons c r ih =>
    intro i hl hi
    have hlen : x.length = i + (r.length + 1) := by have := congrArg List.length hl; simp at this; omega
    have hr : x.drop (i + 1) = r := by rw [← List.drop_drop, hl]; rfl
    obtain ⟨h1, h2⟩ := ih (i + 1) hr (by omega)
    have first : ∀ st, st ≤ i → parts x st (cuts (c :: r) i 0) = hcons ((x.drop st).take (i - st)) (pk (c :: r) 0) := by
      intro st hst
      rw [cuts, pk]
      by_cases hp : pre3 (c :: r) = true
      · have h3 := pre3_len hp
        rw [if_pos hp, if_pos hp, parts, hcons, List.append_nil]
        have := h2 2 (by simp at h3; omega)
        rw [show i + 1 + 2 = i + 3 by omega] at this
        rw [this]
      · rw [if_neg hp, if_neg hp, h1 st (by omega), hcons_hcons]
        congr 1
        have e : (x.drop st)[i - st]? = some c := by
          rw [List.getElem?_drop, show st + (i - st) = i by omega]
          have : (x.drop i)[0]? = some c := by rw [hl]; rfl
          simpa using this
        rw [show i + 1 - st = (i - st) + 1 by omega, List.take_add_one, e]
        rfl
    refine ⟨first, fun k hk => ?_⟩
    cases k with
    | zero =>
      rw [Nat.add_zero, first i (Nat.le_refl _), Nat.sub_self, List.take_zero]
      cases h : pk (c :: r) 0 with
      | nil => exact absurd h (pk_ne _ _)
      | cons q s => simp [hcons]
    | succ k =>
      have := h2 k (by omega)
      rw [show i + 1 + k = i + (k + 1) by omega] at this
      exact this

theorem parts_between (x : List Nat) : ∀ (cs : List Nat) (st : Nat), ((st :: cs.map (· + 3)).zip (cs ++ [x.length])).map (fun (i, j) => strSub (S x) i j) = (parts x st cs).map S := by
  have sub : ∀ i j, strSub (S x) i j = S ((x.drop i).take (j - i)) := fun i j => Str.ext' (by simp [strSub, S, List.extract_eq_take_drop])
  intro cs
  induction cs with
  | nil => intro st; simp only [List.map_nil, List.nil_append, List.zip_cons_cons, List.zip_nil_right, List.map_cons, parts, sub]; rw [List.take_of_length_le (by simp)]
  | cons c r ih =>
    intro st
    have := ih (c + 3)
    simp only [List.map_cons, List.cons_append, List.zip_cons_cons, parts, sub] at this ⊢
    rw [this]

theorem split_dots (x : List Nat) : partsBetween (S x) (occurrences (S x) (S [46, 46, 46]) 0 (S x).length ((S x).length + 1)) (S [46, 46, 46]).length = (pk x 0).map S := by
  rw [occ_dots]
  show ((0 :: (cuts x 0 0).map (· + 3)).zip (cuts x 0 0 ++ [(S x).length])).map (fun (i, j) => strSub (S x) i j) = _
  rw [S_len, parts_between]
  have := ((parts_pk x x 0 rfl (by omega)).2 0 (by omega))
  rw [Nat.zero_add] at this
  rw [this]
end Mine
end

section
namespace Mine

/-! a text that fits a wish: `none` stands for any text -/
def GM : List (Option Nat) → List Nat → Prop
  | [], g => g = []
  | some c :: t, g => ∃ g', g = c :: g' ∧ GM t g'
  | none :: t, g => ∃ u g', g = u ++ g' ∧ GM t g'
def tk : List Nat → Nat → List (Option Nat)
  | [], _ => []
  | _ :: r, k + 1 => tk r k
  | c :: r, 0 => if pre3 (c :: r) then none :: tk r 2 else some c :: tk r 0
def tokP : List (List Nat) → List (Option Nat)
  | [] => []
  | [p] => p.map some
  | p :: q :: r => p.map some ++ none :: tokP (q :: r)
theorem tokP_cons (p : List Nat) {r : List (List Nat)} (h : r ≠ []) : tokP (p :: r) = p.map some ++ none :: tokP r := by
  cases r with
  | nil => exact absurd rfl h
  | cons q r => rfl
theorem tokP_hcons (c : Nat) {l : List (List Nat)} (h : l ≠ []) : tokP (hcons [c] l) = some c :: tokP l := by
  match l, h with
  | [p], _ => rfl
  | p :: q :: r, _ => rfl
theorem tk_pk : ∀ (l : List Nat) (k : Nat), tk l k = tokP (pk l k) := by
  intro l
  induction l with
  | nil => intro k; rfl
  | cons c r ih =>
    intro k
    cases k with
    | succ k => exact ih k
    | zero =>
      rw [tk, pk]
      split
      · rw [tokP_cons _ (pk_ne _ _), ih]; rfl
      · rw [tokP_hcons _ (pk_ne _ _), ih]

theorem gm_lit (p : List Nat) (T : List (Option Nat)) (g : List Nat) : GM (p.map some ++ T) g ↔ ∃ g', g = p ++ g' ∧ GM T g' := by
  induction p generalizing g with
  | nil => simp
  | cons c r ih =>
    show (∃ g', g = c :: g' ∧ GM (r.map some ++ T) g') ↔ _
    constructor
    · rintro ⟨g', rfl, h⟩
      obtain ⟨g'', rfl, h'⟩ := (ih g').mp h
      exact ⟨g'', rfl, h'⟩
    · rintro ⟨g', rfl, h⟩
      exact ⟨r ++ g', rfl, (ih _).mpr ⟨g', rfl, h⟩⟩
theorem gm_lit' (p : List Nat) (g : List Nat) : GM (p.map some) g ↔ g = p := by
  have := gm_lit p [] g
  rw [List.append_nil] at this
  rw [this]
  constructor
  · rintro ⟨g', rfl, h⟩
    have : g' = [] := h
    simp [this]
  · rintro rfl; exact ⟨[], by simp, rfl⟩
theorem gm_more {T : List (Option Nat)} {g : List Nat} (u : List Nat) (h : GM (none :: T) g) : GM (none :: T) (u ++ g) := by
  obtain ⟨v, g', rfl, h'⟩ := h
  exact ⟨u ++ v, g', by simp, h'⟩
theorem gm_drop {T : List (Option Nat)} {g : List Nat} {a b : Nat} (hab : a ≤ b) (h : GM (none :: T) (g.drop b)) : GM (none :: T) (g.drop a) := by
  have : g.drop a = (g.drop a).take (b - a) ++ g.drop b := by
    have e := (List.take_append_drop (b - a) (g.drop a)).symm
    rw [List.drop_drop, show a + (b - a) = b by omega] at e
    exact e
  rw [this]
  exact gm_more _ h

def seqIn (got : List Nat) : List (List Nat) → Nat → Nat → Bool
  | [], _, _ => true
  | w :: ws, lo, hi => match fnd got w lo hi with
    | none => false
    | some i => seqIn got ws (i + w.length) hi

theorem gm_len (ms : List (List Nat)) (pl : List Nat) : ∀ g, GM (tokP (ms ++ [pl])) g → pl.length ≤ g.length := by
  induction ms with
  | nil => intro g h; rw [List.nil_append] at h; have := (gm_lit' pl g).mp h; rw [this]; omega
  | cons m ms ih =>
    intro g h
    rw [List.cons_append, tokP_cons _ (by simp), gm_lit] at h
    obtain ⟨g', rfl, u, g'', rfl, h'⟩ := h
    have := ih _ h'
    simp only [List.length_append]
    omega

theorem seq_gm (got pl : List Nat) (hi : Nat) (hhi : hi ≤ got.length) (hpl : got.drop hi = pl) : ∀ (mid : List (List Nat)) (lo : Nat), lo ≤ hi → (seqIn got mid lo hi = true ↔ GM (none :: tokP (mid ++ [pl])) (got.drop lo)) := by
  intro mid
  have hpll : pl.length = got.length - hi := by rw [← hpl]; simp
  induction mid with
  | nil =>
    intro lo hlo
    refine ⟨fun _ => ?_, fun _ => rfl⟩
    rw [List.nil_append]
    refine gm_drop hlo ⟨[], pl, by simp [hpl], (gm_lit' pl pl).mpr rfl⟩
  | cons m ms ih =>
    intro lo hlo
    rw [List.cons_append, tokP_cons _ (by simp)]
    have fits : ∀ u g', got.drop lo = u ++ (m ++ g') → GM (none :: tokP (ms ++ [pl])) g' → atL got m hi (lo + u.length) ∧ g' = got.drop (lo + u.length + m.length) := by
      intro u g' e h
      have hlen := congrArg List.length e
      simp only [List.length_drop, List.length_append] at hlen
      obtain ⟨v, g'', e', h'⟩ := h
      have h1 := gm_len ms pl _ h'
      have h2 : g''.length ≤ g'.length := by rw [e']; simp
      have ed : got.drop (lo + u.length) = m ++ g' := by rw [← List.drop_drop, e]; simp
      refine ⟨⟨by omega, by rw [ed]; simp⟩, ?_⟩
      rw [← List.drop_drop, ed]; simp
    rw [seqIn]
    rcases fnd_spec got m lo hi with ⟨h1, h2⟩ | ⟨i, h1, h2, h3, h4⟩
    · rw [h1]
      refine ⟨fun h => by simp at h, ?_⟩
      rintro ⟨u, g0, e, h⟩
      rw [gm_lit] at h
      obtain ⟨g', rfl, h⟩ := h
      exact absurd (fits u g' e h).1 (h2 _ (by omega))
    · rw [h1]
      show seqIn got ms (i + m.length) hi = true ↔ _
      rw [ih (i + m.length) h3.1]
      constructor
      · intro h
        refine ⟨(got.drop lo).take (i - lo), got.drop i, ?_, ?_⟩
        · have e := (List.take_append_drop (i - lo) (got.drop lo)).symm
          rw [List.drop_drop, show lo + (i - lo) = i by omega] at e
          exact e
        · rw [gm_lit]
          refine ⟨got.drop (i + m.length), ?_, h⟩
          have e := (List.take_append_drop m.length (got.drop i)).symm
          rw [h3.2, List.drop_drop] at e
          exact e
      · rintro ⟨u, g0, e, h⟩
        rw [gm_lit] at h
        obtain ⟨g', rfl, h⟩ := h
        obtain ⟨a1, a2⟩ := fits u g' e h
        have : i ≤ lo + u.length := Nat.le_of_not_lt fun hlt => h4 _ (by omega) hlt a1
        rw [a2] at h
        exact gm_drop (by omega) h

theorem fnd_nil (got : List Nat) {lo hi : Nat} (h : lo ≤ hi) : fnd got [] lo hi = some lo := by
  rcases fnd_spec got [] lo hi with ⟨h1, h2⟩ | ⟨i, h1, h2, h3, h4⟩
  · exact absurd ⟨by simpa using h, by simp⟩ (h2 lo (Nat.le_refl _))
  · rw [h1]
    have : ¬ lo < i := fun hlt => h4 lo (Nat.le_refl _) hlt ⟨by simpa using h, by simp⟩
    congr 1; omega
theorem seq_nil_end (got : List Nat) (hi : Nat) : ∀ (mid : List (List Nat)) (lo : Nat), lo ≤ hi → seqIn got (mid ++ [[]]) lo hi = seqIn got mid lo hi := by
  intro mid
  induction mid with
  | nil => intro lo h; simp [seqIn, fnd_nil got h]
  | cons m ms ih =>
    intro lo h
    rw [List.cons_append, seqIn, seqIn]
    rcases fnd_spec got m lo hi with ⟨h1, _⟩ | ⟨i, h1, h2, h3, h4⟩
    · rw [h1]
    · rw [h1]; exact ih _ h3.1
end Mine
end

section
namespace Mine
open PySem.Builtin PySem.Builtin.Str

abbrev dots3 : List Nat := [46, 46, 46]
def has3 (l : List Nat) : Bool := Txt.contains (S l) (S dots3)

theorem at_pre3 {x : List Nat} {i : Nat} : atL x dots3 x.length i ↔ pre3 (x.drop i) = true := by
  unfold atL
  constructor
  · rintro ⟨_, h⟩; exact beq_iff_eq.mpr h
  · intro h
    have := pre3_len h
    exact ⟨by simp at this ⊢; omega, eq_of_beq h⟩
theorem has3_fnd (x : List Nat) : has3 x = (fnd x dots3 0 x.length).isSome := by
  unfold has3 Txt.contains fnd
  rw [S_len]
  cases occurrences (S x) (S dots3) 0 x.length 1 <;> rfl
theorem has3_iff (x : List Nat) : has3 x = true ↔ ∃ i, pre3 (x.drop i) = true := by
  rw [has3_fnd]
  rcases fnd_spec x dots3 0 x.length with ⟨h1, h2⟩ | ⟨i, h1, h2, h3, h4⟩
  · rw [h1]
    refine ⟨fun h => by simp at h, fun ⟨i, h⟩ => absurd (at_pre3.mpr h) (h2 i (by omega))⟩
  · rw [h1]
    exact ⟨fun _ => ⟨i, at_pre3.mp h3⟩, fun _ => rfl⟩

theorem tk_no (l : List Nat) (h : ∀ i, pre3 (l.drop i) = false) : tk l 0 = l.map some := by
  induction l with
  | nil => rfl
  | cons c r ih =>
    rw [tk, if_neg (by have := h 0; simpa using this), ih fun i => h (i + 1)]
    rfl
theorem pk_two (l : List Nat) (i : Nat) (h : pre3 (l.drop i) = true) : 2 ≤ (pk l 0).length := by
  induction l generalizing i with
  | nil => simp [pre3] at h
  | cons c r ih =>
    rw [pk]
    split
    · have := List.length_pos_iff.mpr (pk_ne r 2); simp; omega
    · rename_i hn
      cases i with
      | zero => exact absurd h hn
      | succ i =>
        have := ih i h
        match hp : pk r 0, this with
        | p :: q, this => simpa [hcons] using this

def cutF (ws : List (List Nat)) : List (List Nat) := if ws.headD [] = [] then ws else ws.tail
def cutB (ws : List (List Nat)) : List (List Nat) := if ws.getLastD [] = [] then ws else ws.dropLast
def emW (ws : List (List Nat)) (got : List Nat) : Bool :=
  let p := ws.headD []
  let q := (cutF ws).getLastD []
  if p.isPrefixOf got then
    if q.isSuffixOf got then
      if p.length ≤ got.length - q.length then seqIn got (cutB (cutF ws)) p.length (got.length - q.length) else false
    else false
  else false
def em (want got : List Nat) : Bool := if has3 want then emW (pk want 0) got else want == got

theorem emW_iff (p q : List Nat) (mid : List (List Nat)) (got : List Nat) : emW (p :: mid ++ [q]) got = true ↔ GM (tokP (p :: mid ++ [q])) got := by
  have e1 : (p :: mid ++ [q]).headD [] = p := rfl
  have e2 : (cutF (p :: mid ++ [q])).getLastD [] = q := by
    unfold cutF
    have g : ∀ ws : List (List Nat), (ws ++ [q]).getLastD [] = q := fun ws => by simp [List.getLastD_eq_getLast?]
    split
    · exact g (p :: mid)
    · exact g mid
  have key : ∀ lo hi, lo ≤ hi → lo = p.length → seqIn got (cutB (cutF (p :: mid ++ [q]))) lo hi = seqIn got mid lo hi := by
    intro lo hi hlo hp
    have back : ∀ ws : List (List Nat), seqIn got (cutB (ws ++ [q])) lo hi = seqIn got ws lo hi := by
      intro ws
      unfold cutB
      have : (ws ++ [q]).getLastD [] = q := by simp [List.getLastD_eq_getLast?]
      rw [this]
      split
      · rename_i hq; rw [hq]; exact seq_nil_end got hi ws lo hlo
      · simp
    unfold cutF
    rw [e1]
    split
    · rename_i hp0
      subst hp0
      rw [back (( [] : List Nat) :: mid), seqIn, fnd_nil got hlo]
      simp
    · exact back mid
  unfold emW
  simp only [e1, e2]
  rw [show tokP (p :: mid ++ [q]) = p.map some ++ none :: tokP (mid ++ [q]) from tokP_cons _ (by simp), gm_lit]
  by_cases h1 : p.isPrefixOf got = true
  · rw [if_pos h1]
    obtain ⟨g1, hg1⟩ := List.isPrefixOf_iff_prefix.mp h1
    by_cases h2 : q.isSuffixOf got = true
    · rw [if_pos h2]
      obtain ⟨g2, hg2⟩ := List.isSuffixOf_iff_suffix.mp h2
      have hql : got.length = g2.length + q.length := by rw [← hg2]; simp
      by_cases h3 : p.length ≤ got.length - q.length
      · rw [if_pos h3, key _ _ h3 rfl, seq_gm got q (got.length - q.length) (by omega) (by rw [← hg2]; simp) mid p.length h3]
        have : got.drop p.length = g1 := by rw [← hg1]; simp
        rw [this]
        constructor
        · exact fun h => ⟨g1, hg1.symm, h⟩
        · rintro ⟨g', e, h⟩
          have : g' = g1 := by rw [← hg1] at e; exact (List.append_cancel_left e).symm
          exact this ▸ h
      · rw [if_neg h3]
        refine ⟨fun h => by simp at h, ?_⟩
        rintro ⟨g', rfl, u, g'', rfl, h⟩
        have := gm_len mid q _ h
        simp only [List.length_append] at h3 hql
        omega
    · rw [if_neg h2]
      refine ⟨fun h => by simp at h, ?_⟩
      rintro ⟨g', rfl, h⟩
      exfalso
      have suf : ∀ (ms : List (List Nat)) (g : List Nat), GM (tokP (ms ++ [q])) g → q <:+ g := by
        intro ms
        induction ms with
        | nil => intro g h; rw [List.nil_append] at h; rw [(gm_lit' q g).mp h]; exact List.suffix_refl _
        | cons m ms ih =>
          intro g h
          rw [List.cons_append, tokP_cons _ (by simp), gm_lit] at h
          obtain ⟨g', rfl, u, g'', rfl, h'⟩ := h
          exact (ih _ h').trans ((List.suffix_append u g'').trans (List.suffix_append m _))
      obtain ⟨u, g'', rfl, h'⟩ := h
      exact h2 (List.isSuffixOf_iff_suffix.mpr ((suf _ _ h').trans ((List.suffix_append u g'').trans (List.suffix_append p _))))
  · rw [if_neg h1]
    refine ⟨fun h => by simp at h, ?_⟩
    rintro ⟨g', rfl, _⟩
    exact absurd (List.isPrefixOf_iff_prefix.mpr (List.prefix_append p g')) h1

theorem ends {α : Type} (l : List α) (h : 2 ≤ l.length) : ∃ p mid q, l = p :: mid ++ [q] := by
  match l, h with
  | p :: r, h =>
    have hr : r ≠ [] := by rintro rfl; simp at h
    exact ⟨p, r.dropLast, r.getLast hr, by rw [List.cons_append, List.dropLast_concat_getLast]⟩

theorem em_iff (want got : List Nat) : em want got = true ↔ GM (tk want 0) got := by
  unfold em
  by_cases h : has3 want = true
  · rw [if_pos h, tk_pk]
    obtain ⟨i, hi⟩ := (has3_iff want).mp h
    obtain ⟨p, mid, q, e⟩ := ends (pk want 0) (pk_two want i hi)
    rw [e]
    exact emW_iff p q mid got
  · rw [if_neg h, tk_no want fun i => by
      cases hp : pre3 (want.drop i)
      · rfl
      · exact absurd ((has3_iff want).mpr ⟨i, hp⟩) h, gm_lit', beq_iff_eq]
    exact eq_comm
end Mine
end

section
namespace Mine
open PySem.Builtin PySem.Builtin.Str

theorem gives_find4 (x y : Str) (i j : Int) (t u v z : Tok) : Gives («str.find» ⟨[.str x t, .str y u, .int i v, .int j z], []⟩) (.int (match occurrences x y (fromIndex x.length i) (min (fromIndex x.length j) x.length) 1 with | k :: _ => (k : Int) | [] => -1)) := by
  show Gives (match occurrences x y (fromIndex x.length i) (min (fromIndex x.length j) x.length) 1 with | k :: _ => retInt k | [] => (do rule "str.find.not-found"; retInt (-1))) _
  cases occurrences x y (fromIndex x.length i) (min (fromIndex x.length j) x.length) 1 with
  | nil => exact .rule (.of_eq rfl)
  | cons k _ => exact .of_eq rfl

section
variable {prog : Program} {w : World} {A : Around} {env : Env} {X : Addr → Prop} {s : Shared} {K : Frag}

theorem eval_methS {o e : Expr} {es : List Expr} {name : Str} {apos pos : Pos} {id : String} {x : Str} {ds : List PyData} {s₁ : Shared} {Q : Value → Shared → Prop} {E : Value → Shared → Prop} (slot : Slot "str" name id) (ty : typeOf (.builtin id) = pure (.type "method_descriptor"))
    (ho : Ev prog w A env X s o (.str x)) (ha : EvAll prog w A env X s (e :: es) ds) (k1 : Kp s s₁)
    (h : ∀ s₂ t vs, Kp s₁ s₂ → RpAll s₂.heap X vs ds → wpAny (model prog w) A (PySem.call (.builtin id) (.str x t :: vs)) Q E s₂)
    (hbase : attributeBase o name env (eval o env) = eval o env := by rfl)
    (hfew : ((backTo pos (starEach (e :: es) env)).all (fun x => !x.1) && (backToKw pos (keywordEach [] env)).all (fun x => x.1.isSome)
      && decide ((e :: es).length + ([] : List Keyword).length + (if ([] : List Keyword).isEmpty then 0 else 1) < 30)) = true := by rfl)
    (hline : (apos.endLine == pos.line) = true := by rfl)
    (he : starEach (e :: es) env = (false, eval e env) :: starEach es env := by rfl) (hplain : (backTo pos (starEach es env)).any (·.1) = false := by rfl) :
    wpAny (model prog w) A (eval (.Call (.Attribute o name apos) (e :: es) [] pos) env) Q E s₁ :=
  wpAny_Call_method_lateS hbase hfew hline (ho s₁ k1 _ _ fun ov s₂ k2 r2 => by
    obtain ⟨t, rfl⟩ := r2.str_inv
    refine ⟨"str", id, F.plainAttrs_str, slot, ty, typeIs_str _ _ _, (fun _ e => nomatch e), ?_⟩
    have hx := ha s₂ (k1.trans k2) pos (fun vs s₃ => wpAny (model prog w) A (PySem.call (.builtin id) (.str x t :: vs)) Q E s₃) E fun vs s₃ k3 r3 =>
      h s₃ t vs (k2.trans k3) r3
    rw [he] at hx ⊢
    exact Calls.callWith_builtin (by show (false || (backTo pos (starEach es env)).any (·.1)) = false; rw [hplain]; rfl) (Calls.evalArgs_plain hx))

theorem rpAll_strs (h : Heap) : ∀ (l : List (List Nat)) (tk : Nat), RpAll h X (strsFrom tk (l.map S)) (l.map fun x => .str (S x)) := by
  intro l
  induction l with
  | nil => intro tk; exact .nil
  | cons a r ih => intro tk; exact .cons (.str _ _) (ih _)

theorem EvNew.split3 {o e : Expr} {apos pos : Pos} {x : List Nat} (h3 : has3 x = true) (hsz : x.length ≤ 100000)
    (ho : Ev prog w A env X s o (.str (S x))) (he' : Ev prog w A env X s e (.str (S dots3)))
    (hbase : attributeBase o "split" env (eval o env) = eval o env := by rfl)
    (hfew : ((backTo pos (starEach [e] env)).all (fun x => !x.1) && (backToKw pos (keywordEach [] env)).all (fun x => x.1.isSome)
      && decide ([e].length + ([] : List Keyword).length + (if ([] : List Keyword).isEmpty then 0 else 1) < 30)) = true := by rfl)
    (hline : (apos.endLine == pos.line) = true := by rfl)
    (he : starEach [e] env = (false, eval e env) :: starEach [] env := by rfl) (hplain : (backTo pos (starEach [] env)).any (·.1) = false := by rfl) :
    EvNew prog w A env X s (.Call (.Attribute o "split" apos) [e] [] pos) ((pk x 0).map fun p => .str (S p)) := fun s₁ k1 Q E hq => by
  refine eval_methS F.slot_str_split F.type_str_split ho (.cons he' .nil he) k1 (fun s₂ t vs k2 r2 => ?_) hbase hfew hline he hplain
  match vs, r2 with
  | [v], .cons r .nil =>
    obtain ⟨u, rfl⟩ := r.str_inv
    obtain ⟨i, hi⟩ := (has3_iff x).mp h3
    have hx3 := pre3_len hi
    rw [List.length_drop] at hx3
    have hpl : ∀ (l : List Nat) (k : Nat), (pk l k).length ≤ l.length + 1 := by
      intro l
      induction l with
      | nil => intro k; simp [pk]
      | cons c r ih =>
        intro k
        cases k with
        | succ k => have := ih k; simp [pk]; omega
        | zero =>
          rw [pk]; split
          · have := ih 2; simp; omega
          · have := ih 0
            cases hp : pk r 0 with
            | nil => simp [hcons]
            | cons a b => rw [hp] at this; simp [hcons] at this ⊢; omega
    have hne : (occurrences (S x) (S dots3) 0 (S x).length ((S x).length + 1)).isEmpty = false := by
      have := pk_two x i hi
      have e := congrArg List.length (split_dots x)
      rw [List.length_map] at e
      cases hc : occurrences (S x) (S dots3) 0 (S x).length ((S x).length + 1) with
      | nil => rw [hc] at e; simp [partsBetween] at e; omega
      | cons => rfl
    have hk1 : Builtin.Str.strKind (S dots3) = 1 := by decide +kernel
    refine call_meets F.slot_str_split (typeIs_str _ _ _) F.entry_str_split (F.args_str_split_2 _ _) (meets_str_split_sep (S x) (S dots3) t u ?_ (by rw [S_len]; rfl) hne (by rw [S_len, sizeLine_eq]; omega) (by rw [split_dots, List.length_map, sizeLine_eq]; have := hpl x 0; omega)) ?_
    · rw [hk1, S_len, S_len, Bool.or_eq_false_iff]
      refine ⟨decide_eq_false (by simp; omega), decide_eq_false ?_⟩
      unfold Builtin.Str.strKind; split
      · omega
      · split <;> omega
    · rw [split_dots]
      show Q (.ref s₂.heap.objs.size) _
      have k3 : Kp s₂ { s₂ with toks := s₂.toks + ((pk x 0).map S).length, heap := s₂.heap.push { cls := .type "list", data := .seq (strsFrom s₂.toks ((pk x 0).map S)).toArray } } := Kp.push _ _ _
      refine hq _ _ 0 _ (k2.trans k3) ?_ (Heap.get?_push_size _ rfl) ?_
      · cases e : s₁.heap.get? s₂.heap.objs.size with
        | none => rfl
        | some o' => exact absurd (Heap.lt_size (k2.keep _ _ e)) (Nat.lt_irrefl _)
      · exact rpAll_strs _ (pk x 0) _

theorem startswith_S (x y : List Nat) : Txt.startswith (S x) (S y) = y.isPrefixOf x := by
  unfold Txt.startswith
  rw [Bool.eq_iff_iff, Bool.and_eq_true, decide_eq_true_iff, subAt_iff, S_len, S_len, List.isPrefixOf_iff_prefix]
  constructor
  · rintro ⟨_, h⟩
    exact ⟨x.drop y.length, by have e := List.take_append_drop y.length x; rw [List.drop_zero] at h; rw [h] at e; exact e⟩
  · rintro ⟨r, rfl⟩
    exact ⟨by simp, by simp⟩
theorem endswith_S (x y : List Nat) : Txt.endswith (S x) (S y) = y.isSuffixOf x := by
  unfold Txt.endswith
  rw [Bool.eq_iff_iff, Bool.and_eq_true, decide_eq_true_iff, subAt_iff, S_len, S_len, List.isSuffixOf_iff_suffix]
  constructor
  · rintro ⟨h0, h⟩
    refine ⟨x.take (x.length - y.length), ?_⟩
    rw [List.take_of_length_le (by rw [List.length_drop]; omega)] at h
    have e := List.take_append_drop (x.length - y.length) x
    rw [h] at e; exact e
  · rintro ⟨r, rfl⟩
    exact ⟨by simp, by simp⟩

theorem Ev.startswith {o e : Expr} {apos pos : Pos} {x y : List Nat} (ho : Ev prog w A env X s o (.str (S x))) (he' : Ev prog w A env X s e (.str (S y)))
    (hbase : attributeBase o "startswith" env (eval o env) = eval o env := by rfl)
    (hfew : ((backTo pos (starEach [e] env)).all (fun x => !x.1) && (backToKw pos (keywordEach [] env)).all (fun x => x.1.isSome)
      && decide ([e].length + ([] : List Keyword).length + (if ([] : List Keyword).isEmpty then 0 else 1) < 30)) = true := by rfl)
    (hline : (apos.endLine == pos.line) = true := by rfl)
    (he : starEach [e] env = (false, eval e env) :: starEach [] env := by rfl) (hplain : (backTo pos (starEach [] env)).any (·.1) = false := by rfl) :
    Ev prog w A env X s (.Call (.Attribute o "startswith" apos) [e] [] pos) (.bool (y.isPrefixOf x)) := fun s₁ k1 Q E hq => by
  refine eval_methS F.slot_str_startswith F.type_str_startswith ho (.cons he' .nil he) k1 (fun s₂ t vs k2 r2 => ?_) hbase hfew hline he hplain
  match vs, r2 with
  | [v], .cons r .nil =>
    obtain ⟨u, rfl⟩ := r.str_inv
    refine call_gives F.slot_str_startswith (typeIs_str _ _ _) F.entry_str_startswith (F.args_str_startswith_2 _ _) (gives_str_startswith (S x) (S y) t u) ?_
    refine hq (.bool _) _ k2 ?_
    have := startswith_S x y
    unfold Txt.startswith at this
    rw [this]
    exact .bool _
theorem Ev.endswith {o e : Expr} {apos pos : Pos} {x y : List Nat} (ho : Ev prog w A env X s o (.str (S x))) (he' : Ev prog w A env X s e (.str (S y)))
    (hbase : attributeBase o "endswith" env (eval o env) = eval o env := by rfl)
    (hfew : ((backTo pos (starEach [e] env)).all (fun x => !x.1) && (backToKw pos (keywordEach [] env)).all (fun x => x.1.isSome)
      && decide ([e].length + ([] : List Keyword).length + (if ([] : List Keyword).isEmpty then 0 else 1) < 30)) = true := by rfl)
    (hline : (apos.endLine == pos.line) = true := by rfl)
    (he : starEach [e] env = (false, eval e env) :: starEach [] env := by rfl) (hplain : (backTo pos (starEach [] env)).any (·.1) = false := by rfl) :
    Ev prog w A env X s (.Call (.Attribute o "endswith" apos) [e] [] pos) (.bool (y.isSuffixOf x)) := fun s₁ k1 Q E hq => by
  refine eval_methS F.slot_str_endswith F.type_str_endswith ho (.cons he' .nil he) k1 (fun s₂ t vs k2 r2 => ?_) hbase hfew hline he hplain
  match vs, r2 with
  | [v], .cons r .nil =>
    obtain ⟨u, rfl⟩ := r.str_inv
    refine call_gives F.slot_str_endswith (typeIs_str _ _ _) F.entry_str_endswith (F.args_str_endswith_2 _ _) (gives_str_endswith (S x) (S y) t u) ?_
    refine hq (.bool _) _ k2 ?_
    have := endswith_S x y
    unfold Txt.endswith at this
    rw [this]
    exact .bool _

def fndI (x y : List Nat) (lo hi : Nat) : Int := match fnd x y lo hi with | some k => (k : Int) | none => -1
theorem Ev.find4 {o e1 e2 e3 : Expr} {apos pos : Pos} {x y : List Nat} {lo hi : Nat} (hhi : hi ≤ x.length) (ho : Ev prog w A env X s o (.str (S x))) (h1 : Ev prog w A env X s e1 (.str (S y))) (h2 : Ev prog w A env X s e2 (.int lo)) (h3 : Ev prog w A env X s e3 (.int hi))
    (hbase : attributeBase o "find" env (eval o env) = eval o env := by rfl)
    (hfew : ((backTo pos (starEach [e1, e2, e3] env)).all (fun x => !x.1) && (backToKw pos (keywordEach [] env)).all (fun x => x.1.isSome)
      && decide ([e1, e2, e3].length + ([] : List Keyword).length + (if ([] : List Keyword).isEmpty then 0 else 1) < 30)) = true := by rfl)
    (hline : (apos.endLine == pos.line) = true := by rfl)
    (he : starEach [e1, e2, e3] env = (false, eval e1 env) :: starEach [e2, e3] env := by rfl) (hb : starEach [e2, e3] env = (false, eval e2 env) :: starEach [e3] env := by rfl) (hc : starEach [e3] env = (false, eval e3 env) :: starEach [] env := by rfl)
    (hplain : (backTo pos (starEach [e2, e3] env)).any (·.1) = false := by rfl) :
    Ev prog w A env X s (.Call (.Attribute o "find" apos) [e1, e2, e3] [] pos) (.int (fndI x y lo hi)) := fun s₁ k1 Q E hq => by
  refine eval_methS F.slot_str_find F.type_str_find ho (.cons h1 (.cons h2 (.cons h3 .nil hc) hb) he) k1 (fun s₂ t vs k2 r2 => ?_) hbase hfew hline he hplain
  match vs, r2 with
  | [v1, v2, v3], .cons r1 (.cons r2 (.cons r3 .nil)) =>
    obtain ⟨u, rfl⟩ := r1.str_inv
    obtain ⟨u2, rfl⟩ := r2.int_inv
    obtain ⟨u3, rfl⟩ := r3.int_inv
    refine call_gives F.slot_str_find (typeIs_str _ _ _) F.entry_str_find (F.args_str_find_4 _ _ _ _) (gives_find4 (S x) (S y) lo hi t u u2 u3) ?_
    have f1 : ∀ n : Nat, fromIndex (S x).length (n : Int) = n := fun n => by unfold fromIndex; rw [if_neg (by omega)]; omega
    rw [f1, f1, S_len, Nat.min_eq_left hhi]
    refine hq _ _ (k2.trans (.tok _ _)) ?_
    unfold fndI fnd
    cases occurrences (S x) (S y) lo hi 1 <;> exact .int _ _
end
end Mine
end

section
namespace Mine

section
variable {prog : Program} {w : World} {K : Frag} {A : Around} {env : Env} {X₀ Y : Addr → Prop} {s₀ sr s : Shared} {ω : Option (Str × Addr × List PyData)} {ρ : List (Str × PyData)}
theorem Ev.int_any {X X' : Addr → Prop} {e : Expr} {i : Int} (h : Ev prog w A env X' s e (.int i)) : Ev prog w A env X s e (.int i) := fun s₁ k1 Q E hq =>
  h s₁ k1 Q E fun v s₂ k2 r => by obtain ⟨t, rfl⟩ := r.int_inv; exact hq _ _ k2 (.int _ _)
theorem Ev.own_less {x : Str} {p : Pos} {a : Addr} {ds : List PyData} (st : St K A env X₀ s₀ Y sr (some (x, a, ds)) ρ s) (hd : (x == ("__debug__" : Str)) = false := by decide) : Ev prog w A env (fun b => Ow X₀ Y b ∧ b ≠ a) s (.Name x p) (.list ds) := fun s₁ k1 Q E hq => by
  obtain ⟨hv, hY, vs, n, hl, hr⟩ := (st.keeps k1).own x a ds rfl
  exact wpAny_Name (load_var st.ok.kf hv (hq _ _ (.refl _) (.list hl (fun q => q.2 rfl) (hr.less fun _ q => q.1)))) hd
theorem run_ifoJ {test : Expr} {body orelse rest : List Stmt} {pos : Pos} {b : Bool} {Q : Flow → Shared → Prop} {E} (J : Prop) (ω' : Option (Str × Addr × List PyData)) (ρ' : List (Str × PyData)) (st : St K A env X₀ s₀ Y sr ω ρ s) (ht : Tr prog w A env s test b)
    (hb : ∀ s', St K A env X₀ s₀ Y sr ω ρ s' → ∀ E', wpAny (model prog w) A (execs (if b then body else orelse) env) (fun f s₁ => match f with | .next => J ∧ St K A env X₀ s₀ Y sr ω' ρ' s₁ | f => Q f s₁) E' s')
    (next : ∀ s', J → St K A env X₀ s₀ Y sr ω' ρ' s' → wpAny (model prog w) A (execs rest env) Q E s') :
    wpAny (model prog w) A (execs (.If test body orelse pos :: rest) env) Q E s :=
  run_if st ht fun s' st' => wpAny_mono (hb s' st' _) (fun f s₁ h₁ => by cases f <;> first | exact next _ h₁.1 h₁.2 | exact h₁) fun _ _ e => e
theorem Ok.less {X X' : Addr → Prop} (ok : Ok K A env X s) (h : ∀ a, X' a → X a) : Ok K A env X' s := ⟨ok.rm, ok.kf, ok.eg, ok.eb, ok.ge, fun a x => ok.xa a (h a x)⟩
end

def sx (l : List (List Nat)) : List PyData := l.map fun x => .str (S x)
def posAt (got : List Nat) (hi : Nat) (ws : List (List Nat)) (lo : Nat) : Nat → Nat
  | 0 => lo
  | i + 1 => match fnd got (ws.getD i []) (posAt got hi ws lo i) hi with
    | none => posAt got hi ws lo i
    | some k => k + (ws.getD i []).length
theorem S_dots3 : (Str.ofString "...") = S dots3 := by decide +kernel

theorem pk_len : ∀ (l : List Nat) (k : Nat), (pk l k).length ≤ l.length + 1 := by
  intro l
  induction l with
  | nil => intro k; simp [pk]
  | cons c r ih =>
    intro k
    cases k with
    | succ k => have := ih k; simp [pk]; omega
    | zero =>
      rw [pk]; split
      · have := ih 2; simp; omega
      · have := ih 0
        cases hp : pk r 0 with
        | nil => simp [hcons]
        | cons a b => rw [hp] at this; simp [hcons] at this ⊢; omega

theorem pk_max : ∀ (l : List Nat) (k : Nat), ∀ x ∈ pk l k, x.length ≤ l.length := by
  intro l
  induction l with
  | nil => intro k x hx; simp [pk] at hx; simp [hx]
  | cons c r ih =>
    intro k x hx
    cases k with
    | succ k => have := ih k x hx; simp; omega
    | zero =>
      rw [pk] at hx
      split at hx
      · rcases List.mem_cons.mp hx with rfl | hx
        · simp
        · have := ih 2 x hx; simp; omega
      · cases hp : pk r 0 with
        | nil => exact absurd hp (pk_ne _ _)
        | cons a b =>
          rw [hp] at hx
          rcases List.mem_cons.mp hx with rfl | hx
          · have := ih 0 a (by rw [hp]; simp); simp; omega
          · have := ih 0 x (by rw [hp]; simp [hx]); simp; omega

theorem seqIndex_zero {n : Nat} (h : 0 < n) : seqIndex? 0 n = some 0 := by
  unfold seqIndex?
  simp
  omega
theorem seqIndex_last (n : Nat) : seqIndex? (-1) (n + 1) = some n := by
  unfold seqIndex?
  have e : (-1 : Int) + ((n + 1 : Nat) : Int) = n := by omega
  simp
  omega

theorem fn_ell {prog : Program} {w : World} {P : Params} (want got : List Nat) (hw : want.length ≤ 100000) (hg : got.length ≤ 100000) :
    Fn prog w (hd2.heap_39 P) (.ref 55) 3 [.str (S want), .str (S got)] (.bool (em want got)) := by
  refine fn_of (ps := ["want", "got"]) rfl rfl rfl rfl rfl rfl rfl rfl (by omega) rfl rfl rfl (fun vs hvs => by match vs, hvs with | [v, u], _ => rfl) (by decide) rfl (by decide) (by decide) ?_
  intro A env X₀ s₀ s he hA st E
  have hgl : (S got).length ≤ sizeLine := by rw [S_len, sizeLine_eq]; omega
  refine run_if (b := !has3 want) st (Tr.cast (Tr.cmp (Ev.global_str st.ok (kind_of he rfl) rfl) (Ev.var st rfl) notIn_ss) (by rw [S_dots3]; rfl)) fun s st => ?_
  cases h3 : has3 want with
  | false =>
    refine run_return (d := .bool (em want got)) st (Ev.cast (Ev.cmp (Ev.var st rfl) (Ev.var st rfl) eq_ss) ?_) fun v s st r => ret_ok st r
    rw [S_beq, em, if_neg (by rw [h3]; decide)]
  | true =>
  refine run_nil ?_
  refine run_own st (EvNew.split3 h3 hw (Ev.var st rfl) (Ev.cast (Ev.global_str st.ok (kind_of he rfl) rfl) (by rw [S_dots3]))) (.inl (kind_of he rfl)) rfl fun a s nY hsr st => ?_
  obtain ⟨i0, hi0⟩ := (has3_iff want).mp h3
  have h2 := pk_two want i0 hi0
  have hpl := pk_len want 0
  have hmax := pk_max want 0
  have hem : em want got = emW (pk want 0) got := by rw [em, if_pos h3]
  rw [hem]
  show wpAny _ _ _ _ _ _
  change St _ _ _ _ _ _ _ (some ("ws", a, sx (pk want 0))) _ _ at st
  revert st h2 hpl hmax
  generalize pk want 0 = ws
  intro h2 hpl hmax st
  obtain ⟨p, mid, q, hws⟩ := ends ws h2
  have hsx : (sx ws).length = ws.length := by simp [sx]
  refine run_assert st (Tr.cast (Tr.cmp (X := Ow X₀ (addY noY a)) (Ev.int_any (Ev.lenL (st.ok.less fun _ q => q.1) (kind_of he rfl) rfl (by rw [hsx, sizeLine_eq]; omega) (Ev.own_less st))) Ev.int ge_ii) (decide_eq_true (by rw [hsx]; omega))) fun s st => ?_
  refine run_tuple2 (x := "startpos") (y := "endpos") (i := 0) (d2 := .int got.length) st (Ev.tuple (.cons Ev.int (.cons (Ev.cast (Ev.lenS st.ok (kind_of he rfl) rfl hgl (Ev.var st rfl)) (by rw [S_len])) .nil))) (.inl (kind_of he rfl)) (.inl (kind_of he rfl)) (fun z a ds e => by cases e; exact ⟨by decide, by decide⟩) (fun s st => ?_) rfl (by clear st; cases env; cases he; rfl)
  have hp : ws.headD [] = p := by rw [hws]; rfl
  have hq : (cutF ws).getLastD [] = q := by
    have g : ∀ l : List (List Nat), (l ++ [q]).getLastD [] = q := fun l => by simp [List.getLastD_eq_getLast?]
    rw [hws]; unfold cutF
    split
    · exact g (p :: mid)
    · exact g mid
  obtain ⟨mid', hws'⟩ : ∃ mid', cutF ws = mid' ++ [q] := by
    rw [hws]; unfold cutF
    split
    · exact ⟨p :: mid, rfl⟩
    · exact ⟨mid, rfl⟩
  have hcl : (cutF ws).length ≤ ws.length := by
    unfold cutF; split
    · omega
    · simp
  have hcl' : mid'.length + 1 = (cutF ws).length := by rw [hws']; simp
  have hsc : (sx (cutF ws)).length = (cutF ws).length := by simp [sx]
  have hmem : ∀ x ∈ ws, x.length ≤ 100000 := fun x hx => Nat.le_trans (hmax x hx) hw
  have hpl' : p.length ≤ 100000 := hmem p (by rw [hws]; simp)
  have hql' : q.length ≤ 100000 := hmem q (by rw [hws]; simp)
  have hR : emW ws got = (if p.isPrefixOf got then (if q.isSuffixOf got then (if p.length ≤ got.length - q.length then seqIn got (cutB (cutF ws)) p.length (got.length - q.length) else false) else false) else false) := by
    unfold emW; simp only [hp, hq]
  -- the first piece
  refine run_assign (d := .str (S p)) st (Ev.ownItem st Ev.int (by decide) (by decide) (by rw [hws]; rfl)) (.inl (kind_of he rfl)) (fun y a ds e => by cases e; decide) fun s st => ?_
  refine run_ifoJ (p.isPrefixOf got = true) (some ("ws", a, sx (cutF ws))) [("startpos", .int p.length), ("endpos", .int got.length), ("want", .str (S want)), ("got", .str (S got))] st (Tr.str (by rw [S_len, sizeLine_eq]; omega) (Ev.var st rfl)) (fun s st E => ?_) fun s hpre st => ?_
  · by_cases hp0 : p = []
    · have hb : ((S p).length != 0) = false := by rw [S_len, hp0]; rfl
      rw [hb]
      have ec : cutF ws = ws := by unfold cutF; rw [if_pos (hp.trans hp0)]
      rw [ec]
      refine run_nil ⟨by rw [hp0]; simp, st.weaken ?_⟩
      intro x hx; simp at hx
      rcases hx with rfl | rfl | rfl | rfl
      · rw [hp0]; rfl
      all_goals rfl
    · have hb : ((S p).length != 0) = true := by rw [S_len]; simpa using hp0
      rw [hb]
      refine run_if st (Tr.value (Ev.startswith (Ev.var st rfl) (Ev.var st rfl))) fun s st => ?_
      cases h1 : p.isPrefixOf got with
      | true =>
        refine run_assign (d := .int p.length) st (Ev.cast (Ev.lenS st.ok (kind_of he rfl) rfl (by rw [S_len, sizeLine_eq]; omega) (Ev.var st rfl)) (by rw [S_len])) (.inl (kind_of he rfl)) (fun y a ds e => by cases e; decide) fun s st => ?_
        refine run_del (k := 0) (ds' := sx (cutF ws)) st Ev.int (by decide) (seqIndex_zero (by rw [hsx]; omega)) ?_ (by rw [hsx]; omega) (by rw [hsx, sizeLine_eq]; omega) fun s st => run_nil (run_nil ⟨rfl, st.weaken ?_⟩)
        · have : cutF ws = ws.tail := by unfold cutF; rw [if_neg (by rw [hp]; exact hp0)]
          rw [this]; simp [sx]
        · intro x hx; simp at hx
          rcases hx with rfl | rfl | rfl | rfl <;> rfl
      | false =>
        refine run_return (d := .bool false) st Ev.bool fun v s st r => ret_ok st ?_
        rw [hR, h1]; exact r
  -- the last piece
  refine run_assign (d := .str (S q)) st (Ev.ownItemNeg st (Ev.neg Ev.int) (by decide) (by rw [hsc]; omega) (by decide) (by rw [hsc, ← hcl', hws', show (-1 + ((mid'.length + 1 : Nat) : Int)).toNat = mid'.length by omega]; simp [sx])) (.inl (kind_of he rfl)) (fun y a ds e => by cases e; decide) fun s st => ?_
  refine run_ifoJ (q.isSuffixOf got = true) (some ("ws", a, sx (cutB (cutF ws)))) [("startpos", .int p.length), ("endpos", .int (got.length - q.length)), ("want", .str (S want)), ("got", .str (S got))] st (Tr.str (by rw [S_len, sizeLine_eq]; omega) (Ev.var st rfl)) (fun s st E => ?_) fun s hsuf st => ?_
  · by_cases hq0 : q = []
    · have hb : ((S q).length != 0) = false := by rw [S_len, hq0]; rfl
      rw [hb]
      have ec : cutB (cutF ws) = cutF ws := by unfold cutB; rw [if_pos (hq.trans hq0)]
      rw [ec]
      refine run_nil ⟨by rw [hq0]; exact List.isSuffixOf_iff_suffix.mpr (List.nil_suffix), st.weaken ?_⟩
      intro x hx; simp at hx
      rcases hx with rfl | rfl | rfl | rfl
      · rfl
      · rw [hq0, show ((got.length : Int) - (([] : List Nat).length : Nat)) = got.length by simp]; rfl
      all_goals rfl
    · have hb : ((S q).length != 0) = true := by rw [S_len]; simpa using hq0
      rw [hb]
      refine run_if st (Tr.value (Ev.endswith (Ev.var st rfl) (Ev.var st rfl))) fun s st => ?_
      cases h1 : q.isSuffixOf got with
      | true =>
        refine run_augSub (i := got.length) (j := q.length) st rfl (Ev.cast (Ev.lenS st.ok (kind_of he rfl) rfl (by rw [S_len, sizeLine_eq]; omega) (Ev.var st rfl)) (by rw [S_len])) (.inl (kind_of he rfl)) (fun y a ds e => by cases e; decide) fun s st => ?_
        refine run_del (k := mid'.length) (ds' := sx (cutB (cutF ws))) st (Ev.neg Ev.int) (by decide) ?_ ?_ (by rw [hsc]; omega) (by rw [hsc, sizeLine_eq]; omega) fun s st => run_nil (run_nil ⟨rfl, st.weaken ?_⟩)
        · rw [hsc, ← hcl']; exact seqIndex_last _
        · have : cutB (cutF ws) = (cutF ws).dropLast := by unfold cutB; rw [if_neg (by rw [hq]; exact hq0)]
          rw [this, hws']; simp [sx, List.eraseIdx_append_of_length_le]
        · intro x hx; simp at hx
          rcases hx with rfl | rfl | rfl | rfl <;> rfl
      | false =>
        refine run_return (d := .bool false) st Ev.bool fun v s st r => ret_ok st ?_
        rw [hR, h1]; split <;> exact r
  -- the order
  refine run_if st (Tr.cmp (Ev.var st rfl) (Ev.var st rfl) gt_ii) fun s st => ?_
  cases hgt : decide ((p.length : Int) > (got.length : Int) - (q.length : Int)) with
  | true =>
    have hgt' := of_decide_eq_true hgt
    refine run_return (d := .bool false) st Ev.bool fun v s st r => ret_ok st ?_
    have := (List.isSuffixOf_iff_suffix.mp hsuf).length_le
    rw [hR, if_pos hpre, if_pos hsuf, if_neg (by omega)]; exact r
  | false =>
  have hle := of_decide_eq_false hgt
  refine run_nil ?_
  have hqlen := (List.isSuffixOf_iff_suffix.mp hsuf).length_le
  have ehi : ((got.length : Int) - (q.length : Int)) = ((got.length - q.length : Nat) : Int) := by omega
  rw [ehi] at st
  have hR' : emW ws got = seqIn got (cutB (cutF ws)) p.length (got.length - q.length) := by
    rw [hR, if_pos hpre, if_pos hsuf, if_pos (by omega)]
  rw [hR']
  have hms : ∀ x ∈ cutB (cutF ws), x.length ≤ 100000 := by
    intro x hx
    refine hmem x ?_
    have h1 : x ∈ cutF ws := by
      unfold cutB at hx; split at hx
      · exact hx
      · exact List.dropLast_subset _ hx
    unfold cutF at h1; split at h1
    · exact h1
    · exact List.mem_of_mem_tail h1
  have hvl : (cutB (cutF ws)).length ≤ 100001 := by
    have : (cutB (cutF ws)).length ≤ (cutF ws).length := by
      unfold cutB; split
      · omega
      · simp
    omega
  have st := st.freeze1 hsr nY
  clear hR hR' hle hgt
  revert st hms hvl
  generalize cutB (cutF ws) = vs
  generalize hhi : got.length - q.length = hi
  intro hms hvl st
  have hhil : hi ≤ got.length := by omega
  refine run_forJ "startpos" (by decide) st (It.list st.ok (Ev.var st rfl)) (.inl (kind_of he rfl)) (fun i => seqIn got vs p.length hi = seqIn got (vs.drop i) (posAt got hi vs p.length i) hi)
    (fun _ => none) (fun i => [("startpos", .int (posAt got hi vs p.length i)), ("endpos", .int hi), ("got", .str (S got))]) (fun _ _ _ _ => noOwn) ⟨rfl, by intro x hx; simp [posAt] at hx; rcases hx with rfl | rfl | rfl <;> rfl⟩ (by simp [posAt]) (fun i d s₁ hd hJ st E' => ?_) fun s hJ st => ?_
  · have hi' : i < vs.length := by have := (List.getElem?_eq_some_iff.mp hd).1; simpa [sx] using this
    generalize hx : vs.getD i [] = x
    have hxv : vs[i]? = some x := by rw [← hx]; simp [List.getD, hi']
    have hdx : d = .str (S x) := by
      have : (sx vs)[i]? = some (.str (S x)) := by simp [sx, hxv]
      rw [this] at hd; exact (Option.some.inj hd).symm
    subst hdx
    have hxl : x.length ≤ 100000 := hms x (List.mem_of_getElem? hxv)
    have hdrop : vs.drop i = x :: vs.drop (i + 1) := by
      have := List.drop_eq_getElem_cons hi'
      rw [this]; congr 1
      rw [List.getElem?_eq_getElem hi'] at hxv; exact Option.some.inj hxv
    rw [hdrop, seqIn] at hJ
    refine run_assign (d := .int (fndI got x (posAt got hi vs p.length i) hi)) st (Ev.find4 hhil (Ev.var st rfl) (Ev.var st rfl) (Ev.var st rfl) (Ev.var st rfl)) (.inl (kind_of he rfl)) (fun _ _ _ => noOwn) fun s st => ?_
    refine run_if st (Tr.cmp (Ev.var st rfl) Ev.int lt_ii) fun s st => ?_
    unfold fndI at st ⊢
    cases hf : fnd got x (posAt got hi vs p.length i) hi with
    | none =>
      rw [hf] at hJ
      refine run_return (d := .bool false) st Ev.bool fun v s st r => ret_ok st ?_
      rw [hJ]; exact r
    | some k =>
      rw [hf] at hJ st
      have hk : decide ((k : Int) < 0) = false := decide_eq_false (by omega)
      show wpAny _ _ (execs (if decide ((k : Int) < 0) then _ else _) env) _ _ _
      rw [hk]
      refine run_nil ?_
      have hpos : posAt got hi vs p.length (i + 1) = k + x.length := by
        show (match fnd got (vs.getD i []) (posAt got hi vs p.length i) hi with | none => _ | some k => k + (vs.getD i []).length) = _
        rw [hx, hf]
      refine run_augAdd (i := k) (j := x.length) st rfl (Ev.cast (Ev.lenS st.ok (kind_of he rfl) rfl (by rw [S_len, sizeLine_eq]; omega) (Ev.var st rfl)) (by rw [S_len])) (.inl (kind_of he rfl)) (fun _ _ _ => noOwn) fun s st => run_nil ⟨?_, st.weaken ?_⟩
      · rw [hJ, hpos]
      · intro y hy; simp at hy
        rcases hy with rfl | rfl | rfl
        · rw [hpos]; rfl
        all_goals rfl
  · have e : (sx vs).length = vs.length := by simp [sx]
    rw [e] at hJ
    simp [seqIn] at hJ
    refine run_return (d := .bool true) st Ev.bool fun v s st r => ret_ok st ?_
    rw [hJ]; exact r
end Mine
end

section
namespace Mine

def joinL (sep : List Nat) : List (List Nat) → List Nat
  | [] => []
  | [x] => x
  | x :: y :: r => x ++ sep ++ joinL sep (y :: r)
theorem join_S (sep : List Nat) (l : List (List Nat)) : Txt.join (S sep) (l.map S) = S (joinL sep l) := by
  show Builtin.Str.glued (S sep) (l.map S) = _
  rw [StrLaws.glued_eq_join]
  have key : ∀ (r : List (List Nat)) (x : List Nat), Str.join (S sep) ((x :: r).map S) = S (joinL sep (x :: r)) := by
    intro r
    induction r with
    | nil => intro x; simp [Str.join, joinL]
    | cons y r ih =>
      intro x
      show S x ++ S sep ++ Str.join (S sep) ((y :: r).map S) = _
      rw [ih y, S_app, S_app]
      rfl
  cases l with
  | nil => rfl
  | cons x r => exact key r x

theorem rp_strs {h : Heap} {X : Addr → Prop} : ∀ (l : List (List Nat)) (vs : List Value), RpAll h X vs (sx l) → ∃ q : List (Str × Tok), vs = strValues q ∧ q.map (·.1) = l.map S := by
  intro l
  induction l with
  | nil => intro vs r; cases r; exact ⟨[], rfl, rfl⟩
  | cons x l ih =>
    intro vs r
    cases r with
    | cons r1 r2 =>
      obtain ⟨t, rfl⟩ := r1.str_inv
      obtain ⟨q, rfl, e⟩ := ih _ r2
      exact ⟨(S x, t) :: q, rfl, by simp [e]⟩

section
variable {prog : Program} {w : World} {A : Around} {env : Env} {X : Addr → Prop} {s : Shared} {K : Frag}
theorem Ev.join {o e : Expr} {apos pos : Pos} {sep : List Nat} {l : List (List Nat)} (hsz : sep.length ≤ 100 ∧ l.length ≤ 100 ∧ ∀ x ∈ l, x.length ≤ 100000) (ho : Ev prog w A env X s o (.str (S sep))) (he' : Ev prog w A env X s e (.list (sx l)))
    (hbase : attributeBase o "join" env (eval o env) = eval o env := by rfl)
    (hfew : ((backTo pos (starEach [e] env)).all (fun x => !x.1) && (backToKw pos (keywordEach [] env)).all (fun x => x.1.isSome)
      && decide ([e].length + ([] : List Keyword).length + (if ([] : List Keyword).isEmpty then 0 else 1) < 30)) = true := by rfl)
    (hline : (apos.endLine == pos.line) = true := by rfl)
    (he : starEach [e] env = (false, eval e env) :: starEach [] env := by rfl) (hplain : (backTo pos (starEach [] env)).any (·.1) = false := by rfl) :
    Ev prog w A env X s (.Call (.Attribute o "join" apos) [e] [] pos) (.str (S (joinL sep l))) := fun s₁ k1 Q E hq => by
  refine eval_methS F.slot_str_join F.type_str_join ho (.cons he' .nil he) k1 (fun s₂ t vs k2 r2 => ?_) hbase hfew hline he hplain
  match vs, r2 with
  | [v], .cons r .nil =>
    obtain ⟨a, us, n, rfl, hl, _, hr⟩ := r.list_inv
    obtain ⟨q, hq1, hq2⟩ := rp_strs l _ hr
    have hus : us = (strValues q).toArray := by rw [← hq1]
    subst hus
    refine SC.join (l := q) (texts := l.map S) (IsL.isList (n := n) hl) hq2 ?_ fun t' k => ?_
    · unfold JoinOk
      rw [StrLaws.joinTotal]
      have e : ((l.map S).map (·.length)).sum = (l.map List.length).sum := by
        rw [List.map_map]; congr 1
      have hs : ∀ l : List (List Nat), (∀ x ∈ l, x.length ≤ 100000) → (l.map List.length).sum ≤ 100000 * l.length := by
        intro l
        induction l with
        | nil => intro _; simp
        | cons x r ih =>
          intro h
          have h1 := h x (by simp)
          have h2 := ih fun y hy => h y (by simp [hy])
          simp only [List.map_cons, List.sum_cons, List.length_cons]
          omega
      have := hs l hsz.2.2
      rw [e, S_len]
      unfold Builtin.Str.tooLong
      rw [Bool.not_eq_true']
      refine decide_eq_false ?_
      rw [sizeLine_eq]
      have h1 : (l.map S).length * sep.length ≤ 100 * 100 := Nat.mul_le_mul (by rw [List.length_map]; omega) hsz.1
      omega
    · rw [join_S]
      exact hq _ _ (k2.trans (.tok _ _)) (.str _ _)
end
end Mine
end

section
namespace Mine
theorem items_ints {R : WRecords} : ∀ {xs : List WData}, WShape.hasItems R xs .int = true → ∃ ns : List Int, xs = ns.map .int := by
  intro xs
  induction xs with
  | nil => exact fun _ => ⟨[], rfl⟩
  | cons d r ih =>
    intro h
    have h' : (WShape.has R d .int && WShape.hasItems R r .int) = true := by simpa [WShape.hasItems] using h
    rw [Bool.and_eq_true] at h'
    obtain ⟨i, rfl⟩ := hasW_int h'.1
    obtain ⟨ns, rfl⟩ := ih h'.2
    exact ⟨i :: ns, rfl⟩
theorem pre_law {l : OpenLaw} {args : List WData} (h : l.row.claim.pre args = true) (hlay : WData.layableAll args = true) : ∃ ns : List Int, args = [.list (ns.map .int)] ∧ ns.length ≤ 1048576 := by
  have h1 := (pre_splitW h).1
  obtain ⟨d, r, rfl, h2, h3⟩ := hasAllW_cons (e := .list .int) (es := []) h1
  have := hasAllW_nil h3
  subst this
  obtain ⟨xs, rfl, h4⟩ := hasW_list h2
  obtain ⟨ns, rfl⟩ := items_ints h4
  refine ⟨ns, rfl, ?_⟩
  have := length_le_of_layableW (xs := ns.map .int) (layableW_arg hlay _ (by simp))
  simpa using this
theorem rp_ints {P : Params} {h : Heap} {X : Addr → Prop} {v : Value} {ns : List Int} (hw : Well P h v (.list (ns.map .int))) (hX : ∀ a, ¬ X a) : Rp h X v (.list (ns.map .int)) := by
  have all : ∀ (ns : List Int) (vs : List Value), WellAll P h vs (ns.map .int) → RpAll h X vs (ns.map .int) := by
    intro ns
    induction ns with
    | nil => intro vs h; cases h; exact .nil
    | cons n r ih =>
      intro vs h
      cases h with
      | cons h1 h2 =>
        cases h1
        exact .cons (.int _ _) (ih _ h2)
  cases hw with
  | list h1 h2 => exact .list h1 (hX _) (by simpa using all ns _ h2)
end Mine
theorem entry (fn_law : ∀ (prog : Program) (w : World) (P : Params) (ns : List Int), ns.length ≤ 1048576 → Mine.Fn prog w (hd2.heap_39 P) (.ref 79) 9 [.list (ns.map .int)] (.bool true)) : PySem.Challenge.rw_pk0031_02.Holds := by
  refine hd2 ?_
  intro w s₀ s₁ mg mb G Y fa o pm cd doc dV kV ho hd' hcd hD hmg hg args vals as hpre hlay hrd hwl hlo
  have KX := kIn_of Y
  have ge : Mine.GE (hd2.heap_39 w.params) s₁.heap := ⟨KX, G.T.nolimit, mg, mb, G.T.g, G.T.b, G.T.builtins⟩
  have hfa : some (Value.ref fa) = some (.ref 79) := hmg.symm.trans (mg_of (n := "law") KX G.T.g rfl)
  cases hfa
  obtain ⟨ns, rfl, hl⟩ := Mine.pre_law hpre hlay
  match vals, hwl with
  | [v], .cons h1 .nil =>
    have rp := Mine.rp_ints (X := fun _ => False) h1 (fun _ h => h)
    refine fn_law _ w w.params ns hl callerA (fun _ => False) s₁ [v] ?_ ge (fun _ h => h.elim) (.cons rp .nil) _ _ fun u s' k r => ?_
    · exact ⟨rfl, by decide +kernel, by decide +kernel⟩
    · obtain rfl := r.bool_inv
      obtain ⟨h', tk, rfl, hk⟩ := k
      refine ⟨.inl ⟨_, .bool true, [], rfl, fun _ => rfl, .bool _, ?_, fun _ => ⟨.nil, fun _ h => by cases h⟩⟩, .of_keep hk, rfl, .of_eq hg⟩
      exact postW_of (by wrow_shape) (by wtm_val) (by w_fin)
end

section
namespace Mine
section
variable {prog : Program} {w : World} {K : Frag} {A : Around} {env : Env} {X : Addr → Prop} {s : Shared}

theorem foldl_append_nil {α : Type} : ∀ (n : Nat) (a acc : Array α), List.foldl (fun x1 x2 => x1 ++ x2) acc (List.replicate n a) = acc ++ (List.replicate n a.toList).flatten.toArray
  | 0, a, acc => by simp
  | n + 1, a, acc => by
    rw [List.replicate_succ, List.foldl_cons, foldl_append_nil n]
    apply Array.ext'
    simp [List.replicate_succ]

/-- a list as often as told -/
theorem Ev.repL {l r : Expr} {pos : Pos} {xs : List PyData} {n : Int} (ok : Ok K A env X s) (h0 : -(2 ^ 62) ≤ n) (hn : n ≤ 1000) (hx : xs.length ≤ 1000) (hl : Ev prog w A env X s l (.list xs)) (hr : Ev prog w A env X s r (.int n)) :
    Ev prog w A env X s (.BinOp l .Mult r pos) (.list (List.replicate n.toNat xs).flatten) :=
  hl.bin hr fun s₁ v u k r1 r2 Q E hq => by
    obtain ⟨a, vs, m, rfl, ha, _, q1⟩ := r1.list_inv
    obtain ⟨t, rfl⟩ := r2.int_inv
    have h1 : vs.size = xs.length := by rw [← q1.length]; simp
    have hsz : vs.size * n.toNat ≤ 1000000 := by
      have : vs.size * n.toNat ≤ 1000 * 1000 := Nat.mul_le_mul (by omega) (by omega)
      omega
    refine wpAny_binaryOp_repeat_ref (T := "list") (U := "int") (by decide) ⟨_, ha, rfl⟩ (fun s' => typeIs_int s' n t) noFill_list_mul F.fills_int_mul F.slot_int_rmul repeat_list F.slot_int_index.lookup
      (call_meets F.slot_int_rmul (typeIs_int s₁ n t) F.entry_int_rmul (F.args_int_rmul_2 _ _) (int___rmul___int_list n t a vs m)
        ⟨ha, rfl, ⟨_, ha, rfl⟩, call_meets F.slot_list_mul ⟨_, ha, rfl⟩ F.entry_list_mul (F.args_list_mul_2 _ _)
          (AutoListH.list___mul___list_int_3 a vs m n t (by simp [Builtin.List.listFitsIndex]; omega) (by omega) (by simp [Builtin.List.listTooLong, sizeLine]; omega))
          ⟨ha, ?_⟩⟩)
    have e : (List.foldl (fun x1 x2 => x1 ++ x2) #[] (List.replicate (if vs.isEmpty = true then 0 else n.toNat) vs)) = ((List.replicate n.toNat vs.toList).flatten).toArray := by
      by_cases hv : vs.isEmpty = true
      · rw [if_pos hv]
        have : vs = #[] := by simpa using hv
        subst this
        simp
      · rw [if_neg hv, foldl_append_nil]; simp
    have key : ∀ k, RpAll s₁.heap X (List.replicate k vs.toList).flatten (List.replicate k xs).flatten := by
      intro k
      induction k with
      | zero => exact .nil
      | succ k ih =>
        rw [List.replicate_succ, List.replicate_succ, List.flatten_cons, List.flatten_cons]
        exact q1.append ih
    simp only [e]
    exact hq _ _ (.push' _ _) (rp_new_list (ok.keeps k) (key n.toNat) s₁.toks)

theorem Ev.pow {l r : Expr} {pos : Pos} {a : Int} {n : Nat} (ha : a.natAbs < 2 ^ 64) (hn : n ≤ 1000000) (hl : Ev prog w A env X s l (.int a)) (hr : Ev prog w A env X s r (.int n)) : Ev prog w A env X s (.BinOp l .Pow r pos) (.int (a ^ n)) :=
  hl.bin hr fun s₁ v u k r1 r2 Q E hq => by
    obtain ⟨t, rfl⟩ := r1.int_inv; obtain ⟨t', rfl⟩ := r2.int_inv
    refine pow_int_small (by omega) (by omega) ha ?_
    rw [Int.toNat_natCast]
    exact hq _ _ (.tok _ _) (.int _ _)

theorem Ev.or2 {x y : Expr} {pos : Pos} {a b : Bool} (hx : Ev prog w A env X s x (.bool a)) (hy : a = false → Ev prog w A env X s y (.bool b)) : Ev prog w A env X s (.BoolOp .Or [x, y] pos) (.bool (a || b)) := fun s₁ k Q E hq =>
  wpAny_Or2 (hx s₁ k _ _ fun v s₂ k2 r2 => by
    obtain rfl := r2.bool_inv
    refine wpAny_truthy_bool ?_
    cases a with
    | true => exact hq _ _ k2 (.bool _)
    | false => exact hy rfl s₂ (k.trans k2) Q E fun v s₃ k3 r3 => hq _ _ (k2.trans k3) r3)

theorem ne_ss {a b : Str} : CmpStep prog w A X s .NotEq (.str a) (.str b) (a != b) := fun s₁ v u k r1 r2 Q E hq => by
  obtain ⟨t, rfl⟩ := r1.str_inv; obtain ⟨t', rfl⟩ := r2.str_inv
  exact PyProof.Rows.ne_str (hq _ _ (.refl _) (.bool _))

theorem Ev.sliceTo {v hi : Expr} {p pos : Pos} {x : Str} {j : Int} (hv : Ev prog w A env X s v (.str x)) (hhi : Ev prog w A env X s hi (.int j))
    (hsz : x.length ≤ sizeLine) : Ev prog w A env X s (.Subscript v (.Slice none (some hi) none p) pos) (.str (Txt.slice x none (some j))) := fun s₁ k1 Q E hq =>
  Subscript_ (hv s₁ k1 _ _ fun o s₂ k2 r2 => wpAny_Slice (wpAny_evalPart_none (wpAny_evalPart_some (hhi s₂ (k1.trans k2) _ _ fun u s₃ k3 r3 => by
    rw [evalPart_none]
    refine wpAny_pure ?_
    obtain ⟨t, rfl⟩ := r2.str_inv
    obtain ⟨t', rfl⟩ := r3.int_inv
    refine tail_any (T := "str") (s := { s₃ with heap := s₃.heap.push { cls := .type "slice", data := .fields #[.none, .int j t', .none] } }) (typeIs_str _ _ _) F.slot_str_getitem.lookup ?_ (ops := [.ref s₃.heap.objs.size, .str x t]) rfl
    exact wpAny_getItem_str_slice (l := none) (u := some (j, t')) (st := none) ⟨_, Heap.get?_push_size _ rfl, rfl, rfl⟩ rfl
      (post_val_or_str ⟨Nat.le_trans (Txt.slice_le x _ _) hsz, fun t' k => hq _ _ (k2.trans (k3.trans (.push _ _ _))) (.str _ _)⟩)))))
end

theorem slice_one (l : List Nat) : Txt.slice (S l) none (some 1) = S (l.take 1) := by
  cases l with
  | nil => decide +kernel
  | cons c r =>
    have := StrLaws.sliceText_to (x := S (c :: r)) (j := 1) ⟨by decide, by simp [S]; omega⟩
    refine Eq.trans this ?_
    simp [S]
theorem slice_last (l : List Nat) (h : l ≠ []) : Txt.slice (S l) none (some (-1)) = S l.dropLast := by
  have hl := List.length_pos_iff.mpr h
  have := StrLaws.sliceText_to_neg (x := S l) (j := -1) (by decide) (by rw [S_len]; omega)
  refine Eq.trans this ?_
  rw [S_len, List.dropLast_eq_take]
  unfold S
  congr 2
  simp
  omega

/-- plain signs -/
def Low (l : List Nat) : Prop := ∀ c ∈ l, c < 128
theorem strOk_S {l : List Nat} (h : Low l) : PyData.strOk (S l) = true := by
  unfold PyData.strOk S
  rw [Array.all_eq_true']
  intro c hc
  have := h c (by simpa using hc)
  simp; omega
theorem shaped_str {l : List Nat} (h : Low l) : SeqAt.shaped (.str (S l)) = true := by
  simp [SeqAt.shaped, PyData.canLay0, PyData.depth, strOk_S h]
theorem canLay_strs (l : List (List Nat)) (hl : ∀ x ∈ l, Low x) : PyData.canLayAll0 (sx l) = true := by
  induction l with
  | nil => rfl
  | cons n r ih =>
    simp only [sx, List.map_cons, PyData.canLayAll0, PyData.canLay0, strOk_S (hl n (by simp))]
    exact ih fun x hx => hl x (by simp [hx])
theorem shaped_strs (l : List (List Nat)) (hl : ∀ x ∈ l, Low x) : SeqAt.shaped (.list (sx l)) = true := by
  unfold SeqAt.shaped
  have h1 := canLay_strs l hl
  have h2 : PyData.depthAll (sx l) = 0 := by
    clear h1 hl
    induction l with
    | nil => rfl
    | cons n r ih => simp only [sx, List.map_cons, PyData.depthAll, PyData.depth]; rw [show PyData.depthAll (List.map _ r) = _ from ih]; rfl
  simp [PyData.canLay0, h1, PyData.depth, h2]
theorem eqv_strs (l : List (List Nat)) (hl : ∀ x ∈ l, Low x) : PyData.eqv (.list (sx l)) (.list (sx l)) = true := by
  rw [PyData.eqv]
  exact SeqAt.eqvAll_refl _ (canLay_strs l hl)
end Mine
end

section
namespace Mine
open PySem.Builtin PySem.Builtin.Str
/-! line ends -/
def pre2 (l : List Nat) : Bool := l.take 2 == [13, 10]
def cut2 : List Nat → Nat → Nat → List Nat
  | [], _, _ => []
  | _ :: r, i, k + 1 => cut2 r (i + 1) k
  | c :: r, i, 0 => if pre2 (c :: r) then i :: cut2 r (i + 1) 1 else cut2 r (i + 1) 0

theorem pre2_len {l : List Nat} (h : pre2 l = true) : 2 ≤ l.length := by
  unfold pre2 at h
  have := congrArg List.length (eq_of_beq h)
  simp at this
  omega

theorem occ_cut2 (x : List Nat) (limit : Nat) (hlim : x.length < limit) : ∀ (l : List Nat) (i free : Nat) (acc : Array Nat), x.drop i = l → i ≤ x.length → acc.size ≤ i →
    (forIn (List.range' i (x.length + 1 - i)) (acc, free) (StrLaws.occBody (S x) (S [13, 10]) x.length limit)).run.fst.toList = acc.toList ++ cut2 l i (free - i) := by
  intro l
  induction l with
  | nil =>
    intro i free acc hl hi hacc
    have : i = x.length := by have := congrArg List.length hl; simp at this; omega
    subst this
    rw [show x.length + 1 - x.length = 1 by omega]
    simp only [List.range'_one, List.forIn_cons, StrLaws.occBody]
    rw [if_neg (by rintro ⟨⟨_, h⟩, _⟩; rw [S_len] at h; simp at h; omega)]
    simp [cut2]
  | cons c r ih =>
    intro i free acc hl hi hacc
    have hlen : x.length = i + (r.length + 1) := by have := congrArg List.length hl; simp at this; omega
    have hr : x.drop (i + 1) = r := by rw [← List.drop_drop, hl]; rfl
    rw [show x.length + 1 - i = (x.length + 1 - (i + 1)) + 1 by omega, List.range'_succ, List.forIn_cons]
    unfold StrLaws.occBody
    cases hk : free - i with
    | succ k =>
      rw [if_neg (by rintro ⟨⟨⟨_, h⟩, _⟩, _⟩; simp at h; omega)]
      have := ih (i + 1) free acc hr (by omega) (by omega)
      rw [show free - (i + 1) = k by omega] at this
      exact this
    | zero =>
      by_cases hp : pre2 (c :: r) = true
      · have h3 := pre2_len hp
        rw [if_pos ⟨⟨⟨by simp; omega, by simp; omega⟩, by rw [S_len]; simp at h3 ⊢; omega⟩, by rw [subAt_iff, hl]; exact eq_of_beq hp⟩]
        have := ih (i + 1) (i + 2) (acc.push i) hr (by omega) (by simp; omega)
        rw [show i + 2 - (i + 1) = 1 by omega] at this
        rw [cut2, if_pos hp]
        refine Eq.trans this ?_
        simp
      · rw [if_neg (by
          rintro ⟨_, h⟩
          rw [subAt_iff, hl] at h
          exact hp (beq_iff_eq.mpr h))]
        have := ih (i + 1) free acc hr (by omega) (by omega)
        rw [show free - (i + 1) = 0 by omega] at this
        rw [cut2, if_neg hp]
        exact this

theorem occ_crlf (x : List Nat) : occurrences (S x) (S [13, 10]) 0 (S x).length ((S x).length + 1) = cut2 x 0 0 := by
  rw [StrLaws.occ_eq, S_len]
  have := occ_cut2 x (x.length + 1) (by omega) x 0 0 #[] rfl (by omega) (by simp)
  simpa using this

/-! the pieces between them -/
def pk2 : List Nat → Nat → List (List Nat)
  | [], _ => [[]]
  | _ :: r, k + 1 => pk2 r k
  | c :: r, 0 => if pre2 (c :: r) then [] :: pk2 r 1 else hcons [c] (pk2 r 0)
def parts2 (x : List Nat) : Nat → List Nat → List (List Nat)
  | st, [] => [x.drop st]
  | st, c :: cs => ((x.drop st).take (c - st)) :: parts2 x (c + 2) cs
theorem pk2_ne : ∀ (l : List Nat) (k : Nat), pk2 l k ≠ [] := by
  intro l
  induction l with
  | nil => intro k; simp [pk2]
  | cons c r ih =>
    intro k
    cases k with
    | succ k => exact ih k
    | zero =>
      rw [pk2]; split
      · simp
      · cases h : pk2 r 0 <;> simp [hcons]
theorem parts2_pk2 (x : List Nat) : ∀ (l : List Nat) (i : Nat), x.drop i = l → i ≤ x.length →
    (∀ st, st ≤ i → parts2 x st (cut2 l i 0) = hcons ((x.drop st).take (i - st)) (pk2 l 0)) ∧ ∀ k, i + k ≤ x.length → parts2 x (i + k) (cut2 l i k) = pk2 l k := by
  intro l
  induction l with
  | nil =>
    intro i hl hi
    have hx : i = x.length := by have := congrArg List.length hl; simp at this; omega
    subst hx
    refine ⟨fun st hst => ?_, fun k hk => ?_⟩
    · simp only [cut2, parts2, pk2, hcons, List.append_nil]
      rw [List.take_of_length_le (by simp)]
    · have : k = 0 := by omega
      subst this
      simp [cut2, parts2, pk2]
  | cons c r ih =>
    intro i hl hi
    have hlen : x.length = i + (r.length + 1) := by have := congrArg List.length hl; simp at this; omega
    have hr : x.drop (i + 1) = r := by rw [← List.drop_drop, hl]; rfl
    obtain ⟨h1, h2⟩ := ih (i + 1) hr (by omega)
    have first : ∀ st, st ≤ i → parts2 x st (cut2 (c :: r) i 0) = hcons ((x.drop st).take (i - st)) (pk2 (c :: r) 0) := by
      intro st hst
      rw [cut2, pk2]
      by_cases hp : pre2 (c :: r) = true
      · have h3 := pre2_len hp
        rw [if_pos hp, if_pos hp, parts2, hcons, List.append_nil]
        have := h2 1 (by simp at h3; omega)
        rw [show i + 1 + 1 = i + 2 by omega] at this
        rw [this]
      · rw [if_neg hp, if_neg hp, h1 st (by omega), hcons_hcons]
        congr 1
        have e : (x.drop st)[i - st]? = some c := by
          rw [List.getElem?_drop, show st + (i - st) = i by omega]
          have : (x.drop i)[0]? = some c := by rw [hl]; rfl
          simpa using this
        rw [show i + 1 - st = (i - st) + 1 by omega, List.take_add_one, e]
        rfl
    refine ⟨first, fun k hk => ?_⟩
    cases k with
    | zero =>
      rw [Nat.add_zero, first i (Nat.le_refl _), Nat.sub_self, List.take_zero]
      cases h : pk2 (c :: r) 0 with
      | nil => exact absurd h (pk2_ne _ _)
      | cons q s => simp [hcons]
    | succ k =>
      have := h2 k (by omega)
      rw [show i + 1 + k = i + (k + 1) by omega] at this
      exact this

theorem parts2_between (x : List Nat) : ∀ (cs : List Nat) (st : Nat), ((st :: cs.map (· + 2)).zip (cs ++ [x.length])).map (fun (i, j) => strSub (S x) i j) = (parts2 x st cs).map S := by
  have sub : ∀ i j, strSub (S x) i j = S ((x.drop i).take (j - i)) := fun i j => Str.ext' (by simp [strSub, S, List.extract_eq_take_drop])
  intro cs
  induction cs with
  | nil => intro st; simp only [List.map_nil, List.nil_append, List.zip_cons_cons, List.zip_nil_right, List.map_cons, parts2, sub]; rw [List.take_of_length_le (by simp)]
  | cons c r ih =>
    intro st
    have := ih (c + 2)
    simp only [List.map_cons, List.cons_append, List.zip_cons_cons, parts2, sub] at this ⊢
    rw [this]


theorem split_crlf (x : List Nat) : partsBetween (S x) (occurrences (S x) (S [13, 10]) 0 (S x).length ((S x).length + 1)) (S [13, 10]).length = (pk2 x 0).map S := by
  rw [occ_crlf]
  show ((0 :: (cut2 x 0 0).map (· + 2)).zip (cut2 x 0 0 ++ [(S x).length])).map (fun (i, j) => strSub (S x) i j) = _
  rw [S_len, parts2_between]
  have := ((parts2_pk2 x x 0 rfl (by omega)).2 0 (by omega))
  rw [Nat.zero_add] at this
  rw [this]
theorem replace_crlf (x z : List Nat) : Txt.replace (S x) (S [13, 10]) (S z) = S (joinL z (pk2 x 0)) := by
  unfold Txt.replace
  have hs := split_crlf x
  split
  · rename_i h
    have h1 : (occurrences (S x) (S [13, 10]) 0 (S x).length ((S x).length + 1)).isEmpty = true := by
      rw [Bool.or_eq_true] at h
      rcases h with h | h
      · exact h
      · rw [S_len] at h; simp at h
    rw [List.isEmpty_iff] at h1
    rw [h1] at hs
    have e : (pk2 x 0).map S = [S x] := by
      rw [← hs]
      show [strSub (S x) 0 (S x).length] = _
      rw [StrLaws.sub_whole]
    match hp : pk2 x 0, e with
    | [p], e =>
      simp at e
      rw [joinL, e]
  · rw [hs, StrLaws.glued_eq_join, ← StrLaws.glued_eq_join]
    exact join_S z (pk2 x 0)

theorem pre2_ne {c : Nat} {r : List Nat} (h : c ≠ 13) : pre2 (c :: r) = false := by
  unfold pre2
  cases r <;> simp [h]
theorem pk2_row (r rest : List Nat) (h : 13 ∉ r) : pk2 (r ++ 13 :: 10 :: rest) 0 = r :: pk2 rest 0 := by
  induction r with
  | nil =>
    show pk2 (13 :: 10 :: rest) 0 = _
    rw [pk2, if_pos (by simp [pre2])]
    rfl
  | cons c r ih =>
    rw [List.cons_append, pk2, if_neg (by rw [pre2_ne (fun e => h (by simp [e]))]; decide), ih fun q => h (by simp [q])]
    rfl
theorem pk2_end (r : List Nat) (h : 13 ∉ r) : pk2 r 0 = [r] := by
  induction r with
  | nil => rfl
  | cons c r ih =>
    rw [pk2, if_neg (by rw [pre2_ne (fun e => h (by simp [e]))]; decide), ih fun q => h (by simp [q])]
    rfl
theorem pk2_join : ∀ (rows : List (List Nat)), rows ≠ [] → (∀ r ∈ rows, 13 ∉ r) → pk2 (joinL [13, 10] rows) 0 = rows
  | [], h, _ => absurd rfl h
  | [x], _, h => pk2_end x (h x (by simp))
  | x :: y :: r, _, h => by
    show pk2 (x ++ [13, 10] ++ joinL [13, 10] (y :: r)) 0 = _
    rw [List.append_assoc]
    show pk2 (x ++ 13 :: 10 :: joinL [13, 10] (y :: r)) 0 = _
    rw [pk2_row _ _ (h x (by simp)), pk2_join (y :: r) (by simp) fun z hz => h z (by simp at hz ⊢; right; exact hz)]
theorem replace_join (z : List Nat) (rows : List (List Nat)) (h0 : rows ≠ []) (h : ∀ r ∈ rows, 13 ∉ r) : Txt.replace (S (joinL [13, 10] rows)) (S [13, 10]) (S z) = S (joinL z rows) := by
  rw [replace_crlf, pk2_join rows h0 h]
end Mine
end

section
namespace Mine
section
variable {prog : Program} {w : World} {K : Frag} {A : Around} {env : Env} {X : Addr → Prop} {s : Shared}

/-- y0 + x.replace(y, z), all written but x -/
theorem Ev.addReplace {x y0 y z : Str} {k0 k1 k2 : Nat} {p0 p1 p2 p apos pos bpos : Pos} {t : Str} (ok : Ok K A env X s) (hx : Has env X s.heap x (.str t)) (hyz : (y == z) = false) (hb : t.length ≤ 100000) (hz : z.length ≤ 14) (hy0 : y0.length ≤ 100)
    (hr : (Txt.replace t y z).length ≤ 3000000)
    (hbase : attributeBase (.Name x p) "replace" env (eval (.Name x p) env) = eval (.Name x p) env := by rfl)
    (hfew : ((backTo pos (starEach [.Constant (.str y) k1 p1, .Constant (.str z) k2 p2] env)).all (fun x => !x.1) && (backToKw pos (keywordEach [] env)).all (fun x => x.1.isSome)
      && decide (([.Constant (.str y) k1 p1, .Constant (.str z) k2 p2] : List Expr).length + ([] : List Keyword).length + (if ([] : List Keyword).isEmpty then 0 else 1) < 30)) = true := by rfl)
    (hline : (apos.endLine == pos.line) = true := by rfl)
    (he : starEach [.Constant (.str y) k1 p1, .Constant (.str z) k2 p2] env = [(false, eval (.Constant (.str y) k1 p1) env), (false, eval (.Constant (.str z) k2 p2) env)] := by rfl)
    (hd : (x == ("__debug__" : Str)) = false := by decide) :
    Ev prog w A env X s (.BinOp (.Constant (.str y0) k0 p0) .Add (.Call (.Attribute (.Name x p) "replace" apos) [.Constant (.str y) k1 p1, .Constant (.str z) k2 p2] [] pos) bpos) (.str (y0 ++ Txt.replace t y z)) := fun s₁ kp Q E hq => by
  obtain ⟨v, hv, hrv⟩ := hx.keeps kp.keep
  obtain ⟨tt, rfl⟩ := hrv.str_inv
  refine wpAny_BinOp (wpAny_Constant_str ?_)
  refine wpAny_Call_method_lateS hbase hfew hline ?_
  have kp1 : Kp s₁ { s₁ with toks := s₁.toks + 1 } := .tok _ _
  refine wpAny_Name (load_var ok.kf (hv.keeps kp1.keep) ?_) hd
  refine ⟨"str", "str.replace", F.plainAttrs_str, F.slot_str_replace, F.type_str_replace, typeIs_str _ _ _, (fun _ e => nomatch e), ?_⟩
  rw [he]
  refine Calls.callWith_builtin rfl (Calls.evalArgs_plain (Calls.spliced_cons (wpAny_Constant_str (k := k1) (pos := p1) (Calls.spliced_cons (wpAny_Constant_str (k := k2) (pos := p2) (Calls.spliced_nil ?_))))))
  refine SC.replaceW (by simp) (by simp) (by simp) hyz (by omega) hz fun t' k => ?_
  refine SB.add (fun t'' k' => ?_) (by rw [sizeLine_eq]; omega)
  exact hq _ _ (.tok _ _) (.str _ _)
end
end Mine
end

section
namespace Mine
theorem span_get {a b : Int} {i : Nat} {d : PyData} (h : ((span a b).map PyData.int)[i]? = some d) : i < (b - a).toNat ∧ d = .int (a + i) := by
  have hi : i < (b - a).toNat := by
    have := (List.getElem?_eq_some_iff.mp h).1
    simpa [span] using this
  refine ⟨hi, ?_⟩
  simp [span, hi] at h
  exact h.symm
def il (l : List Int) : PyData := .list (l.map .int)
theorem map_get_some {α : Type} {f : α → PyData} {l : List α} {i : Nat} {d : PyData} (h : (l.map f)[i]? = some d) : ∃ x, l[i]? = some x ∧ d = f x := by
  rw [List.getElem?_map] at h
  cases e : l[i]? with
  | none => rw [e] at h; cases h
  | some x => rw [e] at h; cases h; exact ⟨x, rfl, rfl⟩
theorem cutL_map {α β : Type} (f : α → β) (l : List α) (a b : Option Int) : cutL (l.map f) a b = (cutL l a b).map f := by
  simp [cutL, List.map_take, List.map_drop]
theorem il_len (l : List Int) (h : l.length ≤ 1000) : (l.map PyData.int).length ≤ sizeLine := by rw [List.length_map, sizeLine_eq]; omega
theorem cutL_all {α : Type} (l : List α) (a b : Option Int) : (cutL l a b).length ≤ l.length := by
  unfold cutL; simp; omega
theorem cut_to {α : Type} (l : List α) (c : Int) (h0 : 0 ≤ c) (h1 : c ≤ l.length) : cutL l none (some c) = l.take c.toNat := by
  unfold cutL clipAt
  simp only [Option.elim, List.drop_zero]
  rw [if_neg (by omega)]
  congr 1
  omega
theorem cut_from {α : Type} (l : List α) (c : Int) (h0 : 0 ≤ c) (h1 : c ≤ l.length) : cutL l (some c) none = l.drop c.toNat := by
  unfold cutL clipAt
  simp only [Option.elim, List.take_length]
  rw [if_neg (by omega)]
  congr 1
  omega
def loneOf (b : Int) : List Nat := if b = 1 then [13] else [10]
def asInts : PyData → List Int
  | .list xs => xs.map fun | .int i => i | _ => 0
  | _ => []
theorem asInts_il (l : List Int) : asInts (il l) = l := by
  simp [asInts, il, Function.comp_def]
def asInt : PyData → Int
  | .int i => i
  | _ => 0
def asText : PyData → List Nat
  | .str x => x.cps.toList
  | _ => []
theorem asText_S (l : List Nat) : asText (.str (S l)) = l := by simp [asText, S]
theorem lones (b : Int) (h0 : 0 ≤ b) (h1 : b < 2) : ([PyData.str "\n", PyData.str "\r"])[b.toNat]? = some (.str (S (loneOf b))) := by
  have : b = 0 ∨ b = 1 := by omega
  rcases this with rfl | rfl
  · show some (PyData.str (Str.ofString "\n")) = _; rw [S_lf]; rfl
  · show some (PyData.str (Str.ofString "\r")) = _; rw [S_cr]; rfl
theorem compOk {env : Env} {scope : Scope} {x : Str} {caps : List (Str × PyData)} (names : List Str) (hn : caps.map (·.1) = names) (kind : scope.kind = .function)
    (hnames : ∀ y ∈ scope.names, y.2 = .local → scope.names.lookup y.1 = some .local) (var : scope.names.lookup x = some .local ∨ scope.names.lookup x = some .cell)
    (free : ∀ y ∈ scope.names, y.2 = .free → y.1 ∈ names) (cap : ∀ y ∈ names, scope.names.lookup y = some .free ∧ (y, NameKind.cell) ∉ scope.names ∧ y ≠ x)
    (out : ∀ y ∈ names, env.kindOf y = some .cell ∨ (env.kindOf y = some .free ∧ (y == ("__classdict__" : Str)) = false)) (cd : scope.names.lookup ("__classdict__" : Str) = none) : CompOk env scope x caps := by
  have hin : ∀ y d, caps.lookup y = some d → y ∈ names := fun y d h => by
    rw [← hn]; exact List.mem_map.mpr ⟨(y, d), PySem.mem_of_lookup h, rfl⟩
  refine ⟨kind, hnames, var, fun y hy hk => ?_, fun y d h => cap y (hin y d h), fun y d h => out y (hin y d h), fun y hy => ?_⟩
  · have := free y hy hk
    rw [← hn] at this
    obtain ⟨q, hq, e⟩ := List.mem_map.mp this
    cases hl : caps.lookup y.1 with
    | some _ => rfl
    | none =>
      exfalso
      have : ∀ (l : List (Str × PyData)), q ∈ l → l.lookup y.1 ≠ none := by
        intro l
        induction l with
        | nil => intro h; cases h
        | cons a r ih =>
          intro h e'
          rw [List.lookup_cons] at e'
          split at e'
          · cases e'
          · rcases List.mem_cons.mp h with rfl | h
            · rename_i hne; simp [e] at hne
            · exact ih h e'
      exact this caps hq hl
  · rw [eq_of_beq hy]; exact cd
theorem all_true {α β γ : Type} (l : List α) (g : α → β) (f : β → γ) : (((l.map g).filter fun _ => true).map f) = l.map fun a => f (g a) := by
  have : ∀ l : List β, (l.filter fun _ => true) = l := fun l => by induction l <;> simp_all [List.filter]
  rw [this, List.map_map]; rfl
theorem span0 (n : Nat) : span 0 (n : Int) = (List.range n).map fun (i : Nat) => (i : Int) := by simp [span]
theorem sx_map (l : List (List Nat)) (g : List Nat → List Nat) : (((sx l).filter fun _ => true).map fun d => PyData.str (S (g (asText d)))) = sx (l.map g) := by
  unfold sx; rw [all_true, List.map_map]; simp [asText_S]
theorem joinL_len (sep : List Nat) (m : Nat) : ∀ l : List (List Nat), (∀ x ∈ l, x.length ≤ m) → (joinL sep l).length ≤ l.length * (m + sep.length)
  | [], _ => by simp [joinL]
  | [x], h => by have := h x (by simp); simp [joinL]; omega
  | x :: y :: r, h => by
    have h1 := h x (by simp)
    have h2 := joinL_len sep m (y :: r) fun z hz => h z (by simp at hz ⊢; right; exact hz)
    simp only [joinL, List.length_append, List.length_cons] at h2 ⊢
    rw [Nat.succ_mul]
    omega
abbrev markT : List Nat := [13, 10, 46, 13, 10]
theorem S_mark : (Str.ofString "\r\n.\r\n") = S markT := by decide +kernel
abbrev crlf : List Nat := [13, 10]
theorem joinL_flat (sep x : List Nat) : ∀ (r : List (List Nat)), joinL sep (x :: r) = x ++ r.flatMap fun y => sep ++ y := by
  intro r
  induction r generalizing x with
  | nil => simp [joinL]
  | cons y r ih => rw [joinL, ih y]; simp
def Fine (r : List Nat) : Prop := ∀ c ∈ r, c = 46 ∨ c = 97
theorem Fine.nl {r : List Nat} (h : Fine r) : ∀ c ∈ r, nl c = false := fun c hc => by
  rcases h c hc with rfl | rfl <;> rfl
theorem nrm_join (rows : List (List Nat)) (h : ∀ r ∈ rows, Fine r) : nrm false (joinL crlf rows) = joinL crlf rows := by
  cases rows with
  | nil => rfl
  | cons x xs =>
    rw [joinL_flat, nrm_pre _ _ (h x (by simp)).nl]
    congr 1
    have h' : ∀ r ∈ xs, Fine r := fun r hr => h r (by simp [hr])
    clear h
    induction xs with
    | nil => rfl
    | cons y ys ih =>
      rw [List.flatMap_cons, List.append_assoc]
      show nrm false (13 :: 10 :: (y ++ _)) = _
      have : ∀ l, nrm false (13 :: 10 :: l) = 13 :: 10 :: nrm false l := fun l => by simp [nrm]
      rw [this, nrm_pre _ _ (h' y (by simp)).nl, ih fun r hr => h' r (by simp [hr])]
      rfl
def dub (r : List Nat) : List Nat := if r.head? = some 46 then 46 :: r else r
theorem qt_false (r rest : List Nat) (h : Fine r) : qt false (r ++ 13 :: 10 :: rest) = r ++ 13 :: 10 :: qt true rest := by
  induction r with
  | nil => simp [qt]
  | cons c r ih =>
    have hc : (c == 10) = false := by rcases h c (by simp) with rfl | rfl <;> rfl
    rw [List.cons_append, qt, hc, if_neg (by simp), ih fun d hd => h d (by simp [hd])]
    rfl
theorem qt_false' (r : List Nat) (h : Fine r) : qt false r = r := by
  induction r with
  | nil => rfl
  | cons c r ih =>
    have hc : (c == 10) = false := by rcases h c (by simp) with rfl | rfl <;> rfl
    rw [qt, hc, if_neg (by simp), ih fun d hd => h d (by simp [hd])]
theorem qt_true (r rest : List Nat) (h : Fine r) : qt true (r ++ 13 :: 10 :: rest) = dub r ++ 13 :: 10 :: qt true rest := by
  cases r with
  | nil => simp [qt, dub]
  | cons c r =>
    have hr : Fine r := fun d hd => h d (by simp [hd])
    rcases h c (by simp) with rfl | rfl
    · rw [List.cons_append, qt, if_pos (by rfl), qt_false _ _ hr]; simp [dub]
    · rw [List.cons_append, qt, if_neg (by decide)]
      show 97 :: qt false _ = _
      rw [qt_false _ _ hr]; simp [dub]
theorem qt_true' (r : List Nat) (h : Fine r) : qt true r = dub r := by
  cases r with
  | nil => rfl
  | cons c r =>
    have hr : Fine r := fun d hd => h d (by simp [hd])
    rcases h c (by simp) with rfl | rfl
    · rw [qt, if_pos (by rfl), qt_false' _ hr]; simp [dub]
    · rw [qt, if_neg (by decide)]
      show 97 :: qt false _ = _
      rw [qt_false' _ hr]; simp [dub]
theorem qt_join : ∀ (rows : List (List Nat)), (∀ r ∈ rows, Fine r) → qt true (joinL crlf rows) = joinL crlf (rows.map dub)
  | [], _ => rfl
  | [x], h => qt_true' x (h x (by simp))
  | x :: y :: r, h => by
    show qt true (x ++ crlf ++ joinL crlf (y :: r)) = dub x ++ crlf ++ joinL crlf ((y :: r).map dub)
    rw [← qt_join (y :: r) fun z hz => h z (by simp at hz ⊢; right; exact hz), List.append_assoc, List.append_assoc]
    exact qt_true x _ (h x (by simp))
theorem quoted_join (rows : List (List Nat)) (h : ∀ r ∈ rows, Fine r) : quoted (joinL crlf rows) = joinL crlf (rows.map dub) := by
  unfold quoted; rw [nrm_join rows h, qt_join rows h]
theorem pre3_ne {c : Nat} {r : List Nat} (h : c ≠ 46) : pre3 (c :: r) = false := by
  unfold pre3
  simp [h]
theorem tk_ne {c : Nat} {r : List Nat} (h : c ≠ 46) : tk (c :: r) 0 = some c :: tk r 0 := by
  rw [tk, if_neg (by rw [pre3_ne h]; decide)]
theorem cut13 {u v : List Nat} {T : List (Option Nat)} {x G : List Nat} (hu : 13 ∉ u) (hv : 13 ∉ v) (h : u ++ 13 :: x = v ++ 13 :: G) : u = v ∧ x = G := by
  induction u generalizing v with
  | nil =>
    cases v with
    | nil => simpa using h
    | cons c v => simp at h; exact absurd (by simp [h.1]) hv
  | cons c u ih =>
    cases v with
    | nil => simp at h; exact absurd (by simp [h.1]) hu
    | cons d v =>
      simp at h
      obtain ⟨h1, h2⟩ := ih (fun q => hu (by simp [q])) (fun q => hv (by simp [q])) h.2
      exact ⟨by rw [h.1, h1], h2⟩
end Mine
end

section
namespace Mine

def bi (b : Bool) : Int := if b then 1 else 0
theorem bi_eq (b : Bool) : (bi b == 1) = b := by cases b <;> rfl
theorem bi_inj {a b : Bool} (h : bi a = bi b) : a = b := by cases a <;> cases b <;> first | rfl | (simp [bi] at h)
theorem bi_beq (a b : Bool) : (bi a == bi b) = (a == b) := by cases a <;> cases b <;> rfl
theorem bi_toNat (b : Bool) : (bi b).toNat = b.toNat := by cases b <;> rfl
theorem bi_range (b : Bool) : 0 ≤ bi b ∧ bi b < 2 := by cases b <;> decide
def wd (w : List Bool) : PyData := il (w.map bi)
theorem wd_len (w : List Bool) : ((w.map bi).map PyData.int).length = w.length := by simp
theorem wd_get (w : List Bool) {k : Nat} (h : k < w.length) : ((w.map bi).map PyData.int)[k]? = some (.int (bi (w.getD k false))) := by
  simp [List.getD, h]
theorem wd_eqv (a b : List Bool) : PyData.eqv (wd a) (wd b) = (a == b) := by
  unfold wd il
  rw [eqv_ints]
  rw [Bool.eq_iff_iff, beq_iff_eq, beq_iff_eq]
  constructor
  · intro h
    have inj : ∀ a b : List Bool, a.map bi = b.map bi → a = b := by
      intro a
      induction a with
      | nil => intro b h; cases b <;> simp_all
      | cons x r ih =>
        intro b h
        cases b with
        | nil => simp at h
        | cons y q =>
          simp at h
          rw [bi_inj h.1, ih q (by simpa using h.2)]
    exact inj a b h
  · rintro rfl; rfl

/-- a row by its bit -/
def pk1 (A B : List Nat) (b : Bool) : List Nat := if b then B else A
def dr (A B : List Nat) (b : Bool) : List Nat := dub (pk1 A B b)
def sentT (A B : List Nat) (E : List (List Nat)) (w : List Bool) (m : Nat) : List Nat :=
  pk1 A B (w.getD 0 false) ++ (List.range m).flatMap fun i => E.getD i [] ++ pk1 A B (w.getD (i + 1) false)
theorem sentT_succ (A B : List Nat) (E : List (List Nat)) (w : List Bool) (m : Nat) : sentT A B E w (m + 1) = sentT A B E w m ++ E.getD m [] ++ pk1 A B (w.getD (m + 1) false) := by
  unfold sentT
  rw [List.range_succ, List.flatMap_append]
  simp
def Ends (lone : List Nat) (E : List (List Nat)) : Prop := ∀ e ∈ E, e = crlf ∨ e = lone
theorem nrm_pairs {lone : List Nat} (hl : lone = [10] ∨ lone = [13]) : ∀ (ps : List (List Nat × List Nat)) (r : List Nat), Fine r → (∀ p ∈ ps, (p.1 = crlf ∨ p.1 = lone) ∧ Fine p.2) →
    nrm false (r ++ ps.flatMap fun p => p.1 ++ p.2) = joinL crlf (r :: ps.map (·.2)) := by
  intro ps
  induction ps with
  | nil => intro r hr _; simp only [List.flatMap_nil, List.map_nil, joinL]; rw [nrm_pre _ _ hr.nl]; simp [nrm]
  | cons p ps ih =>
    intro r hr hp
    obtain ⟨h1, h2⟩ := hp p (by simp)
    have h3 := ih p.2 h2 fun q hq => hp q (by simp [hq])
    rw [nrm_pre _ _ hr.nl, List.flatMap_cons, List.append_assoc]
    have e : joinL crlf (r :: (p :: ps).map (·.2)) = r ++ 13 :: 10 :: joinL crlf (p.2 :: ps.map (·.2)) := by
      show r ++ crlf ++ _ = _
      simp
    rw [e, ← h3]
    congr 1
    rcases h1 with h1 | h1
    · rw [h1]; simp [nrm]
    · rcases hl with hl | hl
      · rw [h1, hl]; simp [nrm]
      · rw [h1, hl]
        have hh : (p.2 ++ ps.flatMap fun p => p.1 ++ p.2).head? ≠ some 10 := by
          cases hq : p.2 with
          | cons c q =>
            rw [hq] at h2
            rcases h2 c (by simp) with rfl | rfl <;> simp
          | nil =>
            cases ps with
            | nil => simp
            | cons q ps =>
              have := (hp q (by simp)).1
              rw [hl] at this
              rcases this with h | h <;> simp [h]
        show (if (13 : Nat) = 10 then _ else if (13 : Nat) = 13 then 13 :: 10 :: nrm true (p.2 ++ ps.flatMap fun p => p.1 ++ p.2) else _) = _
        rw [if_neg (by decide), if_pos rfl, nrm_true hh]
theorem sent_rows (A B : List Nat) (E : List (List Nat)) (w : List Bool) (h0 : w ≠ []) : pk1 A B (w.getD 0 false) :: ((List.range (w.length - 1)).map fun i => (E.getD i [], pk1 A B (w.getD (i + 1) false))).map (·.2) = w.map (pk1 A B) := by
  match w, h0 with
  | b :: r, _ =>
    rw [List.map_map, List.map_cons]
    congr 1
    apply List.ext_getElem
    · simp
    · intro i h1 h2
      simp at h1 h2 ⊢
      simp [h1]
theorem sent_quoted {A B lone : List Nat} {E : List (List Nat)} (w : List Bool) (h0 : w ≠ []) (hE : w.length ≤ E.length + 1) (hA : Fine A) (hB : Fine B) (hl : lone = [10] ∨ lone = [13]) (he : Ends lone E) :
    quoted (sentT A B E w (w.length - 1)) = joinL crlf (w.map (dr A B)) := by
  have hp : ∀ b, Fine (pk1 A B b) := fun b => by unfold pk1; split <;> assumption
  have h1 := nrm_pairs hl ((List.range (w.length - 1)).map fun i => (E.getD i [], pk1 A B (w.getD (i + 1) false))) (pk1 A B (w.getD 0 false)) (hp _) (by
    intro p hpm
    obtain ⟨i, hi, rfl⟩ := List.mem_map.mp hpm
    have hi := List.mem_range.mp hi
    refine ⟨?_, hp _⟩
    have hlt : i < E.length := by omega
    have : E.getD i [] = E[i] := by simp [List.getD, hlt]
    rw [this]
    exact he _ (List.getElem_mem hlt))
  rw [sent_rows A B E w h0] at h1
  unfold quoted
  have e : sentT A B E w (w.length - 1) = pk1 A B (w.getD 0 false) ++ ((List.range (w.length - 1)).map fun i => (E.getD i [], pk1 A B (w.getD (i + 1) false))).flatMap fun p => p.1 ++ p.2 := by
    unfold sentT
    rw [List.flatMap_map]
  rw [e, h1, qt_join _ (by intro r hr; obtain ⟨b, _, rfl⟩ := List.mem_map.mp hr; exact hp b), List.map_map]
  rfl
theorem sentT_len {A B : List Nat} {E : List (List Nat)} (w : List Bool) (hA : A.length ≤ 10) (hB : B.length ≤ 10) (hE : ∀ e ∈ E, e.length ≤ 10) : ∀ m, (sentT A B E w m).length ≤ 10 + 20 * m := by
  have hp : ∀ b, (pk1 A B b).length ≤ 10 := fun b => by unfold pk1; split <;> assumption
  have hg : ∀ i, (E.getD i []).length ≤ 10 := fun i => by
    by_cases h : i < E.length
    · have : E.getD i [] = E[i] := by simp [List.getD, h]
      rw [this]; exact hE _ (List.getElem_mem h)
    · have : E.getD i [] = [] := by simp [List.getD, h]
      rw [this]; simp
  intro m
  induction m with
  | zero => have := hp (w.getD 0 false); simp [sentT]; simpa using this
  | succ m ih =>
    rw [sentT_succ, List.length_append, List.length_append]
    have := hp (w.getD (m + 1) false)
    have := hg m
    omega
end Mine
end

section
namespace Mine

theorem pk1_get (A B : List Nat) (b : Bool) : (sx [A, B])[(bi b).toNat]? = some (.str (S (pk1 A B b))) := by
  cases b <;> rfl
theorem sx_get (l : List (List Nat)) {i : Nat} (h : i < l.length) : (sx l)[i]? = some (.str (S (l.getD i []))) := by
  simp [sx, List.getD, h]
theorem bi_lt (b : Bool) : bi b < 2 ^ 63 := by cases b <;> decide
theorem sx_len (l : List (List Nat)) : (sx l).length = l.length := List.length_map ..

theorem fn_sent {prog : Program} {w : World} {P : Params} {A B lone : List Nat} {E : List (List Nat)} (W : List Bool) (h0 : W ≠ []) (hW : W.length ≤ 100) (hE : W.length ≤ E.length + 1) (hA : Fine A) (hB : Fine B) (hAl : A.length ≤ 10) (hBl : B.length ≤ 10)
    (hl : lone = [10] ∨ lone = [13]) (hends : Ends lone E) :
    Fn prog w (hd2.heap_39 P) (.ref 62) 5 [wd W, .list (sx [A, B]), .list (sx E)] (.str (S (joinL crlf (W.map (dr A B))))) := by
  refine fn_of (ps := ["word", "rows", "ends"]) rfl rfl rfl rfl rfl rfl rfl rfl (by omega) rfl rfl rfl (fun vs hvs => by match vs, hvs with | [v, u, x], _ => rfl) (by decide) rfl (by decide) (by decide) ?_
  intro Ar env X₀ s₀ s he hA' st Er
  have hpos : 0 < W.length := List.length_pos_iff.mpr h0
  have hsl : W.length ≤ sizeLine := by rw [sizeLine_eq]; omega
  have hEl : ∀ e ∈ E, e.length ≤ 10 := fun e hm => by
    rcases hends e hm with rfl | rfl
    · decide
    · rcases hl with rfl | rfl <;> decide
  have tl := sentT_len (A := A) (B := B) (E := E) W hAl hBl hEl
  refine run_assign (d := .str (S (sentT A B E W 0))) st (Ev.cast (Ev.item (d := .str (S (pk1 A B (W.getD 0 false)))) (Ev.var st rfl) (Ev.item (Ev.var st rfl) Ev.int (by decide) (by decide) (wd_get W hpos)) (bi_range _).1 (bi_lt _) (pk1_get A B _)) (by simp [sentT])) (.inl (kind_of he rfl)) (fun _ _ _ => noOwn) fun s st => ?_
  refine run_for st (It.range2 st.ok (kind_of he rfl) rfl Ev.int (Ev.lenL st.ok (kind_of he rfl) rfl (by simpa using hsl) (Ev.var st rfl)) (by decide) (by decide) (by simp <;> omega) (by simp <;> omega)) (.inl (kind_of he rfl))
    (fun _ => none) (fun i => [("text", .str (S (sentT A B E W i))), ("word", wd W), ("rows", .list (sx [A, B])), ("ends", .list (sx E))])
    (fun _ _ _ _ => noOwn) ⟨rfl, by intro p hp; simp at hp; rcases hp with rfl | rfl | rfl | rfl <;> rfl⟩ ?_ ?_
  · intro i d s₁ hd st E'
    rw [wd_len] at hd
    obtain ⟨hi, rfl⟩ := span_get hd
    have hi' : i + 1 < W.length := by omega
    have hg : E.getD i [] ∈ E := by
      have hlt : i < E.length := by omega
      have : E.getD i [] = E[i] := by simp [List.getD, hlt]
      rw [this]; exact List.getElem_mem hlt
    have hgl := hEl _ hg
    have hpl : (pk1 A B (W.getD (i + 1) false)).length ≤ 10 := by unfold pk1; split <;> assumption
    have t1 := tl i
    refine run_assign (d := .str (S (sentT A B E W (i + 1)))) st (Ev.cast (Ev.cat (a := S (sentT A B E W i ++ E.getD i [])) (b := S (pk1 A B (W.getD (i + 1) false))) ?_
      (Ev.cast (Ev.cat (a := S (sentT A B E W i)) (b := S (E.getD i [])) ?_ (Ev.var st rfl) (Ev.item (Ev.var st rfl) (Ev.sub (Ev.var st rfl) Ev.int) (by omega) (by omega) ?_)) (by rw [S_app]))
      (Ev.item (Ev.var st rfl) (Ev.item (Ev.var st rfl) (Ev.var st rfl) (by omega) (by omega) (k := 1 + (i : Int)) ?_) (bi_range _).1 (bi_lt _) (pk1_get A B _))) ?_) (.inl (kind_of he rfl)) (fun _ _ _ => noOwn) fun s st => run_nil (st.weaken ?_)
    · rw [S_len, S_len, List.length_append, sizeLine_eq]; omega
    · rw [S_len, S_len, sizeLine_eq]; omega
    · rw [show ((1 : Int) + (i : Int) - 1).toNat = i by omega]; exact sx_get E (by omega)
    · rw [show ((1 : Int) + (i : Int)).toNat = i + 1 by omega]; exact wd_get W hi'
    · rw [S_app, sentT_succ]
    · intro p hp; simp at hp; rcases hp with rfl | rfl | rfl | rfl <;> rfl
  · intro s st
    have e : ((span 1 (((W.map bi).map PyData.int).length : Int)).map PyData.int).length = W.length - 1 := by simp [span]
    rw [e] at st
    refine run_return st (Ev.cast (Ev.call (k := 3) st.ok (kind_of he rfl) rfl rfl rfl (fn_quote (sentT A B E W (W.length - 1)) (by have := tl (W.length - 1); omega)) (hA'.less (by omega)) (.cons (Ev.var st rfl) .nil)) (by rw [sent_quoted W h0 hE hA hB hl hends])) fun v s st r => ret_ok st r

def dotsIf (b : Bool) : List Nat := if b then [] else dots3
abbrev sep3 : List Nat := [13, 46, 46, 46, 10]
def askT (fb bb : Bool) (rows : List (List Nat)) : List Nat := dotsIf fb ++ (10 :: joinL sep3 rows ++ [13]) ++ dotsIf bb
theorem S_sep3 : (Str.ofString "\r...\n") = S sep3 := by decide +kernel
theorem joinL_len2 (sep : List Nat) (l : List (List Nat)) (h : ∀ x ∈ l, x.length ≤ 20) (hl : l.length ≤ 100) (hs : sep.length ≤ 10) : (joinL sep l).length ≤ 3000 := by
  have := joinL_len sep 20 l h
  have h2 : l.length * (20 + sep.length) ≤ 100 * 30 := Nat.mul_le_mul hl (by omega)
  omega
theorem fn_asked {prog : Program} {w : World} {P : Params} (fb bb : Bool) (rows : List (List Nat)) (h0 : rows ≠ []) (hr : rows.length ≤ 100) (hx : ∀ r ∈ rows, r.length ≤ 20) (h13 : ∀ r ∈ rows, 13 ∉ r) :
    Fn prog w (hd2.heap_39 P) (.ref 69) 3 [.str (S (joinL crlf rows)), .int (bi fb), .int (bi bb)] (.str (S (askT fb bb rows))) := by
  refine fn_of (ps := ["text", "front", "back"]) rfl rfl rfl rfl rfl rfl rfl rfl (by omega) rfl rfl rfl (fun vs hvs => by match vs, hvs with | [v, u, x], _ => rfl) (by decide) rfl (by decide) (by decide) ?_
  intro Ar env X₀ s₀ s he hA' st Er
  have l1 := joinL_len2 crlf rows hx hr (by decide)
  have l2 := joinL_len2 sep3 rows hx hr (by decide)
  have hrep := replace_join sep3 rows h0 h13
  have hrep' : Txt.replace (S (joinL crlf rows)) "\r\n" "\r...\n" = S (joinL sep3 rows) := by
    show Txt.replace _ (Str.ofString "\r\n") (Str.ofString "\r...\n") = _
    rw [S_crlf, S_sep3]; exact hrep
  have hd3 : ∀ b, (dotsIf b).length ≤ 3 := fun b => by cases b <;> decide
  refine run_assign (d := .str (S (10 :: joinL sep3 rows ++ [13]))) st (Ev.cast (Ev.cat (a := S (10 :: joinL sep3 rows)) (b := S [13]) ?_ (Ev.cast (Ev.addReplace st.ok (st.var rfl) (by decide +kernel) (by rw [S_len]; omega) (by decide +kernel) (by decide +kernel) (by rw [hrep', S_len]; omega)) ?_) (Ev.cast Ev.str (by rw [S_cr]))) ?_) (.inl (kind_of he rfl)) (fun _ _ _ => noOwn) fun s st => ?_
  · rw [S_len, S_len, sizeLine_eq]; simp; omega
  · rw [hrep']
    show PyData.str (Str.ofString "\n" ++ _) = _
    rw [S_lf, S_app]; rfl
  · rw [S_app]
  have hif : ∀ b : Bool, (if bi b == 1 then S [] else S dots3) = S (dotsIf b) := fun b => by cases b <;> rfl
  refine run_return st (Ev.cast (Ev.cat (a := S (dotsIf fb ++ (10 :: joinL sep3 rows ++ [13]))) (b := S (dotsIf bb)) ?_ (Ev.cast (Ev.cat (a := S (dotsIf fb)) (b := S (10 :: joinL sep3 rows ++ [13])) ?_ (Ev.cast (Ev.iteS (Tr.cmp (Ev.var st rfl) Ev.int eq_ii) (Ev.cast Ev.str (by rw [S_nil])) (Ev.cast Ev.str (by rw [S_dots3]))) ?_) (Ev.var st rfl)) ?_) (Ev.cast (Ev.iteS (Tr.cmp (Ev.var st rfl) Ev.int eq_ii) (Ev.cast Ev.str (by rw [S_nil])) (Ev.cast Ev.str (by rw [S_dots3]))) ?_)) ?_) fun v s st r => ret_ok st r
  · have := hd3 fb; have := hd3 bb
    rw [S_len, S_len, sizeLine_eq]; simp; omega
  · have := hd3 fb
    rw [S_len, S_len, sizeLine_eq]; simp; omega
  · rw [hif]
  · rw [S_app]
  · rw [hif]
  · rw [S_app]; rfl

def vtN (W : List Bool) : Nat := (((List.range W.length).filter fun k => W.getD k false).map (· + 1)).sum % (W.length + 1)
theorem cast_sum (l : List Nat) : (l.map fun (k : Nat) => (k : Int)).sum = ((l.sum : Nat) : Int) := by
  induction l with
  | nil => rfl
  | cons a r ih => simp [ih]
theorem fn_sum {prog : Program} {w : World} {P : Params} (W : List Bool) (hW : W.length ≤ 100) :
    Fn prog w (hd2.heap_39 P) (.ref 74) 3 [wd W] (.int (vtN W)) := by
  refine fn_of (ps := ["word"]) rfl rfl rfl rfl rfl rfl rfl rfl (by omega) rfl rfl rfl (fun vs hvs => by match vs, hvs with | [v], _ => rfl) (by decide) rfl (by decide) (by decide) ?_
  intro Ar env X₀ s₀ s he hA' st Er
  have hsl : ((W.map bi).map PyData.int).length ≤ sizeLine := by rw [wd_len, sizeLine_eq]; omega
  generalize hN : ((List.range W.length).filter fun k => W.getD k false).map (· + 1) = N
  have eN : vtN W = N.sum % (W.length + 1) := by rw [← hN]; rfl
  refine run_return st (Ev.cast (Ev.mod (a := (N.sum : Nat)) ?_ (Ev.cast (Ev.sum (ns := N.map fun (k : Nat) => (k : Int)) st.ok (kind_of he rfl) rfl (Ev.cast (Ev.comp (p := fun d => W.getD (asInt d).toNat false) (f := fun d => .int (asInt d + 1)) (caps := [("word", wd W)]) st.ok (compOk ["word"] rfl rfl (by decide) (.inl rfl) (by decide) (by decide) (fun y hy => .inl (by simp at hy; subst hy; exact kind_of he rfl)) rfl)
    (fun y d hy => st.vars y d (by have := PySem.mem_of_lookup hy; simp at this; rcases this with ⟨rfl, rfl⟩; rfl)) (It.range1 st.ok (kind_of he rfl) rfl (Ev.lenL st.ok (kind_of he rfl) rfl hsl (Ev.var st rfl)) (by rw [wd_len]; omega) (by rw [wd_len]; omega)) (by rw [wd_len, List.length_map, span_length, sizeLine_eq]; omega) (fun d hd => ?_)) ?_)) ?_) (Ev.add (Ev.lenL st.ok (kind_of he rfl) rfl hsl (Ev.var st rfl)) Ev.int)) ?_) fun v s st r => ret_ok st r
  · rw [wd_len]; omega
  · rw [wd_len, span0, List.map_map] at hd
    obtain ⟨k, hk, rfl⟩ := List.mem_map.mp hd
    have hk := List.mem_range.mp hk
    rw [show (PyData.int ∘ fun (i : Nat) => (i : Int)) k = .int (k : Int) from rfl]
    refine Turns.one (fun cenv X' s₁ ck ok vars => ?_) fun _ cenv X' s₁ ck ok vars => Ev.add (Ev.name ok (vars "k" _ rfl)) Ev.int
    exact Tr.cast (Tr.cmp (Ev.item (Ev.name ok (vars "word" _ rfl)) (Ev.name ok (vars "k" _ rfl)) (by omega) (by omega) (wd_get W hk)) Ev.int eq_ii) (bi_eq _)
  · rw [wd_len, span0, List.map_map, ← hN]
    congr 1
    rw [List.filter_map, List.map_map, List.map_map, List.map_map]
    rfl
  · rw [cast_sum]
  · rw [wd_len, eN]; rfl
end Mine
end

section
namespace Mine

/-! a wish of rows, on rows -/
/-- a row fits: none stands for any rows -/
def GS {σ : Type} : List (Option σ) → List σ → Prop
  | [], V => V = []
  | some r :: T, V => ∃ V', V = r :: V' ∧ GS T V'
  | none :: T, V => ∃ U V', V = U ++ V' ∧ GS T V'
def br (r : List Nat) : List Nat := 10 :: r ++ [13]
section
variable {σ : Type} (φ : σ → List Nat)
def fT : List (Option σ) → List (Option Nat)
  | [] => []
  | some r :: T => (br (φ r)).map some ++ fT T
  | none :: T => none :: fT T
def fG (V : List σ) : List Nat := V.flatMap fun r => br (φ r)
theorem fT_app (T T' : List (Option σ)) : fT φ (T ++ T') = fT φ T ++ fT φ T' := by
  induction T with
  | nil => rfl
  | cons a T ih => cases a <;> simp [fT, ih]
theorem fG_app (V V' : List σ) : fG φ (V ++ V') = fG φ V ++ fG φ V' := by simp [fG]
theorem fG_cons (r : σ) (V : List σ) : fG φ (r :: V) = 10 :: (φ r ++ 13 :: fG φ V) := by simp [fG, br]

structure Rowy : Prop where
  inj : ∀ a b, φ a = φ b → a = b
  no13 : ∀ a, 13 ∉ φ a
  no10 : ∀ a, 10 ∉ φ a
variable {φ}
theorem split10 (hr : Rowy φ) : ∀ (V : List σ) (u h : List Nat), fG φ V = u ++ 10 :: h → ∃ U W, V = U ++ W ∧ fG φ W = 10 :: h := by
  intro V
  induction V with
  | nil => intro u h e; simp [fG] at e
  | cons r V ih =>
    intro u h e
    cases u with
    | nil => exact ⟨[], r :: V, rfl, e⟩
    | cons c u =>
      rw [fG_cons, List.cons_append] at e
      have e' := (List.cons.inj e).2
      -- u' is longer than the row
      have key : ∀ (x y : List Nat), 10 ∉ x → x ++ 13 :: fG φ V = y ++ 10 :: h → ∃ y', fG φ V = y' ++ 10 :: h := by
        intro x
        induction x with
        | nil =>
          intro y _ e
          cases y with
          | nil => simp at e
          | cons d y => exact ⟨y, (List.cons.inj e).2⟩
        | cons d x ihx =>
          intro y hx e
          cases y with
          | nil => rw [List.cons_append, List.nil_append] at e; exact absurd (List.cons.inj e).1 (fun q => hx (by simp [q]))
          | cons d' y => exact ihx y (fun q => hx (by simp [q])) (List.cons.inj e).2
      obtain ⟨y', ey⟩ := key _ _ (hr.no10 r) e'
      obtain ⟨U, W, rfl, hW⟩ := ih y' h ey
      exact ⟨r :: U, W, rfl, hW⟩
theorem cut13' {u v x G : List Nat} (hu : 13 ∉ u) (hv : 13 ∉ v) (h : u ++ 13 :: x = v ++ 13 :: G) : u = v ∧ x = G := cut13 (T := []) hu hv h
theorem gm_some (hr : Rowy φ) (T : List (Option σ)) (ih : ∀ V, GM (fT φ T) (fG φ V) ↔ GS T V) (r : σ) (V : List σ) : GM (fT φ (some r :: T)) (fG φ V) ↔ GS (some r :: T) V := by
  show GM ((br (φ r)).map some ++ fT φ T) (fG φ V) ↔ _
  rw [gm_lit]
  constructor
  · rintro ⟨g', e, h⟩
    cases V with
    | nil => simp [fG, br] at e
    | cons v V =>
      rw [fG_cons] at e
      have e' : φ v ++ 13 :: fG φ V = φ r ++ 13 :: g' := by
        have := (List.cons.inj e).2
        simpa [br] using this
      obtain ⟨h1, h2⟩ := cut13' (hr.no13 v) (hr.no13 r) e'
      rw [← h2] at h
      exact ⟨V, by rw [hr.inj _ _ h1], (ih V).mp h⟩
  · rintro ⟨V', rfl, h⟩
    exact ⟨fG φ V', by rw [fG_cons]; simp [br], (ih V').mpr h⟩
theorem glob_rows (hr : Rowy φ) : ∀ (T : List (Option σ)), (∀ V, GM (fT φ T) (fG φ V) ↔ GS T V) ∧ ∀ V u g, fG φ V = u ++ g → GM (fT φ T) g → ∃ U W, V = U ++ W ∧ GS T W := by
  intro T
  induction T with
  | nil =>
    refine ⟨fun V => ?_, fun V u g e h => ⟨V, [], by simp, rfl⟩⟩
    show fG φ V = [] ↔ V = []
    cases V with
    | nil => simp [fG]
    | cons r V => rw [fG_cons]; simp
  | cons a T ih =>
    obtain ⟨ih1, ih2⟩ := ih
    cases a with
    | some r =>
      have first := gm_some hr T ih1 r
      refine ⟨first, fun V u g e h => ?_⟩
      have h' := h
      obtain ⟨g', eg, _⟩ := (gm_lit (br (φ r)) (fT φ T) g).mp h
      have eg' : g = 10 :: (φ r ++ [13] ++ g') := by rw [eg]; simp [br]
      rw [eg'] at e
      obtain ⟨U, W, rfl, hW⟩ := split10 hr V u _ e
      refine ⟨U, W, rfl, (first W).mp ?_⟩
      rw [hW, ← eg']; exact h'
    | none =>
      have second : ∀ V u g, fG φ V = u ++ g → GM (fT φ (none :: T)) g → ∃ U W, V = U ++ W ∧ GS (none :: T) W := by
        rintro V u g e ⟨u', g', rfl, h⟩
        obtain ⟨U, W, rfl, hW⟩ := ih2 V (u ++ u') g' (by rw [e]; simp) h
        exact ⟨U, W, rfl, [], W, rfl, hW⟩
      refine ⟨fun V => ⟨fun h => ?_, ?_⟩, second⟩
      · obtain ⟨U, W, rfl, U', W', rfl, h'⟩ := second V [] _ (by simp) h
        exact ⟨U ++ U', W', by simp, h'⟩
      · rintro ⟨U, W, rfl, h⟩
        exact ⟨fG φ U, fG φ W, fG_app φ U W, (ih1 W).mpr h⟩
theorem glob (hr : Rowy φ) (T : List (Option σ)) (V : List σ) : GM (fT φ T) (fG φ V) ↔ GS T V := (glob_rows hr T).1 V
end

/-! the tokens of rows without three dots -/
def No3 (r : List Nat) : Prop := ∀ i, pre3 (r.drop i) = false
theorem No3.tail {c : Nat} {r : List Nat} (h : No3 (c :: r)) : No3 r := fun i => h (i + 1)
theorem pre3_app {r rest : List Nat} {c : Nat} (h : pre3 r = false) (hc : c ≠ 46) : pre3 (r ++ c :: rest) = false := by
  match r, h with
  | [], _ => exact pre3_ne hc
  | [a], _ => simp [pre3, hc]
  | [a, b], _ => simp [pre3, hc]
  | a :: b :: d :: r, h => simpa [pre3] using h
theorem tk_lit (rest : List Nat) (c : Nat) (hc : c ≠ 46) : ∀ (r : List Nat), No3 r → tk (r ++ c :: rest) 0 = r.map some ++ tk (c :: rest) 0 := by
  intro r
  induction r with
  | nil => intro _; rfl
  | cons a r ih =>
    intro h
    have h0 : pre3 (a :: r ++ c :: rest) = false := pre3_app (h 0) hc
    rw [List.cons_append, tk, if_neg (by rw [← List.cons_append, h0]; decide), ih h.tail]
    rfl
theorem tk_br (r rest : List Nat) (h : No3 r) : tk (br r ++ rest) 0 = (br r).map some ++ tk rest 0 := by
  unfold br
  have e : 10 :: r ++ [13] ++ rest = 10 :: (r ++ 13 :: rest) := by simp
  rw [e, tk_ne (by decide), tk_lit rest 13 (by decide) r h, tk_ne (by decide)]
  simp
theorem tk_gap (rest : List Nat) : tk (dots3 ++ rest) 0 = none :: tk rest 0 := by
  show tk (46 :: 46 :: 46 :: rest) 0 = _
  rw [tk, if_pos (by simp [pre3])]
  rfl
section
variable {σ : Type} (φ : σ → List Nat)
/-- a wish's text -/
def fX : List (Option σ) → List Nat
  | [] => []
  | some r :: T => br (φ r) ++ fX T
  | none :: T => dots3 ++ fX T
theorem fX_app (T T' : List (Option σ)) : fX φ (T ++ T') = fX φ T ++ fX φ T' := by
  induction T with
  | nil => rfl
  | cons a T ih => cases a <;> simp [fX, ih]
variable {φ}
theorem tk_fX (h : ∀ a, No3 (φ a)) : ∀ T : List (Option σ), tk (fX φ T) 0 = fT φ T := by
  intro T
  induction T with
  | nil => rfl
  | cons a T ih =>
    cases a with
    | some r => show tk (br (φ r) ++ fX φ T) 0 = _; rw [tk_br _ _ (h r), ih]; rfl
    | none => show tk (dots3 ++ fX φ T) 0 = _; rw [tk_gap, ih]; rfl
theorem em_rows (hr : Rowy φ) (h : ∀ a, No3 (φ a)) (T : List (Option σ)) (V : List σ) : em (fX φ T) (fG φ V) = true ↔ GS T V := by
  rw [em_iff, tk_fX h, glob hr]
end
end Mine
end

section
namespace Mine

section
variable {σ : Type}
theorem gs_app (P Q : List (Option σ)) : ∀ Z : List σ, GS (P ++ Q) Z ↔ ∃ X Y, Z = X ++ Y ∧ GS P X ∧ GS Q Y := by
  induction P with
  | nil => intro Z; exact ⟨fun h => ⟨[], Z, rfl, rfl, h⟩, fun ⟨X, Y, e, h1, h2⟩ => by have : X = [] := h1; subst this; rw [e]; exact h2⟩
  | cons a P ih =>
    intro Z
    cases a with
    | some r =>
      constructor
      · rintro ⟨V', rfl, h⟩
        obtain ⟨X, Y, rfl, h1, h2⟩ := (ih V').mp h
        exact ⟨r :: X, Y, rfl, ⟨X, rfl, h1⟩, h2⟩
      · rintro ⟨X, Y, rfl, ⟨X', rfl, h1⟩, h2⟩
        exact ⟨X' ++ Y, rfl, (ih _).mpr ⟨X', Y, rfl, h1, h2⟩⟩
    | none =>
      constructor
      · rintro ⟨U, V', rfl, h⟩
        obtain ⟨X, Y, rfl, h1, h2⟩ := (ih V').mp h
        exact ⟨U ++ X, Y, by simp, ⟨U, X, rfl, h1⟩, h2⟩
      · rintro ⟨X, Y, rfl, ⟨U, X', rfl, h1⟩, h2⟩
        exact ⟨U, X' ++ Y, by simp, (ih _).mpr ⟨X', Y, rfl, h1, h2⟩⟩
theorem gs_gap (T : List (Option σ)) (V : List σ) : GS (none :: T) V ↔ GS T V ∨ ∃ b V', V = b :: V' ∧ GS (none :: T) V' := by
  constructor
  · rintro ⟨U, V', rfl, h⟩
    cases U with
    | nil => exact .inl h
    | cons b U => exact .inr ⟨b, U ++ V', rfl, U, V', rfl, h⟩
  · rintro (h | ⟨b, V', rfl, U, V'', rfl, h⟩)
    · exact ⟨[], V, rfl, h⟩
    · exact ⟨b :: U, V'', rfl, h⟩

/-! marks -/
def mkT : List (Option (Option Bool)) → Nat
  | [] => 0
  | some none :: T => mkT T + 1
  | _ :: T => mkT T
def mkV : List (Option Bool) → Nat
  | [] => 0
  | none :: T => mkV T + 1
  | some _ :: T => mkV T
theorem mkV_app (U V : List (Option Bool)) : mkV (U ++ V) = mkV U + mkV V := by
  induction U with
  | nil => simp [mkV]
  | cons a U ih => cases a <;> simp [mkV, ih]; omega
theorem mk_le : ∀ (T : List (Option (Option Bool))) (V : List (Option Bool)), GS T V → mkT T ≤ mkV V := by
  intro T
  induction T with
  | nil => intro V _; simp [mkT]
  | cons a T ih =>
    intro V h
    cases a with
    | none =>
      obtain ⟨U, V', rfl, h⟩ := h
      have := ih _ h
      rw [mkV_app]
      show mkT T ≤ _
      omega
    | some r =>
      obtain ⟨V', rfl, h⟩ := h
      have := ih _ h
      cases r with
      | none => simp only [mkT, mkV]; omega
      | some b => simp only [mkT, mkV]; omega
theorem first_mark : ∀ (X Z V W : List (Option Bool)), mkV X = 0 → Z ++ none :: W = X ++ none :: V → (Z = X ∧ W = V) ∨ ∃ U, V = U ++ none :: W := by
  intro X
  induction X with
  | nil =>
    intro Z V W _ e
    cases Z with
    | nil => left; exact ⟨rfl, (List.cons.inj e).2⟩
    | cons z Z => right; exact ⟨Z, (List.cons.inj e).2.symm⟩
  | cons x X ih =>
    intro Z V W hx e
    cases Z with
    | nil =>
      have := (List.cons.inj e).1
      subst this
      simp [mkV] at hx
    | cons z Z =>
      have e1 := (List.cons.inj e).1
      have e2 := (List.cons.inj e).2
      have hx' : mkV X = 0 := by
        cases x with
        | none => simp [mkV] at hx
        | some b => simpa [mkV] using hx
      rcases ih Z V W hx' e2 with ⟨h1, h2⟩ | h
      · left; exact ⟨by rw [e1, h1], h2⟩
      · right; exact h
theorem mark_split {P T : List (Option (Option Bool))} {X V : List (Option Bool)} (hX : mkV X = 0) (hT : mkV V ≤ mkT T) : GS (P ++ some none :: T) (X ++ none :: V) ↔ GS P X ∧ GS T V := by
  rw [gs_app]
  constructor
  · rintro ⟨Z, Y, e, h1, W, rfl, h2⟩
    rcases first_mark X Z V W hX e.symm with ⟨rfl, rfl⟩ | ⟨U, rfl⟩
    · exact ⟨h1, h2⟩
    · exfalso
      have := mk_le _ _ h2
      rw [mkV_app] at hT
      simp only [mkV] at hT
      omega
  · rintro ⟨h1, h2⟩
    exact ⟨X, none :: V, rfl, h1, V, rfl, h2⟩
def gaps (j : Nat) : List (Option (Option Bool)) := (List.replicate j [none, some none]).flatten
def spoolV (sp : List (List Bool)) : List (Option Bool) := sp.flatMap fun w => w.map some ++ [none]
theorem gaps_succ (j : Nat) : gaps (j + 1) = [none] ++ some none :: gaps j := by simp [gaps, List.replicate_succ]
theorem mk_gaps (j : Nat) : mkT (gaps j) = j := by
  induction j with
  | zero => rfl
  | succ j ih => rw [gaps_succ]; simp [mkT, ih]
theorem mk_word (w : List Bool) : mkV (w.map some) = 0 := by
  induction w with
  | nil => rfl
  | cons b r ih => simpa [mkV] using ih
theorem spoolV_cons (w : List Bool) (sp : List (List Bool)) : spoolV (w :: sp) = w.map some ++ none :: spoolV sp := by simp [spoolV]
theorem mk_spool (sp : List (List Bool)) : mkV (spoolV sp) = sp.length := by
  induction sp with
  | nil => rfl
  | cons w r ih => rw [spoolV_cons, mkV_app, mk_word]; simp [mkV, ih]
theorem gs_any (X : List σ) : GS [none] X := ⟨X, [], by simp, rfl⟩
theorem gs_gaps (sp : List (List Bool)) : GS (gaps sp.length) (spoolV sp) := by
  induction sp with
  | nil => rfl
  | cons w r ih =>
    rw [List.length_cons, gaps_succ, spoolV_cons, mark_split (mk_word w) (by rw [mk_spool, mk_gaps]; exact Nat.le_refl _)]
    exact ⟨gs_any _, ih⟩
theorem spool_gs (P : List (Option (Option Bool))) (w : List Bool) (post : List (List Bool)) : ∀ (pre : List (List Bool)), (GS (gaps pre.length ++ (P ++ some none :: gaps post.length)) (spoolV (pre ++ w :: post)) ↔ GS P (w.map some)) := by
  intro pre
  induction pre with
  | nil =>
    show GS (P ++ some none :: gaps post.length) (spoolV (w :: post)) ↔ _
    rw [spoolV_cons, mark_split (mk_word w) (by rw [mk_spool, mk_gaps]; exact Nat.le_refl _)]
    exact ⟨fun h => h.1, fun h => ⟨h, gs_gaps post⟩⟩
  | cons u pre ih =>
    have e : gaps (u :: pre).length ++ (P ++ some none :: gaps post.length) = [none] ++ some none :: (gaps pre.length ++ (P ++ some none :: gaps post.length)) := by
      rw [List.length_cons, gaps_succ]; rfl
    rw [e]
    show GS ([none] ++ some none :: (gaps pre.length ++ (P ++ some none :: gaps post.length))) (spoolV (u :: (pre ++ w :: post))) ↔ _
    rw [spoolV_cons]
    by_cases hm : True
    · have hle : mkV (spoolV (pre ++ w :: post)) ≤ mkT (gaps pre.length ++ (P ++ some none :: gaps post.length)) := by
        have app : ∀ A B : List (Option (Option Bool)), mkT (A ++ B) = mkT A + mkT B := by
          intro A B
          induction A with
          | nil => simp [mkT]
          | cons a A ih =>
            match a with
            | none => simpa [mkT] using ih
            | some none => simp [mkT, ih]; omega
            | some (some b) => simpa [mkT] using ih
        rw [mk_spool, app, app, mk_gaps]
        simp only [mkT, mk_gaps, List.length_append, List.length_cons]
        omega
      rw [mark_split (mk_word u) hle, ih]
      exact ⟨fun h => h.2, fun h => ⟨gs_any _, h⟩⟩
    · exact absurd trivial hm

/-! the wish of a word -/
def iT : List σ → List (Option σ)
  | [] => []
  | [a] => [some a]
  | a :: b :: r => some a :: none :: iT (b :: r)
def eT (b : Bool) : List (Option σ) := if b then [] else [none]
def aT (fb bb : Bool) (w : List σ) : List (Option σ) := eT fb ++ (iT w ++ eT bb)
theorem gs_end (bb : Bool) (V : List σ) : GS (eT bb) V ↔ (bb = false ∨ V = []) := by
  cases bb with
  | false => exact ⟨fun _ => .inl rfl, fun _ => gs_any V⟩
  | true => exact ⟨fun h => .inr h, fun h => h.elim (fun q => by cases q) id⟩
theorem gs_map {τ : Type} (f : σ → τ) (hf : ∀ a b, f a = f b → a = b) : ∀ (T : List (Option σ)) (V : List σ), GS (T.map (Option.map f)) (V.map f) ↔ GS T V := by
  intro T
  induction T with
  | nil => intro V; show V.map f = [] ↔ V = []; simp
  | cons a T ih =>
    intro V
    cases a with
    | some r =>
      constructor
      · rintro ⟨V', e, h⟩
        cases V with
        | nil => simp at e
        | cons v V =>
          rw [List.map_cons] at e
          have e1 := (List.cons.inj e).1
          have e2 := (List.cons.inj e).2
          subst e2
          exact ⟨V, by rw [hf _ _ e1], (ih V).mp h⟩
      · rintro ⟨V', rfl, h⟩
        exact ⟨V'.map f, rfl, (ih V').mpr h⟩
    | none =>
      constructor
      · rintro ⟨U, V', e, h⟩
        obtain ⟨U', W, rfl, rfl, rfl⟩ := List.map_eq_append_iff.mp e
        exact ⟨U', W, rfl, (ih W).mp h⟩
      · rintro ⟨U, V', rfl, h⟩
        exact ⟨U.map f, V'.map f, by simp, (ih V').mpr h⟩
theorem iT_map {τ : Type} (f : σ → τ) : ∀ w : List σ, iT (w.map f) = (iT w).map (Option.map f)
  | [] => rfl
  | [a] => rfl
  | a :: b :: r => by
    show some (f a) :: none :: iT ((b :: r).map f) = _
    rw [iT_map f (b :: r)]; rfl
theorem aT_map {τ : Type} (f : σ → τ) (fb bb : Bool) (w : List σ) : aT fb bb (w.map f) = (aT fb bb w).map (Option.map f) := by
  unfold aT
  rw [iT_map, List.map_append, List.map_append]
  cases fb <;> cases bb <;> rfl
end

/-! told by looking -/
def endB (bb : Bool) (V : List Bool) : Bool := !bb || V.isEmpty
def gapB (bb : Bool) : List Bool → List Bool → Bool
  | [], _ => false
  | b :: V, w => (w.head? == some b && (if w.tail.isEmpty then endB bb V else gapB bb V w.tail)) || gapB bb V w
def headB (bb : Bool) (V w : List Bool) : Bool := match V with | [] => false | b :: V => w.head? == some b && (if w.tail.isEmpty then endB bb V else gapB bb V w.tail)
def fitB (fb bb : Bool) (w V : List Bool) : Bool := if fb then headB bb V w else gapB bb V w
theorem endB_iff (bb : Bool) (V : List Bool) : endB bb V = true ↔ GS (eT bb) V := by
  rw [gs_end]
  unfold endB
  cases bb <;> simp
theorem gs_head (bb : Bool) (a : Bool) (w V : List Bool) (hc : ∀ V', w ≠ [] → (V = a :: V') → (gapB bb V' w = true ↔ GS (none :: (iT w ++ eT bb)) V')) :
    headB bb V (a :: w) = true ↔ GS (iT (a :: w) ++ eT bb) V := by
  cases V with
  | nil =>
    refine ⟨fun h => by simp [headB] at h, fun h => ?_⟩
    cases w with
    | nil => obtain ⟨_, e, _⟩ := h; cases e
    | cons c r => obtain ⟨_, e, _⟩ := h; cases e
  | cons b V =>
    cases w with
    | nil =>
      show (some a == some b && endB bb V) = true ↔ ∃ V', b :: V = a :: V' ∧ GS (eT bb) V'
      rw [Bool.and_eq_true, endB_iff, beq_iff_eq]
      constructor
      · rintro ⟨e, h⟩; cases e; exact ⟨V, rfl, h⟩
      · rintro ⟨V', e, h⟩; cases e; exact ⟨rfl, h⟩
    | cons c r =>
      show (some a == some b && gapB bb V (c :: r)) = true ↔ ∃ V', b :: V = a :: V' ∧ GS (none :: (iT (c :: r) ++ eT bb)) V'
      rw [Bool.and_eq_true, beq_iff_eq]
      constructor
      · rintro ⟨e, h⟩; cases e; exact ⟨V, rfl, (hc V (by simp) rfl).mp h⟩
      · rintro ⟨V', e, h⟩
        have e1 := (List.cons.inj e).1
        have e2 := (List.cons.inj e).2
        subst e1 e2
        exact ⟨rfl, (hc V (by simp) rfl).mpr h⟩
theorem gapB_iff (bb : Bool) : ∀ (V w : List Bool), w ≠ [] → (gapB bb V w = true ↔ GS (none :: (iT w ++ eT bb)) V) := by
  intro V
  induction V with
  | nil =>
    intro w hw
    match w, hw with
    | a :: w, _ =>
      rw [gs_gap, ← gs_head bb a w [] (fun V' _ e => by cases e)]
      simp [gapB, headB]
  | cons b V ih =>
    intro w hw
    match w, hw with
    | a :: w, _ =>
      rw [gs_gap, ← gs_head bb a w (b :: V) (fun V' e1 e2 => by
        have := (List.cons.inj e2).2
        subst this
        exact ih w e1)]
      show (headB bb (b :: V) (a :: w) || gapB bb V (a :: w)) = true ↔ _
      rw [Bool.or_eq_true, ih (a :: w) (by simp)]
      refine or_congr Iff.rfl ⟨fun h => ⟨b, V, rfl, h⟩, ?_⟩
      rintro ⟨b', V', e, h⟩
      rw [(List.cons.inj e).2]; exact h
theorem fitB_iff (fb bb : Bool) (w V : List Bool) (hw : w ≠ []) : fitB fb bb w V = true ↔ GS (aT fb bb w) V := by
  cases fb with
  | false => exact gapB_iff bb V w hw
  | true =>
    match w, hw with
    | a :: w, _ => exact gs_head bb a w V fun V' e1 e2 => gapB_iff bb V' w e1
theorem fit_loose {fb bb : Bool} {w V : List Bool} (hw : w ≠ []) (h : fitB fb bb w V = true) : gapB false V w = true := by
  rw [fitB_iff _ _ _ _ hw] at h
  rw [gapB_iff _ _ _ hw]
  unfold aT at h
  obtain ⟨X, Y, rfl, h1, h2⟩ := (gs_app _ _ _).mp h
  obtain ⟨Y1, Y2, rfl, h3, h4⟩ := (gs_app _ _ _).mp h2
  exact ⟨X, Y1 ++ Y2, rfl, (gs_app _ _ _).mpr ⟨Y1, Y2, rfl, h3, gs_any _⟩⟩
end Mine
end

section
section
namespace Mine

def wordOf (n v : Nat) : List Bool := (List.range n).map fun k => decide (v / 2 ^ k % 2 = 1)
def wordsN (n : Nat) : List (List Bool) := (List.range (2 ^ n)).map (wordOf n)
def spoolN (bits : List Bool) : List (List Bool) := (wordsN bits.length).filter fun w => vtN w == vtN bits
def lostN (bits : List Bool) : List (List Bool) := (List.range bits.length).map fun k => bits.take k ++ bits.drop (k + 1)
def moreN (bits : List Bool) : List (List Bool) := (List.range bits.length).map (fun k => bits.take k ++ [!bits.getD k false] ++ bits.drop k) ++ [bits ++ [false], bits ++ [true]]
def sameB (fb bb : Bool) (bits w : List Bool) : Bool :=
  ((!fb || w.getD 0 false == bits.getD 0 false) && (!bb || w.getD (w.length - 1) false == bits.getD (bits.length - 1) false)) && (decide (1 < w.length) || !(fb && bb))
def four (f : Bool → Bool → Bool) : Bool := f false false && (f false true && (f true false && f true true))
def chkS (bits v : List Bool) : Bool :=
  (lostN bits).all (fun w => (!gapB false v w || v == bits) && !gapB false w v) && (moreN bits).all (fun w => !gapB false w v || v == bits)
def chkF (bits : List Bool) : Bool :=
  (lostN bits).all (fun w => four fun fb bb => fitB fb bb w bits == sameB fb bb bits w) && (moreN bits).all (fun w => four fun fb bb => fitB fb bb bits w == sameB fb bb bits w)
def chk (bits : List Bool) : Bool := (spoolN bits).all (chkS bits) && chkF bits
set_option maxHeartbeats 4000000
theorem chk2 : ∀ a b, chk [a, b] = true := by decide +kernel
theorem chk3 : ∀ a b c, chk [a, b, c] = true := by decide +kernel
theorem chk4 : ∀ a b c d, chk [a, b, c, d] = true := by decide +kernel
theorem chk50 : ∀ b c d e, chk [false, b, c, d, e] = true := by decide +kernel
theorem chk51 : ∀ b c d e, chk [true, b, c, d, e] = true := by decide +kernel
theorem chk5 (a b c d e : Bool) : chk [a, b, c, d, e] = true := by
  cases a
  · exact chk50 b c d e
  · exact chk51 b c d e
end Mine
end
end

section
namespace Mine

def kd : List (List Nat) := [[], [46], [97, 46], [46, 97], [97, 46, 46], [46, 97, 46]]
/-- what a symbol says -/
def φR (A B : List Nat) : Option Bool → List Nat
  | some b => dr A B b
  | none => [46]
structure Kd (A B : List Nat) : Prop where
  fA : Fine A
  fB : Fine B
  lA : A.length ≤ 10
  lB : B.length ≤ 10
  rowy : Rowy (φR A B)
  no3 : ∀ a, No3 (φR A B a)
def n3 : List Nat → Bool
  | [] => true
  | c :: r => !pre3 (c :: r) && n3 r
theorem n3_no3 : ∀ {r : List Nat}, n3 r = true → No3 r
  | [], _ => fun i => by simp [pre3]
  | c :: r, h => fun i => by
    rw [n3, Bool.and_eq_true, Bool.not_eq_true'] at h
    cases i with
    | zero => exact h.1
    | succ i => exact n3_no3 h.2 i
def okRow (r : List Nat) : Bool := r.all (fun c => c == 46 || c == 97) && decide (r.length ≤ 10) && n3 (dub r) && !(dub r).contains 13 && !(dub r).contains 10 && dub r != [46]
theorem kd_ok : ∀ i j : Fin 6, i ≠ j → okRow (kd.getD i.1 []) = true ∧ okRow (kd.getD j.1 []) = true ∧ dub (kd.getD i.1 []) ≠ dub (kd.getD j.1 []) := by decide +kernel
theorem okRow_out {r : List Nat} (h : okRow r = true) : Fine r ∧ r.length ≤ 10 ∧ No3 (dub r) ∧ 13 ∉ dub r ∧ 10 ∉ dub r ∧ dub r ≠ [46] := by
  unfold okRow at h
  simp only [Bool.and_eq_true] at h
  obtain ⟨⟨⟨⟨⟨h1, h2⟩, h3⟩, h4⟩, h5⟩, h6⟩ := h
  refine ⟨fun c hc => ?_, by simpa using h2, n3_no3 h3, by simpa using h4, by simpa using h5, by simpa using h6⟩
  have := List.all_eq_true.mp h1 c hc
  simpa using this
theorem kd_Kd {i j : Nat} (hi : i < 6) (hj : j < 6) (hij : i ≠ j) : Kd (kd.getD i []) (kd.getD j []) := by
  obtain ⟨h1, h2, h3⟩ := kd_ok ⟨i, hi⟩ ⟨j, hj⟩ (by simpa using hij)
  obtain ⟨a1, a2, a3, a4, a5, a6⟩ := okRow_out h1
  obtain ⟨b1, b2, b3, b4, b5, b6⟩ := okRow_out h2
  simp only at h3 a1 a2 a3 a4 a5 a6 b1 b2 b3 b4 b5 b6
  generalize kd.getD i [] = A at *
  generalize kd.getD j [] = B at *
  refine ⟨a1, b1, a2, b2, ⟨?_, ?_, ?_⟩, ?_⟩
  · intro a b e
    match a, b, e with
    | none, none, _ => rfl
    | none, some true, e => exact absurd e.symm b6
    | none, some false, e => exact absurd e.symm a6
    | some true, none, e => exact absurd e b6
    | some false, none, e => exact absurd e a6
    | some true, some true, _ => rfl
    | some false, some false, _ => rfl
    | some true, some false, e => exact absurd e.symm h3
    | some false, some true, e => exact absurd e h3
  · intro a
    match a with
    | none => simp [φR]
    | some true => exact b4
    | some false => exact a4
  · intro a
    match a with
    | none => simp [φR]
    | some true => exact b5
    | some false => exact a5
  · intro a
    match a with
    | none => exact n3_no3 (r := [46]) (by decide)
    | some true => exact b3
    | some false => exact a3

def J (A B : List Nat) (w : List Bool) : List Nat := joinL crlf (w.map (dr A B))
section
variable {A B : List Nat}
theorem fG_J (w : List Bool) (h : w ≠ []) : fG (φR A B) (w.map some) = 10 :: J A B w ++ [13] := by
  unfold J
  induction w with
  | nil => exact absurd rfl h
  | cons a r ih =>
    cases r with
    | nil => simp [fG, br, φR, joinL]
    | cons b r =>
      rw [List.map_cons, fG_cons, ih (by simp)]
      simp [joinL, φR]
theorem fX_iT (w : List Bool) (h : w ≠ []) : fX (φR A B) (iT (w.map some)) = 10 :: joinL sep3 (w.map (dr A B)) ++ [13] := by
  induction w with
  | nil => exact absurd rfl h
  | cons a r ih =>
    cases r with
    | nil => simp [iT, fX, br, φR, joinL]
    | cons b r =>
      show br (dr A B a) ++ (dots3 ++ fX (φR A B) (iT ((b :: r).map some))) = _
      rw [ih (by simp)]
      simp [joinL, br]
theorem fX_aT (fb bb : Bool) (w : List Bool) (h : w ≠ []) : fX (φR A B) (aT fb bb (w.map some)) = askT fb bb (w.map (dr A B)) := by
  unfold aT askT
  rw [fX_app, fX_app, fX_iT w h]
  have e : ∀ b : Bool, fX (φR A B) (eT b) = dotsIf b := fun b => by cases b <;> rfl
  rw [e, e]
  simp
abbrev mkR : List Nat := [10, 46, 13]
theorem fX_gaps (j : Nat) : fX (φR A B) (gaps j) = (List.replicate j (dots3 ++ mkR)).flatten := by
  induction j with
  | zero => rfl
  | succ j ih =>
    rw [gaps_succ, List.replicate_succ, List.flatten_cons, ← ih]
    rfl
def wireL (A B : List Nat) (sp : List (List Bool)) : List Nat := (10 :: (sp.map fun w => J A B w ++ markT).flatten).dropLast
theorem fG_wire (sp : List (List Bool)) (h : ∀ w ∈ sp, w ≠ []) : fG (φR A B) (spoolV sp) = wireL A B sp := by
  have key : ∀ sp : List (List Bool), (∀ w ∈ sp, w ≠ []) → fG (φR A B) (spoolV sp) ++ [10] = 10 :: (sp.map fun w => J A B w ++ markT).flatten := by
    intro sp
    induction sp with
    | nil => intro _; rfl
    | cons w r ih =>
      intro h
      have := ih fun x hx => h x (by simp [hx])
      rw [spoolV_cons, fG_app, fG_J w (h w (by simp)), fG_cons, List.map_cons, List.flatten_cons]
      have e : 10 :: (J A B w ++ markT ++ (r.map fun w => J A B w ++ markT).flatten) = 10 :: J A B w ++ [13] ++ (10 :: (46 :: 13 :: (10 :: (r.map fun w => J A B w ++ markT).flatten))) := by simp
      rw [e, ← this]
      simp [φR]
  have := key sp h
  unfold wireL
  rw [← this]
  simp

theorem bool_of_iff {a b : Bool} (h : a = true ↔ b = true) : a = b := by cases a <;> cases b <;> simp_all
theorem some_inj : ∀ a b : Bool, some a = some b → a = b := fun a b h => by cases h; rfl
theorem em_words (k : Kd A B) (fb bb : Bool) (v w : List Bool) (hv : v ≠ []) (hw : w ≠ []) : em (askT fb bb (v.map (dr A B))) (10 :: J A B w ++ [13]) = fitB fb bb v w := by
  refine bool_of_iff ?_
  rw [← fX_aT fb bb v hv, ← fG_J w hw, em_rows k.rowy k.no3, aT_map, gs_map some some_inj, fitB_iff _ _ _ _ hv]
def askedK (A B : List Nat) (fb bb : Bool) (w : List Bool) (k j : Nat) : List Nat :=
  (List.replicate k (dots3 ++ mkR)).flatten ++ askT fb bb (w.map (dr A B)) ++ mkR ++ (List.replicate j (dots3 ++ mkR)).flatten
theorem em_spool (kk : Kd A B) (fb bb : Bool) (w : List Bool) (hw : w ≠ []) (sp : List (List Bool)) (hsp : ∀ v ∈ sp, v ≠ []) (k : Nat) (hk : k < sp.length) :
    em (askedK A B fb bb w k (sp.length - 1 - k)) (wireL A B sp) = fitB fb bb w (sp.getD k []) := by
  refine bool_of_iff ?_
  have e1 : askedK A B fb bb w k (sp.length - 1 - k) = fX (φR A B) (gaps k ++ (aT fb bb (w.map some) ++ some none :: gaps (sp.length - 1 - k))) := by
    rw [fX_app, fX_app, fX_aT fb bb w hw, fX_gaps]
    show _ = _ ++ (_ ++ (br [46] ++ fX (φR A B) (gaps (sp.length - 1 - k))))
    rw [fX_gaps]
    unfold askedK
    simp [br]
  rw [e1, ← fG_wire sp hsp, em_rows kk.rowy kk.no3, fitB_iff _ _ _ _ hw]
  have e2 : sp = sp.take k ++ sp.getD k [] :: sp.drop (k + 1) := by
    have : sp.getD k [] = sp[k] := by simp [List.getD, hk]
    rw [this, List.getElem_cons_drop, List.take_append_drop]
  have l1 : (sp.take k).length = k := by rw [List.length_take]; omega
  have l2 : (sp.drop (k + 1)).length = sp.length - 1 - k := by rw [List.length_drop]; omega
  have := spool_gs (aT fb bb (w.map some)) (sp.getD k []) (sp.drop (k + 1)) (sp.take k)
  rw [l1, l2, ← e2] at this
  rw [this, aT_map, gs_map some some_inj]

theorem gs_all {σ : Type} : ∀ (V W : List σ), GS (V.map some) W ↔ W = V := by
  intro V
  induction V with
  | nil => intro W; exact Iff.rfl
  | cons a V ih =>
    intro W
    show (∃ V', W = a :: V' ∧ GS (V.map some) V') ↔ _
    constructor
    · rintro ⟨V', rfl, h⟩; rw [(ih V').mp h]
    · rintro rfl; exact ⟨V, rfl, (ih V).mpr rfl⟩
theorem J_inj (k : Kd A B) {v w : List Bool} (hv : v ≠ []) (hw : w ≠ []) (h : J A B v = J A B w) : v = w := by
  have e : fG (φR A B) (v.map some) = fG (φR A B) (w.map some) := by rw [fG_J v hv, fG_J w hw, h]
  have h1 := (glob k.rowy ((v.map some).map some) (w.map some)).mpr
  have h2 : GM (fT (φR A B) ((v.map some).map some)) (fG (φR A B) (w.map some)) := by
    rw [← e]; exact (glob k.rowy _ _).mpr ((gs_all _ _).mpr rfl)
  have h3 := (gs_all _ _).mp ((glob k.rowy _ _).mp h2)
  have := List.map_inj_right (f := (some : Bool → Option Bool)) (fun a b q => some_inj a b q) |>.mp h3
  exact this.symm
theorem tk_join : ∀ (rows : List (List Nat)), (∀ r ∈ rows, No3 r) → tk (joinL crlf rows) 0 = (joinL crlf rows).map some
  | [], _ => rfl
  | [x], h => tk_no x (h x (by simp))
  | x :: y :: r, h => by
    show tk (x ++ crlf ++ joinL crlf (y :: r)) 0 = (x ++ crlf ++ joinL crlf (y :: r)).map some
    have e : x ++ crlf ++ joinL crlf (y :: r) = x ++ 13 :: (10 :: joinL crlf (y :: r)) := by simp
    rw [e, tk_lit _ 13 (by decide) x (h x (by simp)), tk_ne (by decide), tk_ne (by decide), tk_join (y :: r) fun z hz => h z (by simp at hz ⊢; right; exact hz)]
    simp
theorem em_plain (k : Kd A B) {v w : List Bool} (hv : v ≠ []) (hw : w ≠ []) : em (J A B v) (J A B w) = (v == w) := by
  refine bool_of_iff ?_
  rw [em_iff]
  unfold J
  rw [tk_join _ (by intro r hr; obtain ⟨b, _, rfl⟩ := List.mem_map.mp hr; exact k.no3 (some b)), gm_lit', beq_iff_eq]
  exact ⟨fun h => (J_inj k hw hv h).symm, fun h => by rw [h]⟩
end

/-! the code -/
theorem chk_all {bits : List Bool} (h2 : 2 ≤ bits.length) (h5 : bits.length ≤ 5) : chk bits = true := by
  match bits, h2, h5 with
  | [a, b], _, _ => exact chk2 a b
  | [a, b, c], _, _ => exact chk3 a b c
  | [a, b, c, d], _, _ => exact chk4 a b c d
  | [a, b, c, d, e], _, _ => exact chk5 a b c d e
  | _ :: _ :: _ :: _ :: _ :: _ :: _, _, h => simp at h
theorem four_out {f : Bool → Bool → Bool} (h : four f = true) (a b : Bool) : f a b = true := by
  unfold four at h
  simp only [Bool.and_eq_true] at h
  cases a <;> cases b <;> simp [h]
theorem spool_len {bits v : List Bool} (h : v ∈ spoolN bits) : v.length = bits.length := by
  unfold spoolN wordsN at h
  obtain ⟨n, _, rfl⟩ := List.mem_map.mp (List.mem_filter.mp h).1
  simp [wordOf]
theorem lost_len {bits w : List Bool} (h : w ∈ lostN bits) : w.length + 1 = bits.length := by
  obtain ⟨k, hk, rfl⟩ := List.mem_map.mp h
  have := List.mem_range.mp hk
  simp; omega
theorem more_len {bits w : List Bool} (h : w ∈ moreN bits) : w.length = bits.length + 1 := by
  unfold moreN at h
  rcases List.mem_append.mp h with h | h
  · obtain ⟨k, hk, rfl⟩ := List.mem_map.mp h
    have := List.mem_range.mp hk
    simp; omega
  · simp at h
    rcases h with rfl | rfl <;> simp
theorem ne_of_len {w : List Bool} (h : 0 < w.length) : w ≠ [] := List.length_pos_iff.mp h
section
variable {bits : List Bool} (h2 : 2 ≤ bits.length) (h5 : bits.length ≤ 5) (fb bb : Bool)
include h2 h5
theorem lost_law {w : List Bool} (hw : w ∈ lostN bits) {v : List Bool} (hv : v ∈ spoolN bits) : fitB fb bb w v = ((v == bits) && sameB fb bb bits w) ∧ fitB fb bb v w = false := by
  have h := chk_all h2 h5
  unfold chk chkF at h
  rw [Bool.and_eq_true, Bool.and_eq_true] at h
  have hS := List.all_eq_true.mp h.1 v hv
  unfold chkS at hS
  rw [Bool.and_eq_true] at hS
  have h3 := List.all_eq_true.mp hS.1 w hw
  have h4 := eq_of_beq (four_out (List.all_eq_true.mp h.2.1 w hw) fb bb)
  rw [Bool.and_eq_true] at h3
  have wl := lost_len hw
  have vl := spool_len hv
  have wn := ne_of_len (w := w) (by omega)
  have vn := ne_of_len (w := v) (by omega)
  refine ⟨?_, ?_⟩
  · cases hvb : v == bits with
    | true => rw [eq_of_beq hvb, h4]; rfl
    | false =>
      rw [Bool.false_and]
      cases hf : fitB fb bb w v with
      | false => rfl
      | true =>
        have := fit_loose wn hf
        rw [this, hvb] at h3
        simp at h3
  · cases hf : fitB fb bb v w with
    | false => rfl
    | true =>
      have := fit_loose vn hf
      rw [this] at h3
      simp at h3
theorem more_law {w : List Bool} (hw : w ∈ moreN bits) {v : List Bool} (hv : v ∈ spoolN bits) : fitB fb bb v w = ((v == bits) && sameB fb bb bits w) := by
  have h := chk_all h2 h5
  unfold chk chkF at h
  rw [Bool.and_eq_true, Bool.and_eq_true] at h
  have hS := List.all_eq_true.mp h.1 v hv
  unfold chkS at hS
  rw [Bool.and_eq_true] at hS
  have h3 := List.all_eq_true.mp hS.2 w hw
  have h4 := eq_of_beq (four_out (List.all_eq_true.mp h.2.2 w hw) fb bb)
  have vl := spool_len hv
  have vn := ne_of_len (w := v) (by omega)
  cases hvb : v == bits with
  | true => rw [eq_of_beq hvb, h4]; rfl
  | false =>
    rw [Bool.false_and]
    cases hf : fitB fb bb v w with
    | false => rfl
    | true =>
      have := fit_loose vn hf
      rw [this, hvb] at h3
      simp at h3
end

/-- all that the law asks of a wish -/
structure Plain (A B : List Nat) (fb bb : Bool) (bits : List Bool) : Prop where
  p1 : ∀ v ∈ spoolN bits, em (J A B v) (J A B bits) = (v == bits)
  p2 : ∀ w ∈ lostN bits ++ moreN bits, ∀ v ∈ spoolN bits, em (askT fb bb (v.map (dr A B))) (10 :: J A B w ++ [13]) = (((v == bits) && sameB fb bb bits w) && decide (w.length > bits.length))
  p3 : ∀ w ∈ lostN bits ++ moreN bits, w.length < bits.length → ∀ k, k < (spoolN bits).length → em (askedK A B fb bb w k ((spoolN bits).length - 1 - k)) (wireL A B (spoolN bits)) = (((spoolN bits).getD k [] == bits) && sameB fb bb bits w)
theorem plain {A B : List Nat} (k : Kd A B) (fb bb : Bool) {bits : List Bool} (h2 : 2 ≤ bits.length) (h5 : bits.length ≤ 5) : Plain A B fb bb bits := by
  have sp : ∀ v ∈ spoolN bits, v ≠ [] := fun v hv => ne_of_len (by have := spool_len hv; omega)
  refine ⟨fun v hv => em_plain k (sp v hv) (ne_of_len (by omega)), fun w hw v hv => ?_, fun w hw hl i hi => ?_⟩
  · rcases List.mem_append.mp hw with h | h
    · have wl := lost_len h
      rw [em_words k fb bb v w (sp v hv) (ne_of_len (by omega)), (lost_law h2 h5 fb bb h hv).2]
      have : decide (w.length > bits.length) = false := decide_eq_false (by omega)
      rw [this, Bool.and_false]
    · have wl := more_len h
      rw [em_words k fb bb v w (sp v hv) (ne_of_len (by omega)), more_law h2 h5 fb bb h hv]
      have : decide (w.length > bits.length) = true := decide_eq_true (by omega)
      rw [this, Bool.and_true]
  · rcases List.mem_append.mp hw with h | h
    · have wl := lost_len h
      have hm : (spoolN bits).getD i [] ∈ spoolN bits := by
        have : (spoolN bits).getD i [] = (spoolN bits)[i] := by simp [List.getD, hi]
        rw [this]; exact List.getElem_mem hi
      rw [em_spool k fb bb w (ne_of_len (by omega)) _ sp i hi, (lost_law h2 h5 fb bb h hm).1]
    · have := more_len h; omega
end Mine
end

section
namespace Mine

/-! what the law makes of the script -/
def numsOf (ns : List Int) : List Int := ns.take 5 ++ List.replicate (2 - ns.length) 0
theorem nums_len (ns : List Int) : 2 ≤ (numsOf ns).length ∧ (numsOf ns).length ≤ 5 := by
  unfold numsOf
  simp; omega
theorem nums_data (ns : List Int) : cutL (ns.map PyData.int) none (some 5) ++ (List.replicate (max 0 (2 - (((ns.map PyData.int).length : Nat) : Int))).toNat [PyData.int 0]).flatten = (numsOf ns).map .int := by
  have e1 : cutL (ns.map PyData.int) none (some 5) = (ns.take 5).map .int := by
    rw [cutL_map]
    unfold cutL
    show ((ns.take (clipAt ns.length ((5 : Nat) : Int))).drop 0).map _ = _
    rw [clipAt_nat, List.drop_zero]
    congr 1
    apply List.ext_getElem?
    intro i
    rw [List.getElem?_take, List.getElem?_take]
    by_cases h : i < ns.length
    · have : (i < min 5 ns.length) ↔ i < 5 := by omega
      simp only [this]
    · have : ns[i]? = none := by simp; omega
      rw [this]; split <;> split <;> rfl
  have e2 : (max 0 (2 - (((ns.map PyData.int).length : Nat) : Int))).toNat = 2 - ns.length := by rw [List.length_map]; omega
  rw [e1, e2, numsOf, List.map_append]
  congr 1
  generalize 2 - ns.length = k
  induction k with
  | zero => rfl
  | succ k ih => rw [List.replicate_succ, List.replicate_succ, List.flatten_cons, ih]; rfl
def bitsOf (N : List Int) : List Bool := N.map fun x => decide (x % 2 = 1)
theorem bitsOf_len (N : List Int) : (bitsOf N).length = N.length := List.length_map ..
theorem bi_mod (x : Int) : bi (decide (x % 2 = 1)) = x % 2 := by
  unfold bi
  by_cases h : x % 2 = 1
  · rw [if_pos (by simpa using h), h]
  · rw [if_neg (by simpa using h)]; omega
theorem bits_data (N : List Int) : .list ((((N.map PyData.int).filter fun _ => true).map fun d => PyData.int (asInt d % 2))) = wd (bitsOf N) := by
  rw [all_true, wd, il, bitsOf, List.map_map, List.map_map]
  congr 1
  apply List.map_congr_left
  intro x _
  show PyData.int (x % 2) = .int (bi (decide (x % 2 = 1)))
  rw [bi_mod]
def firstOf (N : List Int) : Nat := (N.getD 0 0 / 2 % 6).toNat
def secondOf (N : List Int) : Nat := ((N.getD 0 0 / 2 % 6 + 1 + N.getD 0 0 / 12 % 5) % 6).toNat
theorem first_lt (N : List Int) : firstOf N < 6 := by unfold firstOf; omega
theorem second_lt (N : List Int) : secondOf N < 6 := by unfold secondOf; omega
theorem first_second (N : List Int) : firstOf N ≠ secondOf N := by unfold firstOf secondOf; omega
theorem kinds_data : [PyData.str "", .str ".", .str "a.", .str ".a", .str "a..", .str ".a."] = sx kd := by
  have h1 : (Str.ofString ".a") = S [46, 97] := by decide +kernel
  have h2 : (Str.ofString "a..") = S [97, 46, 46] := by decide +kernel
  have h3 : (Str.ofString ".a.") = S [46, 97, 46] := by decide +kernel
  show [PyData.str (Str.ofString ""), .str (Str.ofString "."), .str (Str.ofString "a."), .str (Str.ofString ".a"), .str (Str.ofString "a.."), .str (Str.ofString ".a.")] = _
  rw [S_nil, S_dot, S_adot, h1, h2, h3]
  rfl
theorem kd_get {i : Nat} (h : i < 6) : (sx kd)[i]? = some (.str (S (kd.getD i []))) := sx_get kd (by simpa [kd] using h)
def endsOf (N : List Int) : List (List Nat) := N.map fun x => if x / 16 % 2 == 1 then crlf else loneOf (N.getD 1 0 / 8 % 2)
theorem endsOf_len (N : List Int) : (endsOf N).length = N.length := List.length_map ..
theorem endsOf_ends (N : List Int) : Ends (loneOf (N.getD 1 0 / 8 % 2)) (endsOf N) := by
  intro e he
  obtain ⟨x, _, rfl⟩ := List.mem_map.mp he
  split
  · exact .inl rfl
  · exact .inr rfl
theorem loneOf_is (b : Int) : loneOf b = [10] ∨ loneOf b = [13] := by unfold loneOf; split <;> simp
theorem dub_len (r : List Nat) : (dub r).length ≤ r.length + 1 := by unfold dub; split <;> simp
theorem dub_S (r : List Nat) : (if (S (r.take 1) == Str.ofString ".") then (Str.ofString "." ++ S r) else S r) = S (dub r) := by
  rw [S_dot, S_beq, S_app]
  unfold dub
  cases r with
  | nil => rfl
  | cons c r =>
    by_cases h : c = 46
    · subst h; simp
    · simp [h]
def asWord (d : PyData) : List Bool := (asInts d).map fun i => i == 1
theorem asWord_wd (w : List Bool) : asWord (wd w) = w := by
  unfold asWord wd
  rw [asInts_il, List.map_map]
  have : ((fun i => i == 1) ∘ bi : Bool → Bool) = id := by funext b; exact bi_eq b
  rw [this, List.map_id]
theorem word_data (n v : Nat) : PyData.list (((((span 0 (n : Int)).map PyData.int).filter fun _ => true)).map fun d => .int ((v : Int) / 2 ^ (asInt d).toNat % 2)) = wd (wordOf n v) := by
  rw [all_true, span0, List.map_map, wd, il, wordOf, List.map_map, List.map_map]
  congr 1
  apply List.map_congr_left
  intro k _
  show PyData.int ((v : Int) / 2 ^ ((k : Int)).toNat % 2) = .int (bi (decide (v / 2 ^ k % 2 = 1)))
  rw [Int.toNat_natCast]
  congr 1
  have e : (v : Int) / 2 ^ k % 2 = ((v / 2 ^ k % 2 : Nat) : Int) := by norm_cast
  rw [e]
  unfold bi
  have : v / 2 ^ k % 2 < 2 := Nat.mod_lt _ (by decide)
  by_cases h : v / 2 ^ k % 2 = 1
  · rw [h]; simp
  · have : v / 2 ^ k % 2 = 0 := by omega
    rw [this]; simp
theorem pow_cast (n : Nat) : ((2 : Int) ^ n) = ((2 ^ n : Nat) : Int) := by norm_cast
theorem words_data (n : Nat) : ((((span 0 ((2 : Int) ^ n)).map PyData.int).filter fun _ => true).map fun d => wd (wordOf n (asInt d).toNat)) = (wordsN n).map wd := by
  rw [pow_cast, all_true, span0, List.map_map, wordsN, List.map_map]
  apply List.map_congr_left
  intro v _
  show wd (wordOf n ((v : Int)).toNat) = _
  rw [Int.toNat_natCast]; rfl
theorem spool_data (bits : List Bool) : ((((wordsN bits.length).map wd).filter fun d => ((vtN (asWord d) : Int) == (vtN bits : Int))).map fun d => d) = (spoolN bits).map wd := by
  rw [List.filter_map, List.map_map, spoolN]
  have : ((fun d => ((vtN (asWord d) : Int) == (vtN bits : Int))) ∘ wd) = fun w => vtN w == vtN bits := by
    funext w
    show ((vtN (asWord (wd w)) : Int) == (vtN bits : Int)) = _
    rw [asWord_wd, Bool.eq_iff_iff, beq_iff_eq, beq_iff_eq]
    omega
  rw [this]
  rfl
theorem sx2_len (a b : List Nat) : (sx [a, b]).length ≤ sizeLine := by rw [sx_len, sizeLine_eq]; simp
theorem words_data2 {β : Type} (l : List (List Bool)) (f : PyData → β) (g : List Bool → β) (h : ∀ w, f (wd w) = g w) : (((l.map wd).filter fun _ => true).map f) = l.map g := by
  rw [all_true]
  exact List.map_congr_left fun w _ => h w
theorem sx_data (l : List (List Nat)) (g : List Nat → List Nat) : (((sx l).filter fun _ => true).map fun d => PyData.str (S (g (asText d)))) = sx (l.map g) := sx_map l g
theorem wd_size (l : List (List Bool)) (h : l.length ≤ 1000) : (l.map wd).length ≤ sizeLine := by rw [List.length_map, sizeLine_eq]; omega
theorem sx_size (l : List (List Nat)) (h : l.length ≤ 1000) : (sx l).length ≤ sizeLine := by rw [sx_len, sizeLine_eq]; omega
theorem bi_front (x : Int) (k : Int) (hk : 0 < k) : PyData.int (x / k % 2) = .int (bi (decide (x / k % 2 = 1))) := by rw [bi_mod]
theorem wordsN_len (n : Nat) (h : n ≤ 5) : (wordsN n).length ≤ 32 := by
  unfold wordsN
  rw [List.length_map, List.length_range]
  have : 2 ^ n ≤ 2 ^ 5 := Nat.pow_le_pow_right (by decide) h
  omega
theorem spoolN_len (bits : List Bool) (h : bits.length ≤ 5) : (spoolN bits).length ≤ 32 := Nat.le_trans (List.length_filter_le _ _) (wordsN_len _ h)
theorem wordsN_mem {n : Nat} {w : List Bool} (h : w ∈ wordsN n) : w.length = n := by
  obtain ⟨v, _, rfl⟩ := List.mem_map.mp h
  simp [wordOf]
theorem dr_len {A B : List Nat} (k : Kd A B) (b : Bool) : (dr A B b).length ≤ 11 := by
  unfold dr
  refine Nat.le_trans (dub_len _) ?_
  have := k.lA
  have := k.lB
  unfold pk1; split <;> omega
theorem J_len {A B : List Nat} (k : Kd A B) (w : List Bool) (h : w.length ≤ 100) : (J A B w).length ≤ 1300 := by
  have := joinL_len crlf 11 (w.map (dr A B)) fun x hx => by obtain ⟨b, _, rfl⟩ := List.mem_map.mp hx; exact dr_len k b
  rw [List.length_map] at this
  have h2 : w.length * (11 + crlf.length) ≤ 100 * 13 := Nat.mul_le_mul h (by decide)
  unfold J; omega
theorem pk1_dub (A B : List Nat) (b : Bool) : pk1 (dub A) (dub B) b = dr A B b := by cases b <;> rfl
theorem pk1_dub2 (A B : List Nat) (b : Bool) : pk1 (dub (dub A)) (dub (dub B)) b = dub (dr A B b) := by cases b <;> rfl
theorem bits_rows (a b : List Nat) (u : List Bool) : (((((u.map bi).map PyData.int).filter fun _ => true)).map fun d => PyData.str (S (pk1 a b (asInt d == 1)))) = sx (u.map (pk1 a b)) := by
  rw [all_true, List.map_map, sx, List.map_map]
  apply List.map_congr_left
  intro c _
  show PyData.str (S (pk1 a b (bi c == 1))) = .str (S (pk1 a b c))
  rw [bi_eq]
section
variable {prog : Program} {w : World} {K : Frag} {A : Around} {env : Env} {X : Addr → Prop} {s : Shared}
/-- crlf.join([table[bit] for bit in word]) -/
theorem Ev.joinBits {a b : List Nat} {u : List Bool} {tn : Str} {scope : Scope} {k1 : Nat} {p1 p2 p3 p4 p5 p6 p7 p8 p9 : Pos} (ok : Ok K A env X s) (hc : CompOk env scope "bit" [(tn, .list (sx [a, b]))]) (ht : Has env X s.heap tn (.list (sx [a, b]))) (hw : Has env X s.heap "word" (wd u))
    (htn : (tn == ("bit" : Str)) = false) (hdb : (tn == ("__debug__" : Str)) = false) (hu : u.length ≤ 100) (ha : a.length ≤ 1000) (hb : b.length ≤ 1000) (hline : (p2.endLine == p9.line) = true := by rfl) :
    Ev prog w A env X s (.Call (.Attribute (.Constant (.str "\r\n") k1 p1) "join" p2) [.ListComp (.Subscript (.Name tn p3) (.Name "bit" p4) p5) [⟨.Name "bit" p6, .Name "word" p7, [], 0⟩] scope p8] [] p9) (.str (S (joinL crlf (u.map (pk1 a b))))) := by
  refine Ev.join (sep := crlf) (l := u.map (pk1 a b)) ⟨by decide, by rw [List.length_map]; exact hu, fun x hx => by
      obtain ⟨c, _, rfl⟩ := List.mem_map.mp hx
      unfold pk1; split <;> omega⟩ (Ev.cast Ev.str (by rw [S_crlf])) (Ev.cast (Ev.comp (p := fun _ => true) (f := fun d => .str (S (pk1 a b (asInt d == 1)))) (ds := (u.map bi).map .int) ok hc
      (fun y d hy => by have := PySem.mem_of_lookup hy; simp at this; obtain ⟨rfl, rfl⟩ := this; exact ht) (It.list ok (Ev.name ok hw)) (by rw [wd_len, sizeLine_eq]; omega) (fun d hd => ?_)) (by rw [bits_rows])) (hline := hline)
  obtain ⟨i, hi, rfl⟩ := List.mem_map.mp hd
  obtain ⟨c, hc', rfl⟩ := List.mem_map.mp hi
  refine Turns.plain fun cenv X' s₁ ck ok' vars => ?_
  refine Ev.item (Ev.name ok' (vars tn (.list (sx [a, b])) (by rw [List.lookup_cons, htn]; simp)) hdb) (Ev.name ok' (vars "bit" _ rfl)) (bi_range c).1 (bi_lt c) ?_
  show _ = some (PyData.str (S (pk1 a b (bi c == 1))))
  rw [bi_eq]
  exact pk1_get a b c
end
theorem dub_fine {r : List Nat} (h : Fine r) : Fine (dub r) := by
  unfold dub
  split
  · intro c hc
    rcases List.mem_cons.mp hc with rfl | hc
    · exact .inl rfl
    · exact h c hc
  · exact h
theorem dr_fine {A B : List Nat} (k : Kd A B) (b : Bool) : Fine (dr A B b) := by
  unfold dr
  refine dub_fine ?_
  unfold pk1; split
  · exact k.fB
  · exact k.fA
theorem J_quoted {A B : List Nat} (k : Kd A B) (u : List Bool) : quoted (J A B u) = joinL crlf (u.map (pk1 (dub (dub A)) (dub (dub B)))) := by
  unfold J
  rw [quoted_join _ (by intro r hr; obtain ⟨b, _, rfl⟩ := List.mem_map.mp hr; exact dr_fine k b), List.map_map]
  congr 1
  apply List.map_congr_left
  intro b _
  rw [pk1_dub2]; rfl
theorem J_table (A B : List Nat) (u : List Bool) : joinL crlf (u.map (pk1 (dub A) (dub B))) = J A B u := by
  unfold J
  congr 1
  apply List.map_congr_left
  intro b _
  exact pk1_dub A B b
theorem fine_low {r : List Nat} (h : Fine r) : Low r := fun c hc => by rcases h c hc with rfl | rfl <;> decide
theorem join_low {rows : List (List Nat)} (h : ∀ r ∈ rows, Low r) : Low (joinL crlf rows) := by
  match rows with
  | [] => intro c hc; simp [joinL] at hc
  | x :: xs =>
    rw [joinL_flat]
    intro c hc
    rcases List.mem_append.mp hc with hc | hc
    · exact h x (by simp) c hc
    · obtain ⟨y, hy, hc⟩ := List.mem_flatMap.mp hc
      rcases List.mem_append.mp hc with hc | hc
      · simp at hc; omega
      · exact h y (by simp [hy]) c hc
theorem J_low {A B : List Nat} (k : Kd A B) (u : List Bool) : Low (J A B u) := join_low fun r hr => by
  obtain ⟨b, _, rfl⟩ := List.mem_map.mp hr
  exact fine_low (dr_fine k b)
theorem JQ_low {A B : List Nat} (k : Kd A B) (u : List Bool) : Low (joinL crlf (u.map (pk1 (dub (dub A)) (dub (dub B))))) := join_low fun r hr => by
  obtain ⟨b, _, rfl⟩ := List.mem_map.mp hr
  rw [pk1_dub2]
  exact fine_low (dub_fine (dr_fine k b))
theorem map_sx {α : Type} (l : List α) (g : α → List Nat) : (l.map fun u => PyData.str (S (g u))) = sx (l.map g) := by rw [sx, List.map_map]; rfl
theorem sent_get (A B : List Nat) (sp : List (List Bool)) {k : Nat} (h : k < sp.length) : (sx (sp.map (J A B)))[((k : Nat) : Int).toNat]? = some (.str (S (J A B (sp.getD k [])))) := by
  rw [Int.toNat_natCast]
  simp [sx, List.getD, h]
theorem word_get (sp : List (List Bool)) {k : Nat} (h : k < sp.length) : (sp.map wd)[((k : Nat) : Int).toNat]? = some (wd (sp.getD k [])) := by
  rw [Int.toNat_natCast]
  simp [List.getD, h]
theorem getD_mem {α : Type} (l : List α) (d : α) {k : Nat} (h : k < l.length) : l.getD k d ∈ l := by
  have : l.getD k d = l[k] := by simp [List.getD, h]
  rw [this]; exact List.getElem_mem h
theorem joinL_nil : ∀ l : List (List Nat), joinL [] l = l.flatten
  | [] => rfl
  | [x] => by simp [joinL]
  | x :: y :: r => by
    show x ++ [] ++ joinL [] (y :: r) = _
    rw [joinL_nil (y :: r)]; simp
theorem wd_cut_to (u : List Bool) (k : Nat) (h : k ≤ u.length) : cutL ((u.map bi).map PyData.int) none (some (k : Int)) = ((u.take k).map bi).map .int := by
  rw [cut_to _ _ (by omega) (by rw [wd_len]; omega), Int.toNat_natCast, List.map_take, List.map_take]
theorem wd_cut_from (u : List Bool) (k : Nat) (h : k ≤ u.length) : cutL ((u.map bi).map PyData.int) (some (k : Int)) none = ((u.drop k).map bi).map .int := by
  rw [cut_from _ _ (by omega) (by rw [wd_len]; omega), Int.toNat_natCast, List.map_drop, List.map_drop]
theorem lost_one (u : List Bool) (k : Nat) (h : k < u.length) : cutL ((u.map bi).map PyData.int) none (some (k : Int)) ++ cutL ((u.map bi).map PyData.int) (some ((k : Int) + 1)) none = ((u.take k ++ u.drop (k + 1)).map bi).map .int := by
  have e : ((k : Int) + 1) = ((k + 1 : Nat) : Int) := by omega
  rw [e, wd_cut_to u k (by omega), wd_cut_from u (k + 1) (by omega)]
  simp
theorem more_one (u : List Bool) (k : Nat) (h : k < u.length) : cutL ((u.map bi).map PyData.int) none (some (k : Int)) ++ [PyData.int (1 - bi (u.getD k false))] ++ cutL ((u.map bi).map PyData.int) (some (k : Int)) none = ((u.take k ++ [!u.getD k false] ++ u.drop k).map bi).map .int := by
  rw [wd_cut_to u k (by omega), wd_cut_from u k (by omega)]
  have : (1 : Int) - bi (u.getD k false) = bi (!u.getD k false) := by cases u.getD k false <;> rfl
  rw [this]
  simp
theorem lost_data (u : List Bool) : ((((span 0 (u.length : Int)).map PyData.int).filter fun _ => true).map fun d => wd (u.take (asInt d).toNat ++ u.drop ((asInt d).toNat + 1))) = (lostN u).map wd := by
  rw [all_true, span0, List.map_map, lostN, List.map_map]
  apply List.map_congr_left
  intro k _
  show wd (u.take ((k : Int)).toNat ++ u.drop (((k : Int)).toNat + 1)) = _
  rw [Int.toNat_natCast]; rfl
theorem more_data (u : List Bool) : ((((span 0 (u.length : Int)).map PyData.int).filter fun _ => true).map fun d => wd (u.take (asInt d).toNat ++ [!u.getD (asInt d).toNat false] ++ u.drop (asInt d).toNat)) ++ [wd (u ++ [false]), wd (u ++ [true])] = (moreN u).map wd := by
  rw [all_true, span0, List.map_map, moreN, List.map_append, List.map_map]
  congr 1
theorem flat_len (m : Nat) : ∀ l : List (List Nat), (∀ x ∈ l, x.length ≤ m) → l.flatten.length ≤ l.length * m
  | [], _ => by simp
  | x :: r, h => by
    have h1 := h x (by simp)
    have h2 := flat_len m r fun y hy => h y (by simp [hy])
    rw [List.flatten_cons, List.length_append, List.length_cons, Nat.succ_mul]
    omega
theorem bi_zero (b : Bool) : (bi b == 0) = !b := by cases b <;> rfl
theorem bi_sum (a b : Bool) : decide (bi a + bi b < 2) = !(a && b) := by cases a <;> cases b <;> decide
theorem askT_len {A B : List Nat} (k : Kd A B) (fb bb : Bool) (u : List Bool) (h : u.length ≤ 100) : (askT fb bb (u.map (dr A B))).length ≤ 3020 := by
  have h1 := joinL_len2 sep3 (u.map (dr A B)) (fun r hr => by obtain ⟨b, _, rfl⟩ := List.mem_map.mp hr; have := dr_len k b; omega) (by rw [List.length_map]; exact h) (by decide)
  have hd : ∀ b, (dotsIf b).length ≤ 3 := fun b => by cases b <;> decide
  have h2 := hd fb
  have h3 := hd bb
  unfold askT
  simp only [List.length_append, List.length_cons, List.length_nil]
  omega
abbrev gapL : List Nat := dots3 ++ mkR
theorem S_gap : (Str.ofString "...\n.\r") = S gapL := by decide +kernel
theorem S_mk : (Str.ofString "\n.\r") = S mkR := by decide +kernel
theorem rep_len (j : Nat) : (List.replicate j gapL).flatten.length = j * 6 := by
  induction j with
  | zero => rfl
  | succ j ih =>
    rw [List.replicate_succ, List.flatten_cons, List.length_append, ih, Nat.succ_mul]
    have : gapL.length = 6 := rfl
    omega
theorem wd_last (u : List Bool) (h : 0 < u.length) : ((u.map bi).map PyData.int)[((-1 : Int) + (((u.map bi).map PyData.int).length : Nat)).toNat]? = some (.int (bi (u.getD (u.length - 1) false))) := by
  rw [wd_len, show ((-1 : Int) + (u.length : Nat)).toNat = u.length - 1 by omega]
  exact wd_get u (by omega)
theorem wd_getI (w : List Bool) {k : Nat} (h : k < w.length) : ((w.map bi).map PyData.int)[((k : Nat) : Int).toNat]? = some (.int (bi (w.getD k false))) := by
  rw [Int.toNat_natCast]; exact wd_get w h
end Mine
end

section
section
set_option maxHeartbeats 4000000
namespace Mine

theorem fn_law {prog : Program} {w : World} {P : Params} (ns : List Int) (hn : ns.length ≤ 1048576) : Fn prog w (hd2.heap_39 P) (.ref 79) 9 [il ns] (.bool true) := by
  refine fn_of (ps := ["script"]) rfl rfl rfl rfl rfl rfl rfl rfl (by omega) rfl rfl rfl (fun vs hvs => by match vs, hvs with | [v], _ => rfl) (by decide) rfl (by decide) (by decide) ?_
  intro Ar env X₀ s₀ s he hA st Er
  have hnl : (ns.map PyData.int).length ≤ sizeLine := by rw [List.length_map, sizeLine_eq]; omega
  have hl2 : (2 : Int) - (((ns.map PyData.int).length : Nat) : Int) ≤ 2 := by omega
  have hl3 : -(2 ^ 61) ≤ (2 : Int) - (((ns.map PyData.int).length : Nat) : Int) := by rw [List.length_map]; omega
  refine run_assign (d := il (numsOf ns)) st (Ev.cast (Ev.addL st.ok ?_ (Ev.slice st.ok (Ev.var st rfl) .none (.some Ev.int) hnl) (Ev.repL st.ok (by omega) (by omega) (by decide) (Ev.list st.ok (.cons Ev.int .nil)) (Ev.max2 st.ok (kind_of he rfl) rfl Ev.int (Ev.sub Ev.int (Ev.lenL st.ok (kind_of he rfl) rfl hnl (Ev.var st rfl)))))) ?_) (.inl (kind_of he rfl)) (fun _ _ _ => noOwn) fun s st => ?_
  · rw [← List.length_append, nums_data, List.length_map, sizeLine_eq]
    have := nums_len ns
    omega
  · rw [nums_data]; rfl
  have hN := nums_len ns
  generalize numsOf ns = N at st hN
  have hNl : N.length ≤ 1000 := by omega
  refine run_assign (d := .int N.length) st (Ev.cast (Ev.lenL st.ok (kind_of he rfl) rfl (il_len N hNl) (Ev.var st rfl)) (by rw [List.length_map])) (.inr (kind_of he rfl)) (fun _ _ _ => noOwn) fun s st => ?_
  refine run_assign (d := wd (bitsOf N)) st (Ev.cast (Ev.comp (p := fun _ => true) (f := fun d => .int (asInt d % 2)) (caps := []) st.ok (compOk [] rfl rfl (by decide) (.inl rfl) (by decide) (by decide) (fun y hy => by cases hy) rfl)
      (fun y d hy => by cases hy) (It.list st.ok (Ev.var st rfl)) (il_len N hNl) (fun d hd => ?_)) (by rw [bits_data])) (.inr (kind_of he rfl)) (fun _ _ _ => noOwn) (fun s st => ?_) (swaps_cell (kind_of he rfl))
  · obtain ⟨x, hx, rfl⟩ := List.mem_map.mp hd
    refine Turns.plain fun cenv X' s₁ ck ok vars => ?_
    exact Ev.mod (by decide) (Ev.name ok (vars "x" _ rfl)) Ev.int
  have hbl := bitsOf_len N
  generalize hbits : bitsOf N = bits at st hbl
  refine run_assign (d := .list (sx kd)) st (Ev.cast (Ev.list st.ok (.cons Ev.str (.cons Ev.str (.cons Ev.str (.cons Ev.str (.cons Ev.str (.cons Ev.str .nil))))))) (by rw [← kinds_data])) (.inl (kind_of he rfl)) (fun _ _ _ => noOwn) fun s st => ?_
  have hget : ∀ k : Nat, k < 2 → (N.map PyData.int)[((k : Nat) : Int).toNat]? = some (.int (N.getD k 0)) := fun k hk => by
    rw [Int.toNat_natCast]; simp [List.getD, show k < N.length by omega]
  have h0 := hget 0 (by decide)
  have h1 := hget 1 (by decide)
  refine run_assign (d := .int (N.getD 0 0 / 2 % 6)) st (Ev.mod (by decide) (Ev.div (by decide) (by decide) (Ev.item (Ev.var st rfl) Ev.int (by decide) (by decide) h0) Ev.int) Ev.int) (.inl (kind_of he rfl)) (fun _ _ _ => noOwn) fun s st => ?_
  have hk := kd_Kd (first_lt N) (second_lt N) (first_second N)
  refine run_assign (d := .list (sx [kd.getD (firstOf N) [], kd.getD (secondOf N) []])) st (Ev.list st.ok (.cons (Ev.item (Ev.var st rfl) (Ev.var st rfl) (by omega) (by omega) (kd_get (first_lt N))) (.cons (Ev.item (Ev.var st rfl) (Ev.mod (by decide) (Ev.add (Ev.add (Ev.var st rfl) Ev.int) (Ev.mod (by decide) (Ev.div (by decide) (by decide) (Ev.item (Ev.var st rfl) Ev.int (by decide) (by decide) h0) Ev.int) Ev.int)) Ev.int) (by omega) (by omega) (kd_get (second_lt N))) .nil)) (sx2_len _ _)) (.inr (kind_of he rfl)) (fun _ _ _ => noOwn) fun s st => ?_
  generalize kd.getD (firstOf N) [] = A at st hk
  generalize kd.getD (secondOf N) [] = B at st hk
  have hdub : ∀ d ∈ sx [A, B], ∃ r, r.length ≤ 10 ∧ d = .str (S r) := fun d hd => by
    obtain ⟨r, hr, rfl⟩ := List.mem_map.mp hd
    simp at hr
    rcases hr with rfl | rfl
    · exact ⟨_, hk.lA, rfl⟩
    · exact ⟨_, hk.lB, rfl⟩
  refine run_assign (d := .list (sx [dub A, dub B])) st (Ev.cast (Ev.comp (p := fun _ => true) (f := fun d => .str (S (dub (asText d)))) (caps := []) st.ok (compOk [] rfl rfl (by decide) (.inl rfl) (by decide) (by decide) (fun y hy => by cases hy) rfl)
      (fun y d hy => by cases hy) (It.list st.ok (Ev.var st rfl)) (sx2_len _ _) (fun d hd => ?_)) (by rw [sx_data]; rfl)) (.inr (kind_of he rfl)) (fun _ _ _ => noOwn) (fun s st => ?_) (swaps_cell (kind_of he rfl))
  · obtain ⟨r, hr, rfl⟩ := hdub d hd
    refine Turns.plain fun cenv X' s₁ ck ok vars => ?_
    rw [asText_S]
    have hsz : (Str.ofString ".").length + (S r).length ≤ sizeLine := by
      have : (Str.ofString ".").length = 1 := by decide +kernel
      rw [S_len, sizeLine_eq]; omega
    refine Ev.cast (Ev.iteS (Tr.cmp (Ev.sliceTo (Ev.name ok (vars "row" _ rfl)) Ev.int (by rw [S_len, sizeLine_eq]; omega)) Ev.str eq_ss) (Ev.cat (a := Str.ofString ".") (b := S r) hsz Ev.str (Ev.name ok (vars "row" _ rfl))) (Ev.name ok (vars "row" _ rfl))) ?_
    rw [slice_one, dub_S]
  generalize hfb : decide (N.getD 1 0 / 2 % 2 = 1) = fb
  generalize hbb : decide (N.getD 1 0 / 4 % 2 = 1) = bb
  refine run_assign (d := .int (bi fb)) st (Ev.cast (Ev.mod (by decide) (Ev.div (by decide) (by decide) (Ev.item (Ev.var st rfl) Ev.int (by decide) (by decide) h1) Ev.int) Ev.int) (by rw [← hfb, bi_mod])) (.inl (kind_of he rfl)) (fun _ _ _ => noOwn) fun s st => ?_
  refine run_assign (d := .int (bi bb)) st (Ev.cast (Ev.mod (by decide) (Ev.div (by decide) (by decide) (Ev.item (Ev.var st rfl) Ev.int (by decide) (by decide) h1) Ev.int) Ev.int) (by rw [← hbb, bi_mod])) (.inl (kind_of he rfl)) (fun _ _ _ => noOwn) fun s st => ?_
  have h8 : 0 ≤ N.getD 1 0 / 8 % 2 ∧ N.getD 1 0 / 8 % 2 < 2 := by omega
  refine run_assign (d := .str (S (loneOf (N.getD 1 0 / 8 % 2)))) st (Ev.item (Ev.list st.ok (.cons Ev.str (.cons Ev.str .nil))) (Ev.mod (by decide) (Ev.div (by decide) (by decide) (Ev.item (Ev.var st rfl) Ev.int (by decide) (by decide) h1) Ev.int) Ev.int) (by omega) (by omega) (lones _ h8.1 h8.2)) (.inr (kind_of he rfl)) (fun _ _ _ => noOwn) fun s st => ?_
  have hee := endsOf_ends N
  have hel := endsOf_len N
  have hlone := loneOf_is (N.getD 1 0 / 8 % 2)
  refine run_assign (d := .list (sx (endsOf N))) st (Ev.cast (Ev.comp (p := fun _ => true) (f := fun d => .str (S (if asInt d / 16 % 2 == 1 then crlf else loneOf (N.getD 1 0 / 8 % 2)))) (caps := [("lone", .str (S (loneOf (N.getD 1 0 / 8 % 2))))]) st.ok (compOk ["lone"] rfl rfl (by decide) (.inl rfl) (by decide) (by decide) (fun y hy => .inl (by simp at hy; subst hy; exact kind_of he rfl)) rfl)
      (fun y d hy => st.vars y d (by have := PySem.mem_of_lookup hy; simp at this; rcases this with ⟨rfl, rfl⟩; rfl)) (It.list st.ok (Ev.var st rfl)) (il_len N hNl) (fun d hd => ?_)) ?_) (.inr (kind_of he rfl)) (fun _ _ _ => noOwn) (fun s st => ?_) (swaps_cell (kind_of he rfl))
  · obtain ⟨x, hx, rfl⟩ := List.mem_map.mp hd
    refine Turns.plain fun cenv X' s₁ ck ok vars => ?_
    refine Ev.cast (Ev.iteS (Tr.cmp (Ev.mod (by decide) (Ev.div (by decide) (by decide) (Ev.name ok (vars "x" _ rfl)) Ev.int) Ev.int) Ev.int eq_ii) (Ev.cast Ev.str (by rw [S_crlf])) (Ev.name ok (vars "lone" _ rfl))) ?_
    show PyData.str (if x / 16 % 2 == 1 then _ else _) = .str (S (if x / 16 % 2 == 1 then _ else _))
    split <;> rfl
  · rw [all_true, endsOf, sx, List.map_map]; rfl
  generalize endsOf N = Es at st hee hel
  generalize loneOf (N.getD 1 0 / 8 % 2) = lone at st hee hlone
  have hbs : bits.length ≤ 5 := by omega
  refine run_assign (d := .int (vtN bits)) st (Ev.call (k := 3) st.ok (kind_of he rfl) rfl rfl rfl (fn_sum bits (by omega)) (hA.less (by omega)) (.cons (Ev.var st rfl) .nil)) (.inr (kind_of he rfl)) (fun _ _ _ => noOwn) fun s st => ?_
  have hb2 : 2 ≤ bits.length := by omega
  rw [← hbl] at st
  have hpl := plain hk fb bb hb2 hbs
  have hpow : ∀ k : Nat, k ≤ 5 → 0 < (2 : Int) ^ k ∧ (2 : Int) ^ k ≤ 32 := fun k hk => by
    match k, hk with
    | 0, _ | 1, _ | 2, _ | 3, _ | 4, _ | 5, _ => decide
  have hp5 := hpow bits.length hbs
  refine run_comp [("size", .int (bits.length : Nat))] (p := fun _ => true) (f := fun d => wd (wordOf bits.length (asInt d).toNat)) st (compOk ["size"] rfl rfl (by decide) (.inr rfl) (by decide) (by decide) (fun y hy => .inl (by simp at hy; subst hy; exact kind_of he rfl)) rfl) (fun q hq => by simp at hq; subst hq; rfl)
    (It.range1 st.ok (kind_of he rfl) rfl (Ev.pow (by decide) (by omega) Ev.int (Ev.var st rfl)) (by omega) (by omega)) (by rw [List.length_map, span_length, sizeLine_eq]; omega) (fun d hd => ?_) (kind_of he rfl) rfl (by decide) (fun _ _ _ => noOwn) fun s st => ?_
  · rw [pow_cast, span0, List.map_map] at hd
    obtain ⟨v, hv, rfl⟩ := List.mem_map.mp hd
    rw [show (PyData.int ∘ fun (i : Nat) => (i : Int)) v = .int (v : Int) from rfl]
    refine Turns.plain fun cenv X' s₁ ck ok vars => ?_
    refine Ev.cast (Ev.comp (p := fun _ => true) (f := fun d => .int ((v : Int) / 2 ^ (asInt d).toNat % 2)) (ds := (span 0 (bits.length : Int)).map .int) (caps := [("v", .int (v : Int))]) ok (compOk ["v"] rfl rfl (by decide) (.inl rfl) (by decide) (by decide) (fun y hy => by simp at hy; subst hy; exact ck.cap _ (.inl rfl)) rfl)
        (fun y d hy => vars y d (by have := PySem.mem_of_lookup hy; simp at this; rcases this with ⟨rfl, rfl⟩; rfl)) (It.range1 ok (ck.glob _ rfl) rfl (Ev.name ok (vars "size" _ rfl)) (by omega) (by omega)) (by rw [List.length_map, span_length, sizeLine_eq]; omega) (fun d hd => ?_)) ?_
    · rw [span0, List.map_map] at hd
      obtain ⟨k, hk', rfl⟩ := List.mem_map.mp hd
      have hk' := List.mem_range.mp hk'
      rw [show (PyData.int ∘ fun (i : Nat) => (i : Int)) k = .int (k : Int) from rfl]
      have hpk := hpow k (by omega)
      refine Turns.plain fun cenv' X'' s₂ ck' ok' vars' => ?_
      exact Ev.cast (d := .int ((v : Int) / 2 ^ k % 2)) (Ev.mod (by decide) (Ev.div hpk.1 (by omega) (Ev.name ok' (vars' "v" _ rfl)) (Ev.pow (n := k) (by decide) (by omega) Ev.int (Ev.name ok' (vars' "k" _ rfl)))) Ev.int) rfl
    · rw [word_data]; rfl
  rw [words_data] at st
  have hwl := wordsN_len bits.length hbs
  refine run_comp [("check", .int (vtN bits))] (p := fun d => ((vtN (asWord d) : Int) == (vtN bits : Int))) (f := fun d => d) st (compOk ["check"] rfl rfl (by decide) (.inl rfl) (by decide) (by decide) (fun y hy => .inl (by simp at hy; subst hy; exact kind_of he rfl)) rfl) (fun q hq => by simp at hq; subst hq; rfl)
    (It.list st.ok (Ev.var st rfl)) (wd_size _ (by omega)) (fun d hd => ?_) (kind_of he rfl) rfl (by decide) (fun _ _ _ => noOwn) fun s st => ?_
  · obtain ⟨u, hu, rfl⟩ := List.mem_map.mp hd
    have hul := wordsN_mem hu
    refine Turns.one (fun cenv X' s₁ ck ok vars => ?_) fun _ cenv X' s₁ ck ok vars => Ev.name ok (vars "word" _ rfl)
    rw [asWord_wd]
    exact Tr.cmp (Ev.call (k := 3) ok (ck.glob _ rfl) rfl rfl rfl (fn_sum u (by omega)) (hA.less (by omega)) (.cons (Ev.name ok (vars "word" _ rfl)) .nil)) (Ev.name ok (vars "check" _ rfl)) eq_ii
  rw [spool_data] at st
  have hspl := spoolN_len bits hbs
  have hspm : ∀ u ∈ spoolN bits, u.length = bits.length := fun u hu => spool_len hu
  generalize hsp : spoolN bits = sp at st hspl hspm
  have fsent : ∀ u : List Bool, u ≠ [] → u.length ≤ bits.length + 1 → Fn prog w (hd2.heap_39 P) (.ref 62) 5 [wd u, .list (sx [A, B]), .list (sx Es)] (.str (S (J A B u))) := fun u hu0 hu => fn_sent u hu0 (by omega) (by omega) hk.fA hk.fB hk.lA hk.lB hlone hee
  refine run_comp [("ends", .list (sx Es)), ("rows", .list (sx [A, B]))] (p := fun _ => true) (f := fun d => .str (S (J A B (asWord d)))) st (compOk ["ends", "rows"] rfl rfl (by decide) (.inl rfl) (by decide) (by decide) (fun y hy => .inl (by simp at hy; rcases hy with rfl | rfl <;> exact kind_of he rfl)) rfl) (fun q hq => by simp at hq; rcases hq with rfl | rfl <;> rfl)
    (It.list st.ok (Ev.var st rfl)) (wd_size _ (by omega)) (fun d hd => ?_) (kind_of he rfl) rfl (by decide) (fun _ _ _ => noOwn) fun s st => ?_
  · obtain ⟨u, hu, rfl⟩ := List.mem_map.mp hd
    have hul := hspm u hu
    refine Turns.plain fun cenv X' s₁ ck ok vars => ?_
    rw [asWord_wd]
    exact Ev.call (k := 5) ok (ck.glob _ rfl) rfl rfl rfl (fsent u (ne_of_len (by omega)) (by omega)) (hA.less (by omega)) (.cons (Ev.name ok (vars "word" _ rfl)) (.cons (Ev.name ok (vars "rows" _ rfl)) (.cons (Ev.name ok (vars "ends" _ rfl)) .nil)))
  rw [words_data2 sp _ (fun u => PyData.str (S (J A B u))) fun u => by rw [asWord_wd]] at st
  rw [map_sx sp (J A B)] at st
  have hspl' : (sp.map (J A B)).length ≤ 1000 := by rw [List.length_map]; omega
  have jl : ∀ u ∈ sp.map (J A B), Low u := fun u hu => by obtain ⟨v, _, rfl⟩ := List.mem_map.mp hu; exact J_low hk v
  have lA1 := dub_len A
  have lB1 := dub_len B
  have lA2 := dub_len (dub A)
  have lB2 := dub_len (dub B)
  have lA := hk.lA
  have lB := hk.lB
  refine run_if (b := false) st (Tr.cast (Tr.cmp (b := .list (sx (sp.map (J A B)))) (Ev.var st rfl) (Ev.cast (Ev.comp (p := fun _ => true) (f := fun d => .str (S (J A B (asWord d)))) (ds := sp.map wd) (caps := [("dotted", .list (sx [dub A, dub B]))]) st.ok (compOk ["dotted"] rfl rfl (by decide) (.inl rfl) (by decide) (by decide) (fun y hy => .inl (by simp at hy; subst hy; exact kind_of he rfl)) rfl)
      (fun y d hy => st.vars y d (by have := PySem.mem_of_lookup hy; simp at this; rcases this with ⟨rfl, rfl⟩; rfl)) (It.list st.ok (Ev.var st rfl)) (wd_size _ (by omega)) (fun d hd => ?_)) ?_) (ne_dd (shaped_strs _ jl) (shaped_strs _ jl) st.ok)) (by rw [eqv_strs _ jl]; rfl)) fun s st => run_nil ?_
  · obtain ⟨u, hu, rfl⟩ := List.mem_map.mp hd
    have hul := hspm u hu
    refine Turns.plain fun cenv X' s₁ ck ok vars => ?_
    rw [asWord_wd]
    exact Ev.cast (Ev.joinBits (tn := "dotted") ok (compOk ["dotted"] rfl rfl (by decide) (.inl rfl) (by decide) (by decide) (fun y hy => by simp at hy; subst hy; exact ck.cap _ (.inr rfl)) rfl) (vars "dotted" _ rfl) (vars "word" _ rfl) (by decide) (by decide) (by omega) (by omega) (by omega)) (by rw [J_table])
  · rw [words_data2 sp _ (fun u => PyData.str (S (J A B u))) fun u => by rw [asWord_wd], map_sx]
  have hdub2 : ∀ d ∈ sx [dub A, dub B], ∃ r, r.length ≤ 11 ∧ d = .str (S r) := fun d hd => by
    obtain ⟨r, hr, rfl⟩ := List.mem_map.mp hd
    simp at hr
    rcases hr with rfl | rfl
    · exact ⟨_, by omega, rfl⟩
    · exact ⟨_, by omega, rfl⟩
  refine run_assign (d := .list (sx [dub (dub A), dub (dub B)])) st (Ev.cast (Ev.comp (p := fun _ => true) (f := fun d => .str (S (dub (asText d)))) (caps := []) st.ok (compOk [] rfl rfl (by decide) (.inl rfl) (by decide) (by decide) (fun y hy => by cases hy) rfl)
      (fun y d hy => by cases hy) (It.list st.ok (Ev.var st rfl)) (sx2_len _ _) (fun d hd => ?_)) (by rw [sx_data]; rfl)) (.inr (kind_of he rfl)) (fun _ _ _ => noOwn) (fun s st => ?_) (swaps_cell (kind_of he rfl))
  · obtain ⟨r, hr, rfl⟩ := hdub2 d hd
    refine Turns.plain fun cenv X' s₁ ck ok vars => ?_
    rw [asText_S]
    have hsz : (Str.ofString ".").length + (S r).length ≤ sizeLine := by
      have : (Str.ofString ".").length = 1 := by decide +kernel
      rw [S_len, sizeLine_eq]; omega
    refine Ev.cast (Ev.iteS (Tr.cmp (Ev.sliceTo (Ev.name ok (vars "row" _ rfl)) Ev.int (by rw [S_len, sizeLine_eq]; omega)) Ev.str eq_ss) (Ev.cat (a := Str.ofString ".") (b := S r) hsz Ev.str (Ev.name ok (vars "row" _ rfl))) (Ev.name ok (vars "row" _ rfl))) ?_
    rw [slice_one, dub_S]
  have jl2 : ∀ u ∈ (sp.map fun u => joinL crlf (u.map (pk1 (dub (dub A)) (dub (dub B))))), Low u := fun u hu => by obtain ⟨v, _, rfl⟩ := List.mem_map.mp hu; exact JQ_low hk v
  have eq2 : (sp.map (J A B)).map quoted = sp.map fun u => joinL crlf (u.map (pk1 (dub (dub A)) (dub (dub B)))) := by
    rw [List.map_map]
    apply List.map_congr_left
    intro u _
    exact J_quoted hk u
  refine run_if (b := false) st (Tr.cast (Tr.cmp (a := .list (sx (sp.map fun u => joinL crlf (u.map (pk1 (dub (dub A)) (dub (dub B))))))) (b := .list (sx (sp.map fun u => joinL crlf (u.map (pk1 (dub (dub A)) (dub (dub B)))))))
    (Ev.cast (Ev.comp (p := fun _ => true) (f := fun d => .str (S (quoted (asText d)))) (ds := sx (sp.map (J A B))) (caps := []) st.ok (compOk [] rfl rfl (by decide) (.inl rfl) (by decide) (by decide) (fun y hy => by cases hy) rfl)
      (fun y d hy => by cases hy) (It.list st.ok (Ev.var st rfl)) (sx_size _ hspl') (fun d hd => ?_)) ?_)
    (Ev.cast (Ev.comp (p := fun _ => true) (f := fun d => .str (S (joinL crlf ((asWord d).map (pk1 (dub (dub A)) (dub (dub B))))))) (ds := sp.map wd) (caps := [("twice", .list (sx [dub (dub A), dub (dub B)]))]) st.ok (compOk ["twice"] rfl rfl (by decide) (.inl rfl) (by decide) (by decide) (fun y hy => .inl (by simp at hy; subst hy; exact kind_of he rfl)) rfl)
      (fun y d hy => st.vars y d (by have := PySem.mem_of_lookup hy; simp at this; rcases this with ⟨rfl, rfl⟩; rfl)) (It.list st.ok (Ev.var st rfl)) (wd_size _ (by omega)) (fun d hd => ?_)) ?_) (ne_dd (shaped_strs _ jl2) (shaped_strs _ jl2) st.ok)) (by rw [eqv_strs _ jl2]; rfl)) fun s st => run_nil ?_
  · obtain ⟨x, hx, rfl⟩ := List.mem_map.mp hd
    obtain ⟨u, hu, rfl⟩ := List.mem_map.mp hx
    have hul := hspm u hu
    have := J_len hk u (by omega)
    refine Turns.plain fun cenv X' s₁ ck ok vars => ?_
    rw [asText_S]
    exact Ev.call (k := 3) ok (ck.glob _ rfl) rfl rfl rfl (fn_quote (J A B u) (by omega)) (hA.less (by omega)) (.cons (Ev.name ok (vars "text" _ rfl)) .nil)
  · rw [sx_map, eq2]
  · obtain ⟨u, hu, rfl⟩ := List.mem_map.mp hd
    have hul := hspm u hu
    refine Turns.plain fun cenv X' s₁ ck ok vars => ?_
    rw [asWord_wd]
    exact Ev.joinBits (tn := "twice") ok (compOk ["twice"] rfl rfl (by decide) (.inl rfl) (by decide) (by decide) (fun y hy => by simp at hy; subst hy; exact ck.cap _ (.inr rfl)) rfl) (vars "twice" _ rfl) (vars "word" _ rfl) (by decide) (by decide) (by omega) (by omega) (by omega)
  · rw [words_data2 sp _ (fun u => PyData.str (S (joinL crlf (u.map (pk1 (dub (dub A)) (dub (dub B))))))) fun u => by rw [asWord_wd], map_sx]
  refine run_assign (d := .str (S (J A B bits))) st (Ev.call (k := 5) st.ok (kind_of he rfl) rfl rfl rfl (fsent bits (ne_of_len (by omega)) (by omega)) (hA.less (by omega)) (.cons (Ev.var st rfl) (.cons (Ev.var st rfl) (.cons (Ev.var st rfl) .nil)))) (.inl (kind_of he rfl)) (fun _ _ _ => noOwn) fun s st => ?_
  have hee' : ∀ u ∈ sp, u ≠ [] := fun u hu => ne_of_len (by have := hspm u hu; omega)
  have hJs : ∀ k, k < sp.length → (J A B (sp.getD k [])).length ≤ 1300 := fun k hk' => J_len hk _ (by have := hspm _ (getD_mem sp [] hk'); omega)
  have hJb := J_len hk bits (by omega)
  refine run_for st (It.range1 st.ok (kind_of he rfl) rfl (Ev.lenL st.ok (kind_of he rfl) rfl (wd_size sp (by omega)) (Ev.var st rfl)) (by rw [List.length_map]; omega) (by rw [List.length_map]; omega)) (.inl (kind_of he rfl))
    (fun _ => none) (fun _ => [("drawn", .str (S (J A B bits))), ("sent", .list (sx (sp.map (J A B)))), ("spool", .list (sp.map wd)), ("bits", wd bits), ("rows", .list (sx [A, B])), ("ends", .list (sx Es)), ("dotted", .list (sx [dub A, dub B])), ("front", .int (bi fb)), ("back", .int (bi bb)), ("size", .int (bits.length : Nat))])
    (fun _ _ _ _ => noOwn) ⟨rfl, by intro p hp; simp only [List.mem_cons, List.not_mem_nil, or_false] at hp; rcases hp with rfl | rfl | rfl | rfl | rfl | rfl | rfl | rfl | rfl | rfl <;> rfl⟩ (fun k d s₁ hd st E' => ?_) fun s st => ?_
  · rw [List.length_map] at hd
    obtain ⟨hk1, rfl⟩ := span_get hd
    have hk' : k < sp.length := by omega
    rw [Int.zero_add] at st
    have p1 := hpl.p1 (sp.getD k []) (by rw [hsp]; exact getD_mem sp [] hk')
    have hJk := hJs k hk'
    refine run_if (b := false) st (Tr.cast (Tr.cmp (Ev.call (k := 3) st.ok (kind_of he rfl) rfl rfl rfl (fn_ell (J A B (sp.getD k [])) (J A B bits) (by omega) (by omega)) (hA.less (by omega)) (.cons (Ev.item (Ev.var st rfl) (Ev.var st rfl) (by omega) (by omega) (sent_get A B sp hk')) (.cons (Ev.var st rfl) .nil)))
      (Ev.cmp (Ev.item (Ev.var st rfl) (Ev.var st rfl) (by omega) (by omega) (word_get sp hk')) (Ev.var st rfl) (eq_dd (shaped_ints _) (shaped_ints _) st.ok)) isNot_bb) (by rw [p1, wd_eqv]; simp)) fun s st => run_nil (run_nil (st.weaken ?_))
    intro p hp; simp only [List.mem_cons, List.not_mem_nil, or_false] at hp; rcases hp with rfl | rfl | rfl | rfl | rfl | rfl | rfl | rfl | rfl | rfl <;> rfl
  have hwl : ((sp.map fun u => J A B u ++ markT).flatten).length ≤ 50000 := by
    have := flat_len 1305 (sp.map fun u => J A B u ++ markT) (fun x hx => by
      obtain ⟨u, hu, rfl⟩ := List.mem_map.mp hx
      have := J_len hk u (by have := hspm u hu; omega)
      rw [List.length_append]
      have h5 : markT.length = 5 := rfl
      omega)
    rw [List.length_map] at this
    have h2 : sp.length * 1305 ≤ 32 * 1305 := Nat.mul_le_mul_right _ hspl
    omega
  refine run_assign (d := .str (S (wireL A B sp))) st (Ev.cast (Ev.sliceTo (x := S (10 :: (sp.map fun u => J A B u ++ markT).flatten)) (Ev.cast (Ev.cat (a := S [10]) (b := S (sp.map fun u => J A B u ++ markT).flatten) ?_ (Ev.cast Ev.str (by rw [S_lf])) (Ev.cast (Ev.join (sep := []) (l := sp.map fun u => J A B u ++ markT) ⟨by decide, by rw [List.length_map]; omega, fun x hx => ?_⟩ (Ev.cast Ev.str (by rw [S_nil]))
      (Ev.cast (Ev.comp (p := fun _ => true) (f := fun d => .str (S (asText d ++ markT))) (ds := sx (sp.map (J A B))) (caps := []) st.ok (compOk [] rfl rfl (by decide) (.inl rfl) (by decide) (by decide) (fun y hy => by cases hy) rfl)
      (fun y d hy => by cases hy) (It.list st.ok (Ev.var st rfl)) (sx_size _ hspl') (fun d hd => ?_)) ?_)) (by rw [joinL_nil]))) (by rw [S_app]; rfl)) (Ev.neg Ev.int) ?_) ?_) (.inl (kind_of he rfl)) (fun _ _ _ => noOwn) fun s st => ?_
  · rw [S_len, S_len, sizeLine_eq]; simp only [List.length_cons, List.length_nil]; omega
  · obtain ⟨u, hu, rfl⟩ := List.mem_map.mp hx
    have := J_len hk u (by have := hspm u hu; omega)
    rw [List.length_append]
    have h5 : markT.length = 5 := rfl
    omega
  · obtain ⟨x, hx, rfl⟩ := List.mem_map.mp hd
    obtain ⟨u, hu, rfl⟩ := List.mem_map.mp hx
    have := J_len hk u (by have := hspm u hu; omega)
    have h5 : markT.length = 5 := rfl
    refine Turns.plain fun cenv X' s₁ ck ok vars => ?_
    rw [asText_S]
    exact Ev.cast (Ev.cat (a := S (J A B u)) (b := S markT) (by rw [S_len, S_len, sizeLine_eq]; omega) (Ev.name ok (vars "text" _ rfl)) (Ev.cast Ev.str (by rw [S_mark]))) (by rw [S_app])
  · rw [sx_map (sp.map (J A B)) (fun x => x ++ markT), List.map_map]; rfl
  · rw [S_len, sizeLine_eq]; simp only [List.length_cons]; omega
  · show PyData.str (Txt.slice _ none (some (-1))) = _
    rw [slice_last _ (by simp)]; rfl
  have hbn : ((bits.map bi).map PyData.int).length ≤ sizeLine := by rw [wd_len, sizeLine_eq]; omega
  refine run_comp [("bits", wd bits)] (p := fun _ => true) (f := fun d => wd (bits.take (asInt d).toNat ++ bits.drop ((asInt d).toNat + 1))) st (compOk ["bits"] rfl rfl (by decide) (.inl rfl) (by decide) (by decide) (fun y hy => .inl (by simp at hy; subst hy; exact kind_of he rfl)) rfl) (fun q hq => by simp at hq; subst hq; rfl)
    (It.range1 st.ok (kind_of he rfl) rfl (Ev.var st rfl) (by omega) (by omega)) (by rw [List.length_map, span_length, sizeLine_eq]; omega) (fun d hd => ?_) (kind_of he rfl) rfl (by decide) (fun _ _ _ => noOwn) fun s st => ?_
  · rw [span0, List.map_map] at hd
    obtain ⟨k, hk', rfl⟩ := List.mem_map.mp hd
    have hk' := List.mem_range.mp hk'
    rw [show (PyData.int ∘ fun (i : Nat) => (i : Int)) k = .int (k : Int) from rfl]
    refine Turns.plain fun cenv X' s₁ ck ok vars => ?_
    refine Ev.cast (Ev.addL ok ?_ (Ev.slice ok (Ev.name ok (vars "bits" _ rfl)) .none (.some (Ev.name ok (vars "k" _ rfl))) hbn) (Ev.slice ok (Ev.name ok (vars "bits" _ rfl)) (.some (Ev.add (Ev.name ok (vars "k" _ rfl)) Ev.int)) .none hbn)) ?_
    · have h1 := cutL_all ((bits.map bi).map PyData.int) none (some (k : Int))
      have h2 := cutL_all ((bits.map bi).map PyData.int) (some ((k : Int) + 1)) none
      rw [wd_len] at h1 h2
      rw [sizeLine_eq]; omega
    · rw [lost_one bits k hk']; rfl
  rw [lost_data] at st
  have hlostl : (lostN bits).length = bits.length := by simp [lostN]
  have hmorel : (moreN bits).length = bits.length + 2 := by simp [moreN]
  have hcut : ∀ a b, (cutL ((bits.map bi).map PyData.int) a b).length ≤ 5 := fun a b => by
    have h1 := cutL_all ((bits.map bi).map PyData.int) a b
    rw [wd_len] at h1
    omega
  refine run_assign (d := .list ((moreN bits).map wd)) st (Ev.cast (Ev.addL st.ok ?_ (Ev.comp (p := fun _ => true) (f := fun d => wd (bits.take (asInt d).toNat ++ [!bits.getD (asInt d).toNat false] ++ bits.drop (asInt d).toNat)) (ds := (span 0 (bits.length : Int)).map .int) (caps := [("bits", wd bits)]) st.ok (compOk ["bits"] rfl rfl (by decide) (.inl rfl) (by decide) (by decide) (fun y hy => .inl (by simp at hy; subst hy; exact kind_of he rfl)) rfl)
      (fun y d hy => st.vars y d (by have := PySem.mem_of_lookup hy; simp at this; rcases this with ⟨rfl, rfl⟩; rfl)) (It.range1 st.ok (kind_of he rfl) rfl (Ev.var st rfl) (by omega) (by omega)) (by rw [List.length_map, span_length, sizeLine_eq]; omega) (fun d hd => ?_))
      (Ev.list st.ok (.cons (Ev.cast (d' := wd (bits ++ [false])) (Ev.addL st.ok (xs := (bits.map bi).map .int) ?_ (Ev.var st rfl) (Ev.list st.ok (.cons Ev.int .nil))) ?_) (.cons (Ev.cast (d' := wd (bits ++ [true])) (Ev.addL st.ok (xs := (bits.map bi).map .int) ?_ (Ev.var st rfl) (Ev.list st.ok (.cons Ev.int .nil))) ?_) .nil)) ?_)) (by rw [more_data])) (.inl (kind_of he rfl)) (fun _ _ _ => noOwn) fun s st => ?_
  · have := congrArg List.length (more_data bits)
    rw [List.length_append] at this
    rw [this, List.length_map, hmorel, sizeLine_eq]; omega
  · rw [span0, List.map_map] at hd
    obtain ⟨k, hk', rfl⟩ := List.mem_map.mp hd
    have hk' := List.mem_range.mp hk'
    rw [show (PyData.int ∘ fun (i : Nat) => (i : Int)) k = .int (k : Int) from rfl]
    refine Turns.plain fun cenv X' s₁ ck ok vars => ?_
    have h1 := hcut none (some (k : Int))
    have h2 := hcut (some (k : Int)) none
    refine Ev.cast (Ev.addL ok ?_ (Ev.addL ok ?_ (Ev.slice ok (Ev.name ok (vars "bits" _ rfl)) .none (.some (Ev.name ok (vars "k" _ rfl))) hbn) (Ev.list ok (.cons (Ev.sub Ev.int (Ev.item (Ev.name ok (vars "bits" _ rfl)) (Ev.name ok (vars "k" _ rfl)) (by omega) (by omega) (k := (k : Int)) (wd_getI bits hk'))) .nil))) (Ev.slice ok (Ev.name ok (vars "bits" _ rfl)) (.some (Ev.name ok (vars "k" _ rfl))) .none hbn)) ?_
    · rw [List.length_append, sizeLine_eq]; simp only [List.length_cons, List.length_nil]; omega
    · rw [sizeLine_eq]; simp only [List.length_cons, List.length_nil]; omega
    · rw [more_one bits k hk']; rfl
  · rw [wd_len, sizeLine_eq]; simp only [List.length_cons, List.length_nil]; omega
  · simp [wd, il, bi]
  · rw [wd_len, sizeLine_eq]; simp only [List.length_cons, List.length_nil]; omega
  · simp [wd, il, bi]
  · rw [sizeLine_eq]; simp only [List.length_cons, List.length_nil]; omega
  have key : ∀ wv ∈ lostN bits ++ moreN bits, 1 ≤ wv.length ∧ wv.length ≤ bits.length + 1 := fun wv hm => by
    rcases List.mem_append.mp hm with h | h
    · have := lost_len h; omega
    · have := more_len h; omega
  refine run_for st (It.list st.ok (Ev.cast (d' := .list ((lostN bits ++ moreN bits).map wd)) (Ev.addL st.ok ?_ (Ev.var st rfl) (Ev.var st rfl)) (by rw [List.map_append]))) (.inl (kind_of he rfl))
    (fun _ => none) (fun _ => [("wire", .str (S (wireL A B sp))), ("sent", .list (sx (sp.map (J A B)))), ("spool", .list (sp.map wd)), ("bits", wd bits), ("rows", .list (sx [A, B])), ("ends", .list (sx Es)), ("dotted", .list (sx [dub A, dub B])), ("front", .int (bi fb)), ("back", .int (bi bb)), ("size", .int (bits.length : Nat))])
    (fun _ _ _ _ => noOwn) ⟨rfl, by intro p hp; simp only [List.mem_cons, List.not_mem_nil, or_false] at hp; rcases hp with rfl | rfl | rfl | rfl | rfl | rfl | rfl | rfl | rfl | rfl <;> rfl⟩ (fun i d s₁ hd st E' => ?_) fun s st => ?_
  · rw [List.length_map, List.length_map, hlostl, hmorel, sizeLine_eq]; omega
  · obtain ⟨wv, hr, rfl⟩ := map_get_some hd
    have hm := List.mem_of_getElem? hr
    obtain ⟨hw1, hw2⟩ := key wv hm
    have hJw := J_len hk wv (by omega)
    have hwn := ne_of_len (w := wv) (by omega)
    refine run_assign (d := .str (S (J A B wv))) st (Ev.call (k := 5) st.ok (kind_of he rfl) rfl rfl rfl (fsent wv hwn hw2) (hA.less (by omega)) (.cons (Ev.var st rfl) (.cons (Ev.var st rfl) (.cons (Ev.var st rfl) .nil)))) (.inl (kind_of he rfl)) (fun _ _ _ => noOwn) fun s st => ?_
    refine run_if (b := false) st (Tr.cast (Tr.cmp (b := .str (S (J A B wv))) (Ev.var st rfl) (Ev.cast (Ev.joinBits (tn := "dotted") (u := wv) st.ok (compOk ["dotted"] rfl rfl (by decide) (.inl rfl) (by decide) (by decide) (fun y hy => .inl (by simp at hy; subst hy; exact kind_of he rfl)) rfl) (st.var rfl) (st.var rfl) (by decide) (by decide) (by omega) (by omega) (by omega)) (by rw [J_table])) ne_ss) (by simp)) fun s st => run_nil ?_
    have hw0 : ((wv.map bi).map PyData.int).length ≤ sizeLine := by rw [wd_len, sizeLine_eq]; omega
    refine run_assign (d := .bool ((!fb || wv.getD 0 false == bits.getD 0 false) && (!bb || wv.getD (wv.length - 1) false == bits.getD (bits.length - 1) false))) st
      (Ev.and2 (Ev.cast (Ev.or2 (b := wv.getD 0 false == bits.getD 0 false) (Ev.cmp (Ev.var st rfl) Ev.int eq_ii) fun _ => Ev.cast (Ev.cmp (Ev.item (Ev.var st rfl) Ev.int (by decide) (by decide) (k := ((0 : Nat) : Int)) (wd_getI wv (by omega))) (Ev.item (Ev.var st rfl) Ev.int (by decide) (by decide) (k := ((0 : Nat) : Int)) (wd_getI bits (by omega))) eq_ii) (by rw [bi_beq])) (by rw [bi_zero]))
        fun _ => (Ev.cast (Ev.or2 (b := wv.getD (wv.length - 1) false == bits.getD (bits.length - 1) false) (Ev.cmp (Ev.var st rfl) Ev.int eq_ii) fun _ => Ev.cast (Ev.cmp (Ev.itemNeg (Ev.var st rfl) (Ev.neg Ev.int) (by decide) (by rw [wd_len]; omega) (by decide) (wd_last wv (by omega))) (Ev.itemNeg (Ev.var st rfl) (Ev.neg Ev.int) (by decide) (by rw [wd_len]; omega) (by decide) (wd_last bits (by omega))) eq_ii) (by rw [bi_beq])) (by rw [bi_zero])))
      (.inl (kind_of he rfl)) (fun _ _ _ => noOwn) fun s st => ?_
    refine run_assign (d := .bool (sameB fb bb bits wv)) st (Ev.and2 (b := decide (1 < wv.length) || !(fb && bb)) (Ev.var st rfl) fun _ => Ev.cast (Ev.or2 (b := !(fb && bb)) (Ev.cmp (Ev.lenL st.ok (kind_of he rfl) rfl hw0 (Ev.var st rfl)) Ev.int gt_ii) fun _ => Ev.cast (Ev.cmp (Ev.add (Ev.var st rfl) (Ev.var st rfl)) Ev.int lt_ii) (by rw [bi_sum])) ?_) (.inl (kind_of he rfl)) (fun _ _ _ => noOwn) fun s st => ?_
    · rw [wd_len]
      congr 2
      exact decide_eq_decide.mpr (by omega)
    generalize hsm : sameB fb bb bits wv = sm at st
    refine run_for st (It.range1 st.ok (kind_of he rfl) rfl (Ev.lenL st.ok (kind_of he rfl) rfl (wd_size sp (by omega)) (Ev.var st rfl)) (by rw [List.length_map]; omega) (by rw [List.length_map]; omega)) (.inl (kind_of he rfl))
      (fun _ => none) (fun _ => [("same", .bool sm), ("text", .str (S (J A B wv))), ("word", wd wv), ("wire", .str (S (wireL A B sp))), ("sent", .list (sx (sp.map (J A B)))), ("spool", .list (sp.map wd)), ("bits", wd bits), ("rows", .list (sx [A, B])), ("ends", .list (sx Es)), ("dotted", .list (sx [dub A, dub B])), ("front", .int (bi fb)), ("back", .int (bi bb)), ("size", .int (bits.length : Nat))])
      (fun _ _ _ _ => noOwn) ⟨rfl, by intro p hp; simp only [List.mem_cons, List.not_mem_nil, or_false] at hp; rcases hp with rfl | rfl | rfl | rfl | rfl | rfl | rfl | rfl | rfl | rfl | rfl | rfl | rfl <;> rfl⟩ (fun k d s₂ hd st E'' => ?_) fun s st => run_nil (st.weaken ?_)
    · rw [List.length_map] at hd
      obtain ⟨hk1, rfl⟩ := span_get hd
      have hk' : k < sp.length := by omega
      rw [Int.zero_add] at st
      have hvm := getD_mem sp [] hk'
      have hvl := hspm _ hvm
      have p2 := hpl.p2 wv hm (sp.getD k []) (by rw [hsp]; exact hvm)
      have p3 := fun h => hpl.p3 wv hm h k (by rw [hsp]; exact hk')
      rw [hsp] at p3
      rw [hsm] at p2 p3
      generalize hdue : (sp.getD k [] == bits && sm) = due at p2 p3
      refine run_assign (d := .bool due) st (Ev.cast (Ev.and2 (b := sm) (Ev.cmp (Ev.item (Ev.var st rfl) (Ev.var st rfl) (by omega) (by omega) (word_get sp hk')) (Ev.var st rfl) (eq_dd (shaped_ints _) (shaped_ints _) st.ok)) fun _ => Ev.var st rfl) (by rw [wd_eqv, hdue])) (.inl (kind_of he rfl)) (fun _ _ _ => noOwn) fun s st => ?_
      have hJk := hJs k hk'
      have hak := askT_len hk fb bb (sp.getD k []) (by omega)
      have haw := askT_len hk fb bb wv (by omega)
      have fask : ∀ u : List Bool, u ≠ [] → u.length ≤ 6 → Fn prog w (hd2.heap_39 P) (.ref 69) 3 [.str (S (J A B u)), .int (bi fb), .int (bi bb)] (.str (S (askT fb bb (u.map (dr A B))))) := fun u hu0 hu => fn_asked fb bb (u.map (dr A B)) (by simpa using hu0) (by rw [List.length_map]; omega) (fun r hr => by obtain ⟨b, _, rfl⟩ := List.mem_map.mp hr; have := dr_len hk b; omega) (fun r hr => by obtain ⟨b, _, rfl⟩ := List.mem_map.mp hr; exact hk.rowy.no13 (some b))
      refine run_if (b := false) st (Tr.cast (Tr.cmp (Ev.call (k := 3) st.ok (kind_of he rfl) rfl rfl rfl (fn_ell (askT fb bb ((sp.getD k []).map (dr A B))) (10 :: J A B wv ++ [13]) (by omega) (by simp only [List.length_append, List.length_cons, List.length_nil]; omega)) (hA.less (by omega))
          (.cons (Ev.call (k := 3) st.ok (kind_of he rfl) rfl rfl rfl (fask (sp.getD k []) (ne_of_len (by omega)) (by omega)) (hA.less (by omega)) (.cons (Ev.item (Ev.var st rfl) (Ev.var st rfl) (by omega) (by omega) (sent_get A B sp hk')) (.cons (Ev.var st rfl) (.cons (Ev.var st rfl) .nil))))
          (.cons (Ev.cast (Ev.cat (a := S (10 :: J A B wv)) (b := S [13]) (by rw [S_len, S_len, sizeLine_eq]; simp only [List.length_cons, List.length_nil]; omega) (Ev.cast (Ev.cat (a := S [10]) (b := S (J A B wv)) (by rw [S_len, S_len, sizeLine_eq]; simp only [List.length_cons, List.length_nil]; omega) (Ev.cast Ev.str (by rw [S_lf])) (Ev.var st rfl)) (by rw [S_app]; rfl)) (Ev.cast Ev.str (by rw [S_cr]))) (by rw [S_app])) .nil)))
        (Ev.and2 (b := decide (wv.length > bits.length)) (Ev.var st rfl) fun _ => Ev.cast (Ev.cmp (Ev.lenL st.ok (kind_of he rfl) rfl hw0 (Ev.var st rfl)) (Ev.var st rfl) gt_ii) ?_) isNot_bb) (by rw [p2]; simp)) fun s st => run_nil ?_
      · rw [wd_len]
        congr 1
        exact decide_eq_decide.mpr (by omega)
      refine run_ifm [("same", .bool sm), ("text", .str (S (J A B wv))), ("word", wd wv), ("wire", .str (S (wireL A B sp))), ("sent", .list (sx (sp.map (J A B)))), ("spool", .list (sp.map wd)), ("bits", wd bits), ("rows", .list (sx [A, B])), ("ends", .list (sx Es)), ("dotted", .list (sx [dub A, dub B])), ("front", .int (bi fb)), ("back", .int (bi bb)), ("size", .int (bits.length : Nat))] st (Tr.cast (b' := decide (wv.length < bits.length)) (Tr.cmp (Ev.lenL st.ok (kind_of he rfl) rfl hw0 (Ev.var st rfl)) (Ev.var st rfl) lt_ii) ?_) (fun s st E₃ => ?_) fun s st => run_nil st
      · rw [wd_len]
        exact decide_eq_decide.mpr (by omega)
      · by_cases hlt : wv.length < bits.length
        · rw [decide_eq_true hlt, if_pos rfl]
          have p3 := p3 hlt
          have hr1 := rep_len k
          have hr2 := rep_len (sp.length - 1 - k)
          have e3 : ((sp.length : Int) - 1 - (k : Int)).toNat = sp.length - 1 - k := by omega
          refine run_assign (d := .str (S (askedK A B fb bb wv k (sp.length - 1 - k)))) st (Ev.cast (Ev.cat (a := S ((List.replicate k gapL).flatten ++ askT fb bb (wv.map (dr A B)) ++ mkR)) (b := S (List.replicate (sp.length - 1 - k) gapL).flatten) ?_
            (Ev.cast (Ev.cat (a := S ((List.replicate k gapL).flatten ++ askT fb bb (wv.map (dr A B)))) (b := S mkR) ?_
              (Ev.cast (Ev.cat (a := S (List.replicate k gapL).flatten) (b := S (askT fb bb (wv.map (dr A B)))) ?_
                (Ev.cast (Ev.rep (mulOk (l := gapL) (n := (k : Int)) (by omega) (by omega) (by decide)) (Ev.cast Ev.str (by rw [S_gap])) (Ev.var st rfl)) (by rw [S_mul, Int.toNat_natCast]))
                (Ev.call (k := 3) st.ok (kind_of he rfl) rfl rfl rfl (fask wv hwn (by omega)) (hA.less (by omega)) (.cons (Ev.var st rfl) (.cons (Ev.var st rfl) (.cons (Ev.var st rfl) .nil))))) (by rw [S_app]))
              (Ev.cast Ev.str (by rw [S_mk]))) (by rw [S_app]))
            (Ev.cast (Ev.rep (mulOk (l := gapL) (n := (sp.length : Int) - 1 - (k : Int)) (by omega) (by omega) (by decide)) (Ev.cast Ev.str (by rw [S_gap])) (Ev.sub (Ev.sub (Ev.cast (Ev.lenL st.ok (kind_of he rfl) rfl (wd_size sp (by omega)) (Ev.var st rfl)) (by rw [List.length_map])) Ev.int) (Ev.var st rfl))) (by rw [S_mul, e3]))) ?_) (.inl (kind_of he rfl)) (fun _ _ _ => noOwn) fun s st => ?_
          · rw [S_len, S_len, List.length_append, List.length_append, hr1, hr2, sizeLine_eq]; simp only [List.length_cons, List.length_nil]; omega
          · rw [S_len, S_len, List.length_append, hr1, sizeLine_eq]; simp only [List.length_cons, List.length_nil]; omega
          · rw [S_len, S_len, hr1, sizeLine_eq]; omega
          · rw [S_app]; rfl
          have hasl : (askedK A B fb bb wv k (sp.length - 1 - k)).length ≤ 100000 := by
            unfold askedK
            rw [List.length_append, List.length_append, List.length_append, hr1, hr2]; simp only [List.length_cons, List.length_nil]; omega
          have hwil : (wireL A B sp).length ≤ 100000 := by
            unfold wireL
            rw [List.length_dropLast, List.length_cons]; omega
          refine run_if (b := false) st (Tr.cast (Tr.cmp (Ev.call (k := 3) st.ok (kind_of he rfl) rfl rfl rfl (fn_ell (askedK A B fb bb wv k (sp.length - 1 - k)) (wireL A B sp) hasl hwil) (hA.less (by omega)) (.cons (Ev.var st rfl) (.cons (Ev.var st rfl) .nil))) (Ev.var st rfl) isNot_bb) (by rw [p3]; simp)) fun s st => run_nil (run_nil (st.weaken ?_))
          intro p hp; simp only [List.mem_cons, List.not_mem_nil, or_false] at hp; rcases hp with rfl | rfl | rfl | rfl | rfl | rfl | rfl | rfl | rfl | rfl | rfl | rfl | rfl <;> rfl
        · rw [decide_eq_false hlt, if_neg (by decide)]
          refine run_nil (st.weaken ?_)
          intro p hp; simp only [List.mem_cons, List.not_mem_nil, or_false] at hp; rcases hp with rfl | rfl | rfl | rfl | rfl | rfl | rfl | rfl | rfl | rfl | rfl | rfl | rfl <;> rfl
    · intro p hp; simp only [List.mem_cons, List.not_mem_nil, or_false] at hp; rcases hp with rfl | rfl | rfl | rfl | rfl | rfl | rfl | rfl | rfl | rfl <;> rfl
  · exact run_return st Ev.bool fun v s st r => ret_ok st r
end Mine
end
end

section
set_option maxHeartbeats 8000000 in
theorem PySem.Challenge.cw_pk0031_02_holds : PySem.Challenge.rw_pk0031_02.Holds := by
  exact
  entry fun prog w P ns hn => Mine.fn_law ns hn
end

