import PyProof.Rows.All
import Wide.All
import OpenK.AllK
import Wide.FinOn
import PySem.Challenge.RW_bz6003_01
set_option Elab.async false
section
open PySem PySem.W PyProof.Rows
set_option Elab.async false
set_option maxRecDepth 100000
set_option maxHeartbeats 8000000
namespace Mine
open_top hd for PySem.Challenge.rw_bz6003_01
end Mine
end
section
open PySem PySem.W
set_option Elab.async false
namespace Mine

/-- what is seen of a heap: its objects, but for the hidden ones -/
abbrev View := Addr → Obj → Prop
def vw (H : Addr → Prop) (h : Heap) : View := fun a o => ¬ H a ∧ h.get? a = some o
def View.le (V V' : View) : Prop := ∀ a o, V a o → V' a o
theorem View.le.rfl {V : View} : V.le V := fun _ _ h => h
theorem View.le.trans {V V' V'' : View} (a : V.le V') (b : V'.le V'') : V.le V'' := fun x o h => b x o (a x o h)

/-- a property of a value, that lasts while what is seen lasts -/
structure VP where
  is : View → Value → Prop
  mono : ∀ {V V' : View} {v : Value}, V.le V' → is V v → is V' v

def All2 (V : View) : List VP → List Value → Prop
  | [], [] => True
  | p :: ps, v :: vs => p.is V v ∧ All2 V ps vs
  | _, _ => False
theorem All2.mono {V V' : View} (h : V.le V') : ∀ {ps : List VP} {vs : List Value}, All2 V ps vs → All2 V' ps vs
  | [], [], _ => trivial
  | p :: _, _ :: _, x => ⟨p.mono h x.1, All2.mono h x.2⟩
  | [], _ :: _, x => x.elim
  | _ :: _, [], x => x.elim
theorem All2.length {V : View} : ∀ {ps : List VP} {vs : List Value}, All2 V ps vs → ps.length = vs.length
  | [], [], _ => rfl
  | _ :: _, _ :: _, x => by rw [List.length_cons, List.length_cons, All2.length x.2]
  | [], _ :: _, x => x.elim
  | _ :: _, [], x => x.elim
theorem All2.append {V : View} : ∀ {ps qs : List VP} {vs us : List Value}, All2 V ps vs → All2 V qs us → All2 V (ps ++ qs) (vs ++ us)
  | [], _, [], _, _, y => y
  | _ :: _, _, _ :: _, _, x, y => ⟨x.1, All2.append x.2 y⟩
  | [], _, _ :: _, _, x, _ => x.elim
  | _ :: _, _, [], _, x, _ => x.elim
theorem All2.get {V : View} : ∀ {ps : List VP} {vs : List Value} {i : Nat} {p : VP}, All2 V ps vs → ps[i]? = some p → ∃ v, vs[i]? = some v ∧ p.is V v
  | [], [], i, _, _, e => by simp at e
  | q :: _, v :: _, 0, p, x, e => by simp at e; subst e; exact ⟨v, rfl, x.1⟩
  | _ :: _, _ :: _, i + 1, p, x, e => by simp only [List.getElem?_cons_succ] at e ⊢; exact All2.get x.2 e
  | [], _ :: _, _, _, x, _ => x.elim
  | _ :: _, [], _, _, x, _ => x.elim
theorem All2.drop {V : View} : ∀ {ps : List VP} {vs : List Value} (n : Nat), All2 V ps vs → All2 V (ps.drop n) (vs.drop n)
  | [], [], n, _ => by simp [All2]
  | _ :: _, _ :: _, 0, x => x
  | _ :: _, _ :: _, n + 1, x => by simp only [List.drop_succ_cons]; exact All2.drop n x.2
  | [], _ :: _, _, x => x.elim
  | _ :: _, [], _, x => x.elim
theorem All2.take {V : View} : ∀ {ps : List VP} {vs : List Value} (n : Nat), All2 V ps vs → All2 V (ps.take n) (vs.take n)
  | [], [], n, _ => by simp [All2]
  | _ :: _, _ :: _, 0, x => trivial
  | _ :: _, _ :: _, n + 1, x => by simp only [List.take_succ_cons]; exact ⟨x.1, All2.take n x.2⟩
  | [], _ :: _, _, x => x.elim
  | _ :: _, [], _, x => x.elim
theorem All2.reverse {V : View} : ∀ {ps : List VP} {vs : List Value}, All2 V ps vs → All2 V ps.reverse vs.reverse
  | [], [], _ => trivial
  | _ :: _, _ :: _, x => by rw [List.reverse_cons, List.reverse_cons]; exact All2.append (All2.reverse x.2) ⟨x.1, trivial⟩
  | [], _ :: _, x => x.elim
  | _ :: _, [], x => x.elim

def pint (i : Int) : VP := ⟨fun _ v => ∃ t, v = .int i t, fun _ h => h⟩
def pbool (b : Bool) : VP := ⟨fun _ v => v = .bool b, fun _ h => h⟩
def pnone : VP := ⟨fun _ v => v = .none, fun _ h => h⟩
def pstr (x : Str) : VP := ⟨fun _ v => ∃ t, v = .str x t, fun _ h => h⟩
def plist (ps : List VP) : VP :=
  ⟨fun V v => ∃ a xs n, v = .ref a ∧ V a { cls := .type "list", data := .seq xs n } ∧ All2 V ps xs.toList,
   fun h ⟨a, xs, n, e, x, y⟩ => ⟨a, xs, n, e, h _ _ x, y.mono h⟩⟩
def ptup (ps : List VP) : VP :=
  ⟨fun V v => ∃ a o xs n, v = .ref a ∧ V a o ∧ o.cls = .type "tuple" ∧ o.data = .seq xs n ∧ All2 V ps xs.toList,
   fun h ⟨a, o, xs, n, e, x, c, d, y⟩ => ⟨a, o, xs, n, e, h _ _ x, c, d, y.mono h⟩⟩

/-- nothing that stood before has turned -/
def GE (a b : Array GenState) : Prop := (PyProof.Rows.AllBare a → PyProof.Rows.AllBare b) ∧ ∀ (i : Nat) (x : GenState), a[i]? = some x → b[i]? = some x
theorem GE.rfl {a : Array GenState} : GE a a := ⟨id, fun _ _ e => e⟩
theorem GE.of_eq {a b : Array GenState} (h : b = a) : GE a b := h ▸ GE.rfl
theorem GE.trans {a b c : Array GenState} (x : GE a b) (y : GE b c) : GE a c := ⟨fun h => y.1 (x.1 h), fun i z e => y.2 i z (x.2 i z e)⟩

structure Ext (s s' : Shared) : Prop where
  keep : ∀ b o, s.heap.get? b = some o → s'.heap.get? b = some o
  gens : GE s.gens s'.gens
  os : s'.os = s.os
theorem Ext.rfl {s : Shared} : Ext s s := ⟨fun _ _ e => e, GE.rfl, _root_.rfl⟩
theorem Ext.trans {a b c : Shared} (x : Ext a b) (y : Ext b c) : Ext a c :=
  ⟨fun i o e => y.keep i o (x.keep i o e), x.gens.trans y.gens, y.os.trans x.os⟩
/-- on, where what stood at the start stands on -/
theorem Ext.trans' {a b : Shared} {h' : Heap} {t : Nat} (x : Ext a b) (hk : ∀ i o, a.heap.get? i = some o → b.heap.get? i = some o → h'.get? i = some o) : Ext a { b with heap := h', toks := t } :=
  ⟨fun i o e => hk i o e (x.keep i o e), x.gens, x.os⟩
theorem Ext.toks {s : Shared} (t : Nat) : Ext s { s with toks := t } := ⟨fun _ _ e => e, GE.rfl, _root_.rfl⟩
theorem Ext.push {s : Shared} (o : Obj) (t : Nat) : Ext s { s with heap := s.heap.push o, toks := t } :=
  ⟨fun _ _ e => Heap.get?_push_of_some _ e, GE.rfl, _root_.rfl⟩
theorem Ext.heap {s : Shared} {h' : Heap} {t : Nat} (hk : ∀ b o, s.heap.get? b = some o → h'.get? b = some o) : Ext s { s with heap := h', toks := t } := ⟨hk, GE.rfl, _root_.rfl⟩
/-- the hidden ones stand -/
def Live (H : Addr → Prop) (h : Heap) : Prop := ∀ a, H a → ∃ o, h.get? a = some o
theorem Live.lt {H : Addr → Prop} {h : Heap} (x : Live H h) {a : Addr} (ha : H a) : a < h.objs.size := let ⟨_, e⟩ := x a ha; Heap.lt_size e
theorem Live.keeps {H : Addr → Prop} {h h' : Heap} (x : Live H h) (hk : ∀ b o, h.get? b = some o → h'.get? b = some o) : Live H h' := fun a ha => let ⟨o, e⟩ := x a ha; ⟨o, hk _ _ e⟩
theorem Ext.view {s s' : Shared} (x : Ext s s') (H : Addr → Prop) : (vw H s.heap).le (vw H s'.heap) := fun a o h => ⟨h.1, x.keep a o h.2⟩

structure Cfg where
  prog : Program
  w : World
  K : Frag
  mg : Str → Option Value
  mb : Str → Option Value
abbrev Cfg.M (c : Cfg) : Model := model c.prog c.w

/-- what is known of the top, in every heap that holds it -/
structure Gl (c : Cfg) (h : Heap) : Prop where
  g : h.Ns mainGlobals c.mg
  b : h.Ns builtinsNs c.mb
  nolimit : h.NoLimit
  seer : h.NoSeer
  digits : ∃ mc, h.Ns cStatics mc ∧ mc "sys.int_max_str_digits" = none
  k : c.K.In h
  boot : ∀ x : Str, x ≠ "__name__" → c.mb x = bootBuiltins x
theorem Gl.keeps {c : Cfg} {h h' : Heap} (G : Gl c h) (hk : ∀ b o, h.get? b = some o → h'.get? b = some o) : Gl c h' :=
  ⟨G.g.keeps hk, G.b.keeps hk, G.nolimit.keeps hk, G.seer.keeps hk, let ⟨mc, a, b⟩ := G.digits; ⟨mc, a.keeps hk, b⟩, G.k.keeps hk, G.boot⟩

structure AC (A : Around) (n : Nat) : Prop where
  handled : A.handled = none
  depth : A.depth + n ≤ 600
  units : A.units + 30 * n ≤ 3000
  guards : A.guards = some []
theorem AC.less {A : Around} {n m : Nat} (x : AC A n) (h : m ≤ n) : AC A m := ⟨x.handled, by have := x.depth; omega, by have := x.units; omega, x.guards⟩
theorem AC.deeper {A : Around} {n : Nat} {env : Env} (x : AC A (n + 1)) : AC (A.deeper env) n :=
  ⟨x.handled, by have := x.depth; show A.depth + 1 + n ≤ 600; omega, by have := x.units; show A.units + 3 + 30 * n ≤ 3000; omega, x.guards⟩
theorem AC.in1 {A : Around} {n : Nat} (x : AC A (n + 1)) : AC A.in1 n :=
  ⟨x.handled, by have := x.depth; show A.depth + n ≤ 600; omega, by have := x.units; show A.units + 1 + 30 * n ≤ 3000; omega, x.guards⟩
theorem AC.room {A : Around} {n : Nat} (x : AC A n) : A.depth < recursionLimit := by have := x.depth; show A.depth < 1000; omega
theorem AC.cline {A : Around} {n : Nat} (x : AC A n) : A.units < cLine := by have := x.units; show A.units < 9900; omega

def VarAt (env : Env) (h : Heap) (V : View) (x : Str) (p : VP) : Prop :=
  (env.kindOf x = some .local ∧ ∃ m v, h.Ns env.locals m ∧ m x = some v ∧ p.is V v) ∨
  ((env.kindOf x = some .cell ∨ (env.kindOf x = some .free ∧ (x == ("__classdict__" : Str)) = false)) ∧ ∃ a v, env.cells.lookup x = some a ∧ h.IsCell a (some v) ∧ p.is V v)

structure At (c : Cfg) (B : Shared) (H : Addr → Prop) (env : Env) (ρ : List (Str × VP)) (s : Shared) : Prop where
  base : Gl c B.heap
  ext : Ext B s
  live : Live H s.heap
  homeH : H env.locals
  homeB : B.heap.get? env.locals = none
  ns : ∃ m, s.heap.Ns env.locals m
  globals : env.globals = mainGlobals
  builtins : env.builtins = builtinsNs
  kind : env.scope.kind = .function
  one : ∀ x y a, env.cells.lookup x = some a → env.cells.lookup y = some a → x = y
  cells : ∀ x a, env.cells.lookup x = some a → ∃ v, s.heap.IsCell a v
  has : ∀ x, env.kindOf x = some .cell ∨ env.kindOf x = some .free → ∃ a, env.cells.lookup x = some a
  vars : ∀ x p, ρ.lookup x = some p → VarAt env s.heap (vw H s.heap) x p

theorem VarAt.keeps {env : Env} {h h' : Heap} {V V' : View} {x : Str} {p : VP} (X : VarAt env h V x p) (hk : ∀ b o, h.get? b = some o → h'.get? b = some o) (hv : V.le V') : VarAt env h' V' x p := by
  rcases X with ⟨a, m, v, b, c, d⟩ | ⟨a, c, v, b, d, e⟩
  · exact .inl ⟨a, m, v, b.keeps hk, c, p.mono hv d⟩
  · exact .inr ⟨a, c, v, b, d.keeps hk, p.mono hv e⟩

theorem At.gl {c : Cfg} {B : Shared} {H : Addr → Prop} {env : Env} {ρ : List (Str × VP)} {s : Shared} (X : At c B H env ρ s) : Gl c s.heap := X.base.keeps X.ext.keep
theorem At.more {c : Cfg} {B : Shared} {H : Addr → Prop} {env : Env} {ρ : List (Str × VP)} {s s' : Shared} (X : At c B H env ρ s) (e : Ext s s') : At c B H env ρ s' where
  base := X.base
  ext := X.ext.trans e
  live := X.live.keeps e.keep
  homeH := X.homeH
  homeB := X.homeB
  ns := let ⟨m, h⟩ := X.ns; ⟨m, h.keeps e.keep⟩
  globals := X.globals
  builtins := X.builtins
  kind := X.kind
  one := X.one
  cells := fun x a h => let ⟨v, y⟩ := X.cells x a h; ⟨v, y.keeps e.keep⟩
  has := X.has
  vars := fun x p h => (X.vars x p h).keeps e.keep (e.view H)

theorem ns_unique {h : Heap} {a : Addr} {m m' : Str → Option Value} (x : h.Ns a m) (y : h.Ns a m') : m = m' := by
  obtain ⟨o, es, ep, ho, hd, _, hf⟩ := x
  obtain ⟨o', es', ep', ho', hd', _, hf'⟩ := y
  rw [ho] at ho'; cases ho'
  rw [hd] at hd'; cases hd'
  funext n
  rw [← hf n, hf' n]
theorem cell_unique {h : Heap} {a : Addr} {u v : Option Value} (x : h.IsCell a u) (y : h.IsCell a v) : u = v := by
  obtain ⟨o, ho, hd⟩ := x
  obtain ⟨o', ho', hd'⟩ := y
  rw [ho] at ho'; cases ho'
  rw [hd] at hd'; cases hd'; rfl
theorem cell_ns {h : Heap} {a : Addr} {u : Option Value} {m : Str → Option Value} (x : h.IsCell a u) (y : h.Ns a m) : False := by
  obtain ⟨o, ho, hd⟩ := x
  obtain ⟨o', es', ep', ho', hd', _, _⟩ := y
  rw [ho] at ho'; cases ho'
  rw [hd] at hd'; cases hd'

/-- an expression's value, in every frame of that scope that knows ρ -/
def Ev (c : Cfg) (n : Nat) (sc : Scope) (ρ : List (Str × VP)) (e : Expr) (p : VP) : Prop :=
  ∀ (A : Around) (B : Shared) (H : Addr → Prop) (env : Env) (s : Shared) (Q : Value → Shared → Prop) (E : Value → Shared → Prop),
    env.scope = sc → AC A n → At c B H env ρ s →
    (∀ v s', Ext s s' → p.is (vw H s'.heap) v → Q v s') → wpAny c.M A (eval e env) Q E s

/-- the same of a test -/
def Ts (c : Cfg) (n : Nat) (sc : Scope) (ρ : List (Str × VP)) (e : Expr) (b : Bool) : Prop :=
  ∀ (A : Around) (B : Shared) (H : Addr → Prop) (env : Env) (s : Shared) (Q : Bool → Shared → Prop) (E : Value → Shared → Prop),
    env.scope = sc → AC A n → At c B H env ρ s →
    (∀ s', Ext s s' → Q b s') → wpAny c.M A (isTrue e env (eval e env)) Q E s

section
variable {c : Cfg} {n : Nat} {sc : Scope} {ρ : List (Str × VP)}

theorem ev_name {x : Str} {pos : Pos} {p : VP} (h : ρ.lookup x = some p) (hd : (x == ("__debug__" : Str)) = false := by decide) : Ev c n sc ρ (.Name x pos) p := by
  intro A B H env s Q E _ _ X hQ
  refine wpAny_Name ?_ hd
  rcases X.vars x p h with ⟨k, m, v, hn, hv, hp⟩ | ⟨k, a, v, ha, hv, hp⟩
  · exact wpAny_loadName_local X.kind k hn hv (hQ v s .rfl hp)
  · rcases k with k | ⟨k, hx⟩
    · exact wpAny_loadName_cell X.kind k ha hv (hQ v s .rfl hp)
    · exact wpAny_loadName_free X.kind k ha hv (hQ v s .rfl hp) hx

theorem ev_int {i : Int} {k : Nat} {pos : Pos} : Ev c n sc ρ (.Constant (.int i) k pos) (pint i) :=
  fun _ _ _ _ _ _ _ _ _ _ hQ => wpAny_Constant_int (hQ _ _ (.toks _) ⟨_, rfl⟩)
theorem ev_none {k : Nat} {pos : Pos} : Ev c n sc ρ (.Constant .none k pos) pnone :=
  fun _ _ _ _ _ _ _ _ _ _ hQ => wpAny_Constant_none (hQ _ _ .rfl rfl)
theorem ev_bool {b : Bool} {k : Nat} {pos : Pos} : Ev c n sc ρ (.Constant (.bool b) k pos) (pbool b) :=
  fun _ _ _ _ _ _ _ _ _ _ hQ => wpAny_Constant_bool (hQ _ _ .rfl rfl)

/-- an operator's step -/
def Bin (c : Cfg) (n : Nat) (op : Operator) (p q r : VP) : Prop :=
  ∀ (A : Around) (H : Addr → Prop) (s : Shared) (a b : Value) (Q : Value → Shared → Prop) (E : Value → Shared → Prop), AC A n → Gl c s.heap → Live H s.heap →
    p.is (vw H s.heap) a → q.is (vw H s.heap) b → (∀ v s', Ext s s' → r.is (vw H s'.heap) v → Q v s') → wpAny c.M A (binaryOp op a b) Q E s
def Cmp (c : Cfg) (n : Nat) (op : CmpOp) (p q r : VP) : Prop :=
  ∀ (A : Around) (H : Addr → Prop) (s : Shared) (a b : Value) (Q : Value → Shared → Prop) (E : Value → Shared → Prop), AC A n → Gl c s.heap → Live H s.heap →
    p.is (vw H s.heap) a → q.is (vw H s.heap) b → (∀ v s', Ext s s' → r.is (vw H s'.heap) v → Q v s') → wpAny c.M A (compareOp op a b) Q E s

theorem ev_bin {l r : Expr} {op : Operator} {pos : Pos} {p q z : VP} (hl : Ev c n sc ρ l p) (hr : Ev c n sc ρ r q) (ho : Bin c n op p q z) : Ev c n sc ρ (.BinOp l op r pos) z := by
  intro A B H env s Q E hs hA X hQ
  refine wpAny_BinOp (hl A B H env s _ E hs hA X fun a s₁ e₁ ha => hr A B H env s₁ _ E hs hA (X.more e₁) fun b s₂ e₂ hb => ?_)
  have X₂ := (X.more e₁).more e₂
  exact ho A H s₂ a b Q E hA X₂.gl X₂.live (p.mono (e₂.view H) ha) hb fun v s' e hv => hQ v s' ((e₁.trans e₂).trans e) hv

theorem ev_cmp {l r : Expr} {op : CmpOp} {pos : Pos} {p q z : VP} (hl : Ev c n sc ρ l p) (hr : Ev c n sc ρ r q) (ho : Cmp c n op p q z)
    (hm : behindInMarks op r = false := by with_unfolding_all rfl) : Ev c n sc ρ (.Compare l [op] [r] pos) z := by
  intro A B H env s Q E hs hA X hQ
  refine wpAny_Compare1 (hl A B H env s _ E hs hA X fun a s₁ e₁ ha => hr A B H env s₁ _ E hs hA (X.more e₁) fun b s₂ e₂ hb => ?_) hm
  have X₂ := (X.more e₁).more e₂
  exact ho A H s₂ a b Q E hA X₂.gl X₂.live (p.mono (e₂.view H) ha) hb fun v s' e hv => hQ v s' ((e₁.trans e₂).trans e) hv

theorem ts_cmp {l r : Expr} {op : CmpOp} {pos : Pos} {p q : VP} {b : Bool} (hl : Ev c n sc ρ l p) (hr : Ev c n sc ρ r q) (ho : Cmp c n op p q (pbool b))
    (hm : behindInMarks op r = false := by with_unfolding_all rfl) : Ts c n sc ρ (.Compare l [op] [r] pos) b := by
  intro A B H env s Q E hs hA X hQ
  refine wpAny_isTrue_Compare1 (hl A B H env s _ E hs hA X fun a s₁ e₁ ha => hr A B H env s₁ _ E hs hA (X.more e₁) fun b s₂ e₂ hb => ?_) hm
  have X₂ := (X.more e₁).more e₂
  refine ho A H s₂ a b _ E hA X₂.gl X₂.live (p.mono (e₂.view H) ha) hb fun v s' e hv => ?_
  obtain rfl := hv
  exact wpAny_truthy_bool (hQ s' ((e₁.trans e₂).trans e))

theorem ts_and_nil' {A : Around} {env : Env} {s : Shared} {Q : Bool → Shared → Prop} {E : Value → Shared → Prop} (h : Q true s) : wpAny c.M A (allTrue .And [] env) Q E s := wpAny_allTrue_And_nil h

/-- and, or of two tests -/
theorem ts_and {x y : Expr} {pos : Pos} {a b : Bool} (hx : Ts c n sc ρ x a) (hy : a = true → Ts c n sc ρ y b) : Ts c n sc ρ (.BoolOp .And [x, y] pos) (a && b) := by
  intro A B H env s Q E hs hA X hQ
  refine wpAny_isTrue_BoolOp (wpAny_allTrue_And_cons (hx A B H env s _ E hs hA X fun s₁ e₁ => ?_))
  cases a with
  | false => simpa using hQ s₁ e₁
  | true =>
    simp only [if_true]
    refine wpAny_allTrue_And_cons (hy rfl A B H env s₁ _ E hs hA (X.more e₁) fun s₂ e₂ => ?_)
    cases b with
    | false => simpa using hQ s₂ (e₁.trans e₂)
    | true => simpa using (wpAny_allTrue_And_nil (by simpa using hQ s₂ (e₁.trans e₂)))
theorem ts_or2 {x y : Expr} {pos : Pos} {a b : Bool} (hx : Ts c n sc ρ x a) (hy : a = false → Ts c n sc ρ y b) : Ts c n sc ρ (.BoolOp .Or [x, y] pos) (a || b) := by
  intro A B H env s Q E hs hA X hQ
  refine wpAny_isTrue_BoolOp (wpAny_allTrue_Or_cons (hx A B H env s _ E hs hA X fun s₁ e₁ => ?_))
  cases a with
  | true => simpa using hQ s₁ e₁
  | false =>
    simp only [Bool.false_eq_true, if_false]
    refine wpAny_allTrue_Or_cons (hy rfl A B H env s₁ _ E hs hA (X.more e₁) fun s₂ e₂ => ?_)
    cases b with
    | true => simpa using hQ s₂ (e₁.trans e₂)
    | false => simpa using (wpAny_allTrue_Or_nil (by simpa using hQ s₂ (e₁.trans e₂)))
theorem ts_or3 {x y z : Expr} {pos : Pos} {a b d : Bool} (hx : Ts c n sc ρ x a) (hy : a = false → Ts c n sc ρ y b) (hz : a = false → b = false → Ts c n sc ρ z d) : Ts c n sc ρ (.BoolOp .Or [x, y, z] pos) (a || b || d) := by
  intro A B H env s Q E hs hA X hQ
  refine wpAny_isTrue_BoolOp (wpAny_allTrue_Or_cons (hx A B H env s _ E hs hA X fun s₁ e₁ => ?_))
  cases a with
  | true => simpa using hQ s₁ e₁
  | false =>
    simp only [Bool.false_eq_true, if_false]
    refine wpAny_allTrue_Or_cons (hy rfl A B H env s₁ _ E hs hA (X.more e₁) fun s₂ e₂ => ?_)
    cases b with
    | true => simpa using hQ s₂ (e₁.trans e₂)
    | false =>
      simp only [Bool.false_eq_true, if_false]
      refine wpAny_allTrue_Or_cons (hz rfl rfl A B H env s₂ _ E hs hA ((X.more e₁).more e₂) fun s₃ e₃ => ?_)
      cases d with
      | true => simpa using hQ s₃ ((e₁.trans e₂).trans e₃)
      | false => simpa using (wpAny_allTrue_Or_nil (by simpa using hQ s₃ ((e₁.trans e₂).trans e₃)))

theorem ev_ifexp {t x y : Expr} {pos : Pos} {b : Bool} {p : VP} (ht : Ts c n sc ρ t b) (hx : b = true → Ev c n sc ρ x p) (hy : b = false → Ev c n sc ρ y p) : Ev c n sc ρ (.IfExp t x y pos) p := by
  intro A B H env s Q E hs hA X hQ
  refine wpAny_IfExp (ht A B H env s _ E hs hA X fun s₁ e₁ => ?_)
  cases b with
  | true => exact hx rfl A B H env s₁ Q E hs hA (X.more e₁) fun v s' e hv => hQ v s' (e₁.trans e) hv
  | false => exact hy rfl A B H env s₁ Q E hs hA (X.more e₁) fun v s' e hv => hQ v s' (e₁.trans e) hv

theorem ev_neg {x : Expr} {pos : Pos} {i : Int} (h : Ev c n sc ρ x (pint i)) : Ev c n sc ρ (.UnaryOp .USub x pos) (pint (-i)) := by
  intro A B H env s Q E hs hA X hQ
  refine wpAny_UnaryOp (h A B H env s _ E hs hA X fun v s₁ e₁ hv => ?_)
  obtain ⟨t, rfl⟩ := hv
  exact PyProof.Rows.neg_int (hQ _ _ (e₁.trans (.toks _)) ⟨_, rfl⟩)

/-- many expressions one behind the other -/
def Evs (c : Cfg) (n : Nat) (sc : Scope) (ρ : List (Str × VP)) : List Expr → List VP → Prop
  | [], [] => True
  | e :: es, p :: ps => (Ev c n sc ρ e p ∧ ∀ (env : Env) (rest : List Expr), starEach (e :: rest) env = (false, eval e env) :: starEach rest env) ∧ Evs c n sc ρ es ps
  | _, _ => False
theorem evs_nil : Evs c n sc ρ [] [] := trivial
theorem evs_cons {e : Expr} {es : List Expr} {p : VP} {ps : List VP} (h : Ev c n sc ρ e p) (hr : Evs c n sc ρ es ps)
    (hs : ∀ (env : Env) (rest : List Expr), starEach (e :: rest) env = (false, eval e env) :: starEach rest env := by intro _ _; rfl) : Evs c n sc ρ (e :: es) (p :: ps) := ⟨⟨h, hs⟩, hr⟩
theorem ev_items {pos : Pos} {A : Around} {B : Shared} {H : Addr → Prop} {env : Env} {E : Value → Shared → Prop} (hs : env.scope = sc) (hA : AC A n) :
    ∀ (es : List Expr) (ps : List VP) (s : Shared) (Q : List Value → Shared → Prop), Evs c n sc ρ es ps →
      At c B H env ρ s → (∀ vs s', Ext s s' → All2 (vw H s'.heap) ps vs → Q vs s') → wpAny c.M A (spliced (backTo pos (starEach es env))) Q E s
  | [], [], s, Q, _, _, hQ => wpAny_items_nil (hQ [] s .rfl trivial)
  | e :: es, p :: ps, s, Q, h, X, hQ => by
    obtain ⟨⟨h1, h2⟩, h3⟩ := h
    refine wpAny_items_cons (h1 A B H env s _ E hs hA X fun v s₁ e₁ hv => ?_) (h2 env es)
    exact ev_items hs hA es ps s₁ _ h3 (X.more e₁) fun vs s' e' hvs => hQ (v :: vs) s' (e₁.trans e') ⟨p.mono (e'.view H) hv, hvs⟩
  | [], _ :: _, _, _, h, _, _ => h.elim
  | _ :: _, [], _, _, h, _, _ => h.elim

theorem vw_push {H : Addr → Prop} {h : Heap} {o : Obj} (hH : Live H h) (ho : o.isFreed = false) : vw H (h.push o) h.objs.size o :=
  ⟨fun x => Nat.lt_irrefl _ (hH.lt x), Heap.get?_push_size h ho⟩
theorem ev_list {es : List Expr} {ps : List VP} {pos : Pos} (h : Evs c n sc ρ es ps) (hl : ps.length ≤ 1000 := by decide) : Ev c n sc ρ (.List es pos) (plist ps) := by
  intro A B H env s Q E hs hA X hQ
  refine wpAny_List (ev_items hs hA es ps s _ h X fun vs s₁ e₁ hv => ?_)
  have hlen := hv.length
  have e2 : Ext s₁ { s₁ with heap := s₁.heap.push { cls := .type "list", data := .seq vs.toArray } } := Ext.push _ _
  refine ⟨by rw [sizeLine_eq]; omega, hQ _ _ (e₁.trans e2) ⟨_, vs.toArray, 0, rfl, vw_push (X.more e₁).live rfl, ?_⟩⟩
  exact hv.mono (e2.view H)
theorem ev_tup {es : List Expr} {ps : List VP} {k : Nat} {pos : Pos} (h : Evs c n sc ρ es ps) (hl : ps.length ≤ 1000 := by decide) : Ev c n sc ρ (.Tuple es k pos) (ptup ps) := by
  intro A B H env s Q E hs hA X hQ
  refine wpAny_Tuple (ev_items hs hA es ps s _ h X fun vs s₁ e₁ hv => ?_)
  have hlen := hv.length
  have e2 : Ext s₁ { s₁ with heap := s₁.heap.push { cls := .type "tuple", data := .seq vs.toArray } } := Ext.push _ _
  refine ⟨by rw [sizeLine_eq]; omega, hQ _ _ (e₁.trans e2) ⟨_, _, vs.toArray, 0, rfl, vw_push (X.more e₁).live rfl, rfl, rfl, ?_⟩⟩
  exact hv.mono (e2.view H)
end
end Mine
end
section
open PySem PySem.W
set_option Elab.async false
namespace Mine
section
variable {c : Cfg} {n : Nat} {sc : Scope} {ρ : List (Str × VP)}

theorem b_add {a b : Int} : Bin c n .Add (pint a) (pint b) (pint (a + b)) := by
  intro A H s x y Q E _ _ _ ⟨t, e⟩ ⟨u, e'⟩ hQ; subst e; subst e'
  exact PyProof.Rows.add_int (hQ _ _ (.toks _) ⟨_, rfl⟩)
theorem b_sub {a b : Int} : Bin c n .Sub (pint a) (pint b) (pint (a - b)) := by
  intro A H s x y Q E _ _ _ ⟨t, e⟩ ⟨u, e'⟩ hQ; subst e; subst e'
  exact PyProof.Rows.sub_int (hQ _ _ (.toks _) ⟨_, rfl⟩)
theorem b_mul {a b : Int} (hm : IntMulOk a b) : Bin c n .Mult (pint a) (pint b) (pint (a * b)) := by
  intro A H s x y Q E _ _ _ ⟨t, e⟩ ⟨u, e'⟩ hQ; subst e; subst e'
  exact PyProof.Rows.mul_int (hm := hm) (hQ _ _ (.toks _) ⟨_, rfl⟩)
theorem b_mod {a b : Int} (hb : b ≠ 0) : Bin c n .Mod (pint a) (pint b) (pint (a.fmod b)) := by
  intro A H s x y Q E _ _ _ ⟨t, e⟩ ⟨u, e'⟩ hQ; subst e; subst e'
  exact PyProof.Rows.mod_int hb (hQ _ _ (.toks _) ⟨_, rfl⟩)
theorem b_div {a b : Int} (hb : b ≠ 0) (hs : b.natAbs.log2 < 9000) : Bin c n .FloorDiv (pint a) (pint b) (pint (a.fdiv b)) := by
  intro A H s x y Q E _ _ _ ⟨t, e⟩ ⟨u, e'⟩ hQ; subst e; subst e'
  exact PyProof.Rows.floordiv_int hb (hQ _ _ (.toks _) ⟨_, rfl⟩) (.inl (PyProof.noPylong_of_log2 hs))
theorem b_pow {a : Int} {k : Nat} (hs : (Builtin.Int.intBits a : Int) * k ≤ 2 ^ 27) : Bin c n .Pow (pint a) (pint k) (pint (a ^ k)) := by
  intro A H s x y Q E _ _ _ ⟨t, e⟩ ⟨u, e'⟩ hQ; subst e; subst e'
  exact PyProof.Rows.pow_int (by omega) hs (hQ _ _ (.toks _) ⟨s.toks, by rw [Int.toNat_natCast]⟩)
theorem c_lt {a b : Int} : Cmp c n .Lt (pint a) (pint b) (pbool (decide (a < b))) := by
  intro A H s x y Q E _ _ _ ⟨t, e⟩ ⟨u, e'⟩ hQ; subst e; subst e'
  exact PyProof.Rows.lt_int (hQ _ _ .rfl rfl)
theorem c_gt {a b : Int} : Cmp c n .Gt (pint a) (pint b) (pbool (decide (b < a))) := by
  intro A H s x y Q E _ _ _ ⟨t, e⟩ ⟨u, e'⟩ hQ; subst e; subst e'
  exact PyProof.Rows.gt_int (hQ _ _ .rfl rfl)
theorem c_eq {a b : Int} : Cmp c n .Eq (pint a) (pint b) (pbool (a == b)) := by
  intro A H s x y Q E _ _ _ ⟨t, e⟩ ⟨u, e'⟩ hQ; subst e; subst e'
  exact PyProof.Rows.eq_int (hQ _ _ .rfl rfl)
theorem c_ne {a b : Int} : Cmp c n .NotEq (pint a) (pint b) (pbool (a != b)) := by
  intro A H s x y Q E _ _ _ ⟨t, e⟩ ⟨u, e'⟩ hQ; subst e; subst e'
  exact PyProof.Rows.ne_int (hQ _ _ .rfl rfl)
theorem c_is_none : Cmp c n .Is pnone pnone (pbool true) := by
  intro A H s x y Q E _ _ _ e e' hQ; obtain rfl := e; obtain rfl := e'
  exact is_none (hQ _ _ .rfl rfl)
theorem c_is_list {ps : List VP} : Cmp c n .Is (plist ps) pnone (pbool false) := by
  intro A H s x y Q E _ _ _ ⟨a, _, _, e, _⟩ e' hQ; subst e; obtain rfl := e'
  exact is_none (hQ _ _ .rfl rfl)

def pval (u : Value) : VP := ⟨fun _ v => v = u, fun _ h => h⟩

/-- what a call of f answers -/
def Run (c : Cfg) (n : Nat) (f : Value) (ps : List VP) (r : VP) : Prop :=
  ∀ (A : Around) (H : Addr → Prop) (s : Shared) (vs : List Value) (Q : Value → Shared → Prop) (E : Value → Shared → Prop), AC A n → Gl c s.heap → Live H s.heap →
    All2 (vw H s.heap) ps vs → (∀ v s', Ext s s' → r.is (vw H s'.heap) v → Q v s') → wpAny c.M A (call f vs) Q E s

theorem ev_global {x : Str} {pos : Pos} {v : Value} (hk : sc.kind = .function) (hx : sc.names.lookup x = some .globalImplicit) (hv : c.mg x = some v) (hd : (x == ("__debug__" : Str)) = false := by decide) : Ev c n sc ρ (.Name x pos) (pval v) := by
  intro A B H env s Q E hs _ X hQ
  subst hs
  exact Calls.Name_function_global hk hx (Calls.loadGlobal_global (by rw [X.globals]; exact X.gl.g) hv (hQ _ _ .rfl rfl)) hd
theorem ev_boot {x : Str} {pos : Pos} {v : Value} (hk : sc.kind = .function) (hx : sc.names.lookup x = some .globalImplicit) (hm : c.mg x = none) (hv : bootBuiltins x = some v) (hn : x ≠ "__name__") (hd : (x == ("__debug__" : Str)) = false := by decide) : Ev c n sc ρ (.Name x pos) (pval v) := by
  intro A B H env s Q E hs _ X hQ
  subst hs
  exact Calls.Name_function_global hk hx (Calls.loadGlobal_builtin (by rw [X.globals]; exact X.gl.g) hm (by rw [X.builtins]; exact X.gl.b) ((X.gl.boot x hn).trans hv) (hQ _ _ .rfl rfl)) hd

/-- who keeps the arguments: a builtin, a class, a def of the text -/
def Kept (c : Cfg) (f : Value) : Prop := ∀ h : Heap, c.K.In h → ∃ k, (k = Keeper.frame ∨ k = Keeper.machine ∨ k = Keeper.boundFrame) ∧ Looks c.M h (keeperOf f) k
theorem kept_builtin {id : String} : Kept c (.builtin id) := fun _ _ => ⟨.machine, .inr (.inl rfl), Looks.now⟩
theorem kept_type {id : String} : Kept c (.type id) := fun _ _ => ⟨.machine, .inr (.inl rfl), Looks.now⟩
theorem kept_ref {a : Addr} (h : keepIn c.K (.ref a) = true) : Kept c (.ref a) := keeps_K h

theorem ev_call {x : Str} {np pos : Pos} {f : Value} {e : Expr} {es : List Expr} {ps : List VP} {r : VP} (hf : Ev c n sc ρ (.Name x np) (pval f)) (hk : Kept c f)
    (ha : Evs c n sc ρ (e :: es) ps) (hr : Run c n f ps r)
    (hp : ∀ env, (backTo pos (starEach es env)).any (·.1) = false := by intro _; rfl) : Ev c n sc ρ (.Call (.Name x np) (e :: es) [] pos) r := by
  intro A B H env s Q E hs hA X hQ
  refine wpAny_Call_ofName (hf A B H env s _ E hs hA X fun v s₁ e₁ hv => ?_)
  obtain rfl := hv
  have he : starEach (e :: es) env = (false, eval e env) :: starEach es env := by
    cases ps with
    | nil => exact ha.elim
    | cons p ps => exact ha.1.2 env es
  have hp' := hp env
  show wpAny c.M A (callWith pos v [] (backTo pos (starEach (e :: es) env)) []) Q E s₁
  have items := ev_items (pos := pos) (E := E) hs hA (e :: es) ps s₁ (fun vs s₂ => c.K.In s₂.heap ∧ wpAny c.M A (call v ([] ++ vs)) Q E s₂) ha (X.more e₁) (fun vs s₂ e₂ hvs => by
    have X₂ := (X.more e₁).more e₂
    exact ⟨X₂.gl.k, hr A H s₂ vs Q E hA X₂.gl X₂.live hvs fun w s' e' hw => hQ w s' ((e₁.trans e₂).trans e') hw⟩)
  rw [he] at items ⊢
  exact callWith_of (P := c.K.In) (by show ((false || (backTo pos (starEach es env)).any (·.1)) || false) = false; rw [hp']; rfl) hk (Calls.evalArgs_plain items)
end
end Mine
end
section
open PySem PySem.W
set_option Elab.async false
namespace Mine
theorem vw_isList {H : Addr → Prop} {h : Heap} {a : Addr} {xs : Array Value} {n : Nat} (x : vw H h a { cls := .type "list", data := .seq xs n }) : h.IsList a xs := ⟨_, x.2, rfl, n, rfl⟩
section
variable {c : Cfg} {n : Nat} {sc : Scope} {ρ : List (Str × VP)}

def Gi (c : Cfg) (n : Nat) (p q r : VP) : Prop :=
  ∀ (A : Around) (H : Addr → Prop) (s : Shared) (a b : Value) (Q : Value → Shared → Prop) (E : Value → Shared → Prop), AC A n → Gl c s.heap → Live H s.heap →
    p.is (vw H s.heap) a → q.is (vw H s.heap) b → (∀ v s', Ext s s' → r.is (vw H s'.heap) v → Q v s') →
    ∃ T id, s.TypeIs a T ∧ typeLookup (.type T) "__getitem__" = pure (some (.builtin id)) ∧ wpAny c.M A (getItem a b) Q E s

theorem subTail {A : Around} {E : Value → Shared → Prop} {s : Shared} {value slice : Expr} {o i : Value} {T id : String} {Q : Value → Shared → Prop} (hT : s.TypeIs o T)
    (hl : typeLookup (.type T) "__getitem__" = pure (some (.builtin id))) (h : wpAny c.M A (getItem o i) Q E s)
    (hs : subscripted slice false o i = operate [o, i] (getItem o i)) :
    wpAny c.M A (PyProof.Rows.subscriptTail value slice o i) Q E s := by
  unfold PyProof.Rows.subscriptTail
  refine wpAny_bind ?_
  rw [getitemInPython_of_ne hT.not_modules]
  refine wpAny_bind (wpAny_specialOf hT hl ?_)
  have fin : wpAny c.M A (subscripted slice false o i) (fun r s₃ => wpAny c.M A (letTemporaryGo value o r >>= fun _ => pure r) Q E s₃) E s := by
    rw [hs]
    exact wpAny_operating (wpAny_mono h (fun r s₃ h₃ => wpAny_bind (wpAny_letTemporaryGo (wpAny_pure h₃))) fun _ _ x => x)
  first
    | exact wpAny_pure (wpAny_bind fin)
    | exact wpAny_bind (wpAny_pure (wpAny_bind fin))
    | exact wpAny_bind fin

theorem ev_sub {value slice : Expr} {pos : Pos} {p q r : VP} (hv : Ev c n sc ρ value p) (hi : Ev c n sc ρ slice q) (hg : Gi c n p q r)
    (hs : ∀ o i, subscripted slice false o i = operate [o, i] (getItem o i) := by intro _ _; rfl) : Ev c n sc ρ (.Subscript value slice pos) r := by
  intro A B H env s Q E hsc hA X hQ
  refine PyProof.Rows.Subscript_ (hv A B H env s _ E hsc hA X fun a s₁ e₁ ha => hi A B H env s₁ _ E hsc hA (X.more e₁) fun b s₂ e₂ hb => ?_)
  have X₂ := (X.more e₁).more e₂
  obtain ⟨T, id, hT, hl, h⟩ := hg A H s₂ a b Q E hA X₂.gl X₂.live (p.mono (e₂.view H) ha) hb fun v s' e hv => hQ v s' ((e₁.trans e₂).trans e) hv
  exact subTail hT hl h (hs a b)

theorem gi_list {ps : List VP} {k : Int} {p : VP} (h0 : 0 ≤ k) (hx : ps[k.toNat]? = some p) (hk : k < 2 ^ 63 := by omega) : Gi c n (plist ps) (pint k) p := by
  intro A H s a b Q E hA G hH ⟨l, xs, m, e, hl, hxs⟩ ⟨t, e'⟩ hQ
  subst e; subst e'
  obtain ⟨v, hv, hp⟩ := All2.get hxs hx
  exact ⟨"list", _, (vw_isList hl).typeIs, slot_list_getitem.lookup, wpAny_getItem_list (vw_isList hl) h0 hk (by simpa using hv) (hQ v s .rfl hp)⟩
theorem gi_list_neg {ps : List VP} {k : Int} {p : VP} (h0 : k < 0) (h1 : -(ps.length : Int) ≤ k) (hx : ps[(k + ps.length).toNat]? = some p) (hk : -(2 ^ 63) ≤ k := by omega) : Gi c n (plist ps) (pint k) p := by
  intro A H s a b Q E hA G hH ⟨l, xs, m, e, hl, hxs⟩ ⟨t, e'⟩ hQ
  subst e; subst e'
  obtain ⟨v, hv, hp⟩ := All2.get hxs hx
  have hlen : ps.length = xs.size := by have := hxs.length; simpa using this
  exact ⟨"list", _, (vw_isList hl).typeIs, slot_list_getitem.lookup, wpAny_getItem_list_neg (vw_isList hl) h0 (by rw [← hlen]; exact h1) hk (by rw [← hlen]; simpa using hv) (hQ v s .rfl hp)⟩

theorem run_len {ps : List VP} (h : ps.length ≤ 2 ^ 24) : Run c n (.builtin "len") [plist ps] (pint ps.length) := by
  intro A H s vs Q E hA G hH hv hQ
  obtain ⟨v, rfl⟩ : ∃ v, vs = [v] := by
    cases vs with
    | nil => exact hv.elim
    | cons v r => cases r with | nil => exact ⟨v, rfl⟩ | cons _ _ => exact hv.2.elim
  obtain ⟨l, xs, m, e, hl, hxs⟩ := hv.1
  subst e
  have hlen : ps.length = xs.size := by have := hxs.length; simpa using this
  exact Calls.call_len_list (vw_isList hl) (by rw [← hlen]; omega) (hQ _ _ (.toks _) ⟨_, by rw [hlen]⟩)

theorem b_lcat {ps qs : List VP} (h : ps.length + qs.length ≤ 2 ^ 24) : Bin c n .Add (plist ps) (plist qs) (plist (ps ++ qs)) := by
  intro A H s x y Q E hA G hH ⟨l, xs, m, e, hl, hxs⟩ ⟨l', ys, m', e', hl', hys⟩ hQ
  subst e; subst e'
  have h1 : ps.length = xs.size := by have := hxs.length; simpa using this
  have h2 : qs.length = ys.size := by have := hys.length; simpa using this
  refine PySem.concat_meets ⟨_, hl.2, rfl⟩ ⟨_, hl'.2, rfl⟩ PySem.noFill_list_add PySem.seq_list_add PySem.F.slot_list_add PySem.F.entry_list_add (PySem.F.args_list_add_2 _ _) (PyProof.Rows.list_addW l l' xs ys m m' none none #[] #[] (by rw [sizeLine_eq]; omega)) ⟨hl.2, hl'.2, ?_⟩
  have e2 : Ext s { s with heap := s.heap.push { cls := .type "list", data := .seq (xs ++ ys) } } := Ext.push _ _
  refine hQ _ _ e2 ⟨_, xs ++ ys, 0, rfl, vw_push hH rfl, ?_⟩
  rw [Array.toList_append]
  exact All2.append (hxs.mono (e2.view H)) (hys.mono (e2.view H))

theorem b_tcat {ps qs : List VP} (h : ps.length + qs.length ≤ 2 ^ 24) : Bin c n .Add (ptup ps) (ptup qs) (ptup (ps ++ qs)) := by
  intro A H s x y Q E hA G hH ⟨l, o, xs, m, e, hl, hc, hd, hxs⟩ ⟨l', o', ys, m', e', hl', hc', hd', hys⟩ hQ
  subst e; subst e'
  have h1 : ps.length = xs.size := by have := hxs.length; simpa using this
  have h2 : qs.length = ys.size := by have := hys.length; simpa using this
  obtain ⟨cl, dd, dt, sl⟩ := o
  obtain ⟨cl', dd', dt', sl'⟩ := o'
  simp only at hc hd hc' hd'
  subst hc hd hc' hd'
  by_cases hx : xs.isEmpty = true
  · refine PySem.concat_meets ⟨_, hl.2, rfl⟩ ⟨_, hl'.2, rfl⟩ PySem.noFill_tuple_add PySem.seq_tuple_add PySem.F.slot_tuple_add PySem.F.entry_tuple_add (PySem.F.args_tuple_add_2 _ _) (PyProof.Rows.tuple_addW0 l l' xs ys m m' dd dd' sl sl' hx) ⟨hl.2, hl'.2, ?_⟩
    refine hQ _ _ .rfl ⟨l', _, ys, m', rfl, hl', rfl, rfl, ?_⟩
    have : ps = [] := by
      cases ps with
      | nil => rfl
      | cons _ _ => simp at hx; subst hx; simp at h1
    subst this
    exact hys
  · by_cases hy : ys.isEmpty = true
    · refine PySem.concat_meets ⟨_, hl.2, rfl⟩ ⟨_, hl'.2, rfl⟩ PySem.noFill_tuple_add PySem.seq_tuple_add PySem.F.slot_tuple_add PySem.F.entry_tuple_add (PySem.F.args_tuple_add_2 _ _) (PyProof.Rows.tuple_addW1 l l' xs ys m m' dd dd' sl sl' hx hy) ⟨hl.2, hl'.2, ?_⟩
      refine hQ _ _ .rfl ⟨l, _, xs, m, rfl, hl, rfl, rfl, ?_⟩
      have : qs = [] := by
        cases qs with
        | nil => rfl
        | cons _ _ => simp at hy; subst hy; simp at h2
      subst this
      rw [List.append_nil]; exact hxs
    · refine PySem.concat_meets ⟨_, hl.2, rfl⟩ ⟨_, hl'.2, rfl⟩ PySem.noFill_tuple_add PySem.seq_tuple_add PySem.F.slot_tuple_add PySem.F.entry_tuple_add (PySem.F.args_tuple_add_2 _ _) (PyProof.Rows.tuple_addW2 l l' xs ys m m' dd dd' sl sl' hx hy (by rw [sizeLine_eq]; omega)) ⟨hl.2, hl'.2, ?_⟩
      have e2 : Ext s { s with heap := s.heap.push { cls := .type "tuple", data := .seq (xs ++ ys) } } := Ext.push _ _
      refine hQ _ _ e2 ⟨_, _, xs ++ ys, 0, rfl, vw_push hH rfl, rfl, rfl, ?_⟩
      rw [Array.toList_append]
      exact All2.append (hxs.mono (e2.view H)) (hys.mono (e2.view H))

/-- range(a, b) -/
def prange (a b : Int) : VP :=
  ⟨fun V v => ∃ r t u w, v = .ref r ∧ V r { cls := .type "range", data := .fields #[.int a t, .int b u, .int 1 w] }, fun h ⟨r, t, u, w, e, x⟩ => ⟨r, t, u, w, e, h _ _ x⟩⟩
theorem run_range1 {b : Int} : Run c n (.type "range") [pint b] (prange 0 b) := by
  intro A H s vs Q E hA G hH hv hQ
  obtain ⟨v, rfl⟩ : ∃ v, vs = [v] := by
    cases vs with
    | nil => exact hv.elim
    | cons v r => cases r with | nil => exact ⟨v, rfl⟩ | cons _ _ => exact hv.2.elim
  obtain ⟨t, rfl⟩ := hv.1
  exact call_range_1 (hQ _ _ (Ext.push _ _) ⟨_, _, _, _, rfl, vw_push hH rfl⟩)
theorem run_range2 {a b : Int} : Run c n (.type "range") [pint a, pint b] (prange a b) := by
  intro A H s vs Q E hA G hH hv hQ
  obtain ⟨v, u, rfl⟩ : ∃ v u, vs = [v, u] := by
    cases vs with
    | nil => exact hv.elim
    | cons v r => cases r with
      | nil => exact hv.2.elim
      | cons u r => cases r with | nil => exact ⟨v, u, rfl⟩ | cons _ _ => exact hv.2.2.elim
  obtain ⟨t, rfl⟩ := hv.1
  obtain ⟨t', rfl⟩ := hv.2.1
  exact call_range_2 (hQ _ _ (Ext.push _ _) ⟨_, _, _, _, rfl, vw_push hH rfl⟩)

/-- slices xs[:k], xs[k:] with 0 ≤ k -/
theorem ev_slice {value : Expr} {lo hi : Option Expr} {sp pos : Pos} {ps qs : List VP} {l u : Option Int} (hv : Ev c n sc ρ value (plist ps))
    (hlo : match lo, l with | none, none => True | some e, some i => Ev c n sc ρ e (pint i) | _, _ => False)
    (hhi : match hi, u with | none, none => True | some e, some i => Ev c n sc ρ e (pint i) | _, _ => False)
    (hpick : ∀ xs : Array Value, xs.size = ps.length → ∀ V, All2 V ps xs.toList → All2 V qs (slicePick xs l u none).toList) (hsz : ps.length ≤ 2 ^ 24)
    (ht : ∀ o r, letTemporaryGo value o r = pure () := by intro _ _; rfl) : Ev c n sc ρ (.Subscript value (.Slice lo hi none sp) pos) (plist qs) := by
  intro A B H env s Q E hsc hA X hQ
  have part : ∀ (x : Option Expr) (i : Option Int), (match x, i with | none, none => True | some e, some i => Ev c n sc ρ e (pint i) | _, _ => False) → ∀ s₁ (Q' : Value → Shared → Prop), At c B H env ρ s₁ →
      (∀ v s₂, Ext s₁ s₂ → IsPart v i → Q' v s₂) → wpAny c.M A (evalPart x env) Q' E s₁ := by
    intro x i h s₁ Q' X₁ hq
    cases x with
    | none => cases i with
      | none => exact wpAny_pure (hq _ _ .rfl .none)
      | some _ => exact h.elim
    | some e => cases i with
      | none => exact h.elim
      | some i => exact h A B H env s₁ Q' E hsc hA X₁ fun v s₂ e₂ ⟨t, hv⟩ => hv ▸ hq _ s₂ e₂ (hv ▸ .int i t)
  refine wpAny_Subscript_list_slice (hv A B H env s _ E hsc hA X fun v s₁ e₁ ⟨a, xs, m, e, hl, hxs⟩ => ?_) ht
  subst e
  refine part lo l hlo s₁ _ (X.more e₁) fun vl s₂ e₂ hvl => part hi u hhi s₂ _ ((X.more e₁).more e₂) fun vu s₃ e₃ hvu => ?_
  have X₃ := ((X.more e₁).more e₂).more e₃
  have hlen : ps.length = xs.size := by have := hxs.length; simpa using this
  have e₁₃ := (e₂.trans e₃)
  have f1 : Ext s₃ { s₃ with heap := s₃.heap.push { cls := .type "slice", data := .fields #[vl, vu, .none] } } := Ext.push _ _
  have f2 : Ext { s₃ with heap := s₃.heap.push { cls := .type "slice", data := .fields #[vl, vu, .none] } }
      { s₃ with heap := (s₃.heap.push { cls := .type "slice", data := .fields #[vl, vu, .none] }).push { cls := .type "list", data := .seq (slicePick xs l u none) } } := Ext.push _ _
  have hl3 := (e₁₃.view H) _ _ hl
  refine ⟨a, xs, l, u, rfl, vw_isList hl3, by rw [sizeLine_eq]; omega, hvl, hvu, hQ _ _ (((e₁.trans e₁₃).trans f1).trans f2) ⟨_, slicePick xs l u none, 0, rfl, ⟨fun x => ?_, ?_⟩, ?_⟩⟩
  · exact Nat.lt_irrefl _ (Nat.lt_of_succ_lt (X₃.live.lt x))
  · have := Heap.get?_push_size (s₃.heap.push { cls := .type "slice", data := .fields #[vl, vu, .none] }) (o := { cls := .type "list", data := .seq (slicePick xs l u none) }) rfl
    rwa [Heap.size_push] at this
  · exact hpick xs hlen.symm _ (hxs.mono (((e₁₃.trans f1).trans f2).view H))
end
end Mine
end
section
open PySem PySem.W
set_option Elab.async false
namespace Mine

/-- what a frame may turn: its own names and cells -/
def Own (B : Shared) (env : Env) (b : Addr) : Prop := b = env.locals ∨ ∃ x, env.cells.lookup x = some b ∧ B.heap.get? b = none
/-- all but X stands -/
def Chg (X : Addr → Prop) (s s' : Shared) : Prop := ∀ b o, ¬ X b → s.heap.get? b = some o → s'.heap.get? b = some o
theorem Chg.rfl {X : Addr → Prop} {s : Shared} : Chg X s s := fun _ _ _ e => e
theorem Chg.trans {X : Addr → Prop} {a b c : Shared} (x : Chg X a b) (y : Chg X b c) : Chg X a c := fun i o h e => y i o h (x i o h e)
theorem Chg.of_ext {X : Addr → Prop} {s s' : Shared} (e : Ext s s') : Chg X s s' := fun b o _ h => e.keep b o h
theorem Chg.mono {X Y : Addr → Prop} {s s' : Shared} (x : Chg X s s') (h : ∀ b, X b → Y b) : Chg Y s s' := fun b o hb e => x b o (fun hx => hb (h b hx)) e

def Mine1 (B : Shared) (H : Addr → Prop) (env : Env) (x : Str) : Prop :=
  env.kindOf x = some .local ∨ (env.kindOf x = some .cell ∧ ∃ a, env.cells.lookup x = some a ∧ H a ∧ B.heap.get? a = none)

section
variable {c : Cfg} {n : Nat} {B : Shared} {H : Addr → Prop} {env : Env} {ρ : List (Str × VP)} {s : Shared} {A : Around} {E : Value → Shared → Prop}

theorem At.store {x : Str} {v : Value} {p : VP} {Q : Unit → Shared → Prop} (X : At c B H env ρ s) (hx : Mine1 B H env x) (hp : p.is (vw H s.heap) v)
    (hQ : ∀ s', At c B H env ((x, p) :: ρ) s' → Chg (Own B env) s s' → (vw H s.heap).le (vw H s'.heap) → s'.gens = s.gens → s'.os = s.os → Q () s') : wpAny c.M A (storeName env x v) Q E s := by
  obtain ⟨m, hn⟩ := X.ns
  rcases hx with hk | ⟨hk, a, ha, hHa, hBa⟩
  · refine wpAny_storeName_local hk hn (fun h' hn' hs' => ?_) (by rw [X.kind]; rfl)
    have vle : (vw H s.heap).le (vw H h') := fun b o ⟨hb, e⟩ => ⟨hb, hs'.extBut b o (fun h => hb (h ▸ X.homeH)) e⟩
    refine hQ _ ⟨X.base, ?_, ?_, X.homeH, X.homeB, ⟨_, hn'⟩, X.globals, X.builtins, X.kind, X.one, ?_, X.has, ?_⟩ (fun b o hb e => hs'.extBut b o (fun h => hb (.inl h)) e) vle rfl rfl
    · exact X.ext.trans' (t := s.toks + 1) fun b o hb e => hs'.extBut b o (fun h => by subst h; rw [X.homeB] at hb; cases hb) e
    · intro b hb
      obtain ⟨o, e⟩ := X.live b hb
      by_cases h : b = env.locals
      · obtain ⟨o', _, _, e', _⟩ := hn'; exact ⟨o', h ▸ e'⟩
      · exact ⟨o, hs'.extBut b o h e⟩
    · intro y b hy
      obtain ⟨u, hu⟩ := X.cells y b hy
      exact ⟨u, hu.sameBut hs' fun h => cell_ns (h ▸ hu) hn⟩
    · intro y q hq
      simp only [List.lookup_cons] at hq
      cases hyx : y == x with
      | true =>
        rw [hyx] at hq; cases hq
        obtain rfl := beq_iff_eq.mp hyx
        exact .inl ⟨hk, _, v, hn', by simp, p.mono vle hp⟩
      | false =>
        rw [hyx] at hq
        have hne : y ≠ x := by simpa using hyx
        rcases X.vars y q hq with ⟨k, m', u, hm', hu, hpu⟩ | ⟨k, b, u, hb, hu, hpu⟩
        · obtain rfl := ns_unique hn hm'
          exact .inl ⟨k, _, u, hn', by simp [hne, hu], q.mono vle hpu⟩
        · exact .inr ⟨k, b, u, hb, hu.sameBut hs' (fun h => cell_ns (h ▸ hu) hn), q.mono vle hpu⟩
  · obtain ⟨u₀, hu₀⟩ := X.cells x a ha
    refine wpAny_storeName_cell X.kind hk ha hu₀ fun h' hc' hs' => ?_
    have hLa : env.locals ≠ a := fun h => cell_ns hu₀ (h ▸ hn)
    have vle : (vw H s.heap).le (vw H h') := fun b o ⟨hb, e⟩ => ⟨hb, hs'.extBut b o (fun h => hb (h ▸ hHa)) e⟩
    refine hQ _ ⟨X.base, ?_, ?_, X.homeH, X.homeB, ⟨m, hn.sameBut hs' hLa⟩, X.globals, X.builtins, X.kind, X.one, ?_, X.has, ?_⟩ (fun b o hb e => hs'.extBut b o (fun h => hb (.inr ⟨x, h ▸ ha, h ▸ hBa⟩)) e) vle rfl rfl
    · exact X.ext.trans' (t := s.toks) fun b o hb e => hs'.extBut b o (fun h => by subst h; rw [hBa] at hb; cases hb) e
    · intro b hb
      obtain ⟨o, e⟩ := X.live b hb
      by_cases h : b = a
      · obtain ⟨o', e', _⟩ := hc'; exact ⟨o', h ▸ e'⟩
      · exact ⟨o, hs'.extBut b o h e⟩
    · intro y b hy
      by_cases h : b = a
      · exact ⟨_, h ▸ hc'⟩
      · obtain ⟨u, hu⟩ := X.cells y b hy
        exact ⟨u, hu.sameBut hs' h⟩
    · intro y q hq
      simp only [List.lookup_cons] at hq
      cases hyx : y == x with
      | true =>
        rw [hyx] at hq; cases hq
        obtain rfl := beq_iff_eq.mp hyx
        exact .inr ⟨.inl hk, a, v, ha, hc', p.mono vle hp⟩
      | false =>
        rw [hyx] at hq
        have hne : y ≠ x := by simpa using hyx
        rcases X.vars y q hq with ⟨k, m', u, hm', hu, hpu⟩ | ⟨k, b, u, hb, hu, hpu⟩
        · exact .inl ⟨k, m', u, hm'.sameBut hs' hLa, hu, q.mono vle hpu⟩
        · exact .inr ⟨k, b, u, hb, hu.sameBut hs' (fun h => hne (X.one y x a (h ▸ hb) ha)), q.mono vle hpu⟩
end
end Mine
end
section
open PySem PySem.W
set_option Elab.async false
namespace Mine

theorem bindL_not {kindOf : Str → Option NameKind} {x : Str} : ∀ {binds : List (Str × Value)} {m : Str → Option Value}, x ∉ binds.map (·.1) → bindL kindOf binds m x = m x
  | [], _, _ => rfl
  | (y, v) :: r, m, h => by
    rw [List.map_cons, List.mem_cons, not_or] at h
    rw [bindL, bindL_not h.2]
    split
    · exact if_neg h.1
    · rfl
theorem bindC_not {kindOf : Str → Option NameKind} {x : Str} : ∀ {binds : List (Str × Value)} {m : Str → Option Value}, x ∉ binds.map (·.1) → bindC kindOf binds m x = m x
  | [], _, _ => rfl
  | (y, v) :: r, m, h => by
    rw [List.map_cons, List.mem_cons, not_or] at h
    rw [bindC, bindC_not h.2]
    split
    · rfl
    · exact if_neg h.1
theorem bindL_get {kindOf : Str → Option NameKind} {x : Str} {v : Value} (hk : kindOf x = some .local) : ∀ {binds : List (Str × Value)} {m : Str → Option Value}, (binds.map (·.1)).Nodup → binds.lookup x = some v → bindL kindOf binds m x = some v
  | (y, u) :: r, m, hd, h => by
    rw [List.map_cons, List.nodup_cons] at hd
    rw [List.lookup_cons] at h
    rw [bindL]
    cases hyx : x == y with
    | true =>
      rw [hyx] at h; cases h
      obtain rfl := beq_iff_eq.mp hyx
      rw [bindL_not hd.1, if_pos hk, if_pos rfl]
    | false =>
      rw [hyx] at h
      exact bindL_get hk hd.2 h
theorem bindC_get {kindOf : Str → Option NameKind} {x : Str} {v : Value} (hk : kindOf x ≠ some .local) : ∀ {binds : List (Str × Value)} {m : Str → Option Value}, (binds.map (·.1)).Nodup → binds.lookup x = some v → bindC kindOf binds m x = some v
  | (y, u) :: r, m, hd, h => by
    rw [List.map_cons, List.nodup_cons] at hd
    rw [List.lookup_cons] at h
    rw [bindC]
    cases hyx : x == y with
    | true =>
      rw [hyx] at h; cases h
      obtain rfl := beq_iff_eq.mp hyx
      rw [bindC_not hd.1, if_neg hk, if_pos rfl]
    | false =>
      rw [hyx] at h
      exact bindC_get hk hd.2 h
theorem zip_lookup {V : View} {x : Str} {p : VP} : ∀ {names : List Str} {ps : List VP} {vs : List Value}, All2 V ps vs → (names.zip ps).lookup x = some p → ∃ v, (names.zip vs).lookup x = some v ∧ p.is V v
  | [], ps, vs, _, h => by simp at h
  | _ :: _, [], [], _, h => by simp at h
  | y :: names, q :: ps, v :: vs, hv, h => by
    rw [List.zip_cons_cons, List.lookup_cons] at h
    rw [List.zip_cons_cons, List.lookup_cons]
    cases hyx : x == y with
    | true => rw [hyx] at h; cases h; exact ⟨v, rfl, hv.1⟩
    | false => rw [hyx] at h; exact zip_lookup hv.2 h
  | _ :: _, [], _ :: _, hv, _ => hv.elim
  | _ :: _, _ :: _, [], hv, _ => hv.elim
theorem zip_fst {α : Type} : ∀ {names : List Str} {vs : List α}, names.length = vs.length → (names.zip vs).map (·.1) = names
  | [], [], _ => rfl
  | n :: ns, v :: vs, h => by rw [List.zip_cons_cons, List.map_cons, zip_fst (by simpa using h)]
  | [], _ :: _, h => by simp at h
  | _ :: _, [], h => by simp at h

/-- the names that a frame of its own may turn -/
def Owns (B : Shared) (H : Addr → Prop) (env : Env) : Prop := ∀ x, env.kindOf x = some .cell → ∃ a, env.cells.lookup x = some a ∧ H a ∧ B.heap.get? a = none
theorem Owns.one {B : Shared} {H : Addr → Prop} {env : Env} (O : Owns B H env) {x : Str} (h : env.kindOf x = some .local ∨ env.kindOf x = some .cell) : Mine1 B H env x :=
  h.imp id fun k => ⟨k, O x k⟩

theorem cellsFrom_mem {x : Str} : ∀ (names : List (Str × NameKind)) (n : Nat) (acc : List (Str × Addr)), (x, NameKind.cell) ∈ names ∨ (acc.lookup x).isSome = true → ((cellsFrom n names acc).lookup x).isSome = true
  | [], _, _, h => h.elim (fun e => by cases e) id
  | (y, k) :: r, n, acc, h => by
    unfold cellsFrom
    by_cases hk : (k == .cell) = true
    · rw [if_pos hk]
      refine cellsFrom_mem r (n + 1) ((y, n) :: acc) ?_
      by_cases hy : (x == y) = true
      · exact .inr (by rw [List.lookup_cons, hy]; rfl)
      · refine h.imp (fun e => ?_) fun e => ?_
        · rcases List.mem_cons.mp e with e | e
          · cases e; simp at hy
          · exact e
        · rw [List.lookup_cons]; simpa only [hy] using e
    · rw [if_neg hk]
      refine cellsFrom_mem r n acc (h.imp (fun e => ?_) id)
      rcases List.mem_cons.mp e with e | e
      · cases e; simp at hk
      · exact e

section
variable {c : Cfg} {n : Nat}

/-- the frame of a call of a def of the text -/
theorem run_fn {a : Addr} {o : Obj} {fd : FuncData} {body : List Stmt} {names : List Str} {ps : List VP} {r : VP}
    (ho : c.K.lookup a = some o) (hd : o.data = .func fd) (hcd : codeIn c.K fd.code fd.qualname = true) (hbody : fd.body = .stmts body) (hclo : fd.closure = [])
    (hgl : fd.globals = mainGlobals) (hbi : fd.builtins = builtinsNs) (hnd : names.Nodup) (hlen : names.length = ps.length)
    (hbind : ∀ vs : List Value, vs.length = ps.length → bindArgs fd ⟨vs, []⟩ = pure (names.zip vs))
    (hkind : ∀ x ∈ names, fd.scope.names.lookup x = some .local ∨ fd.scope.names.lookup x = some .cell) (hfree : ∀ y ∈ fd.scope.names, y.2 ≠ .free)
    (h : ∀ (A : Around) (B : Shared) (H : Addr → Prop) (env : Env) (s : Shared) (Q : Value → Shared → Prop) (E : Value → Shared → Prop), AC A n → env.scope = fd.scope → Owns B H env → At c B H env (names.zip ps) s →
      (∀ v s', Ext B s' → r.is (vw H s'.heap) v → Q v s') →
      wpAny c.M A (execs body env) (fun fl s' => Q (match fl with | .ret v => v | _ => .none) s') E s)
    (hco : fd.scope.isCoroutine = false := by rfl) (hgen : fd.scope.isGenerator = false := by rfl) (hk : fd.scope.kind = .function := by rfl) : Run c (n + 1) (.ref a) ps r := by
  intro A H s vs Q E hA G hH hv hQ
  have hvl : vs.length = ps.length := hv.length.symm
  have hzip : (names.zip vs).map (·.1) = names := zip_fst (hlen.trans hvl.symm)
  refine wpAny_call (codeAny_call_cells hA.room (G.k _ _ ho) hd G.nolimit (codeRec_of G.k hcd) hbody (hbind vs hvl) hclo (fun x hx => ?_) (fun s₁ X => ?_) hco hgen hk)
  · have hx' : x.1 ∈ names := by rw [← hzip]; exact List.mem_map_of_mem hx
    rcases hkind _ hx' with e | e
    · exact .inl e
    · exact .inr ⟨e, cellsFrom_mem _ _ _ (.inl (mem_of_lookup e))⟩
  · generalize henv : callEnvC fd s.heap.objs.size a = env at X ⊢
    have esc : env.scope = fd.scope := by rw [← henv]; rfl
    have eL : env.locals = s.heap.objs.size := by rw [← henv]; rfl
    have ecells : env.cells = cellsFrom (s.heap.objs.size + 1) fd.scope.names [] := by rw [← henv]; rfl
    have hnone : ∀ b, s.heap.objs.size ≤ b → s.heap.get? b = none := fun b hb => by
      cases e : s.heap.get? b with
      | none => rfl
      | some o => exact absurd (Heap.lt_size e) (Nat.not_lt.mpr hb)
    have habove : ∀ x b, env.cells.lookup x = some b → s.heap.objs.size ≤ b := fun x b hb => Nat.le_of_lt (by rw [← eL]; exact X.above x b (mem_of_lookup hb))
    let H' : Addr → Prop := fun b => H b ∨ b = env.locals ∨ ∃ x, env.cells.lookup x = some b
    have e1 : Ext s s₁ := by
      obtain ⟨h', tk, rfl⟩ := X.toInCall.same
      exact Ext.heap X.toInCall.keep
    have vle : (vw H s.heap).le (vw H' s₁.heap) := fun b o ⟨hb, e⟩ => by
      refine ⟨fun hx => ?_, e1.keep b o e⟩
      rcases hx with hx | hx | ⟨x, hx⟩
      · exact hb hx
      · rw [hx, eL, hnone _ (Nat.le_refl _)] at e; cases e
      · rw [hnone _ (habove x b hx)] at e; cases e
    have hAt : At c s H' env (names.zip ps) s₁ := by
      refine ⟨G, e1, ?_, .inr (.inl rfl), by rw [eL]; exact hnone _ (Nat.le_refl _), ⟨_, X.toInCall.ns⟩, by rw [← henv]; exact hgl, by rw [← henv]; exact hbi, by rw [esc]; exact hk, ?_, fun x b hb => ⟨_, X.cell x b hb⟩, ?_, ?_⟩
      · intro b hb
        rcases hb with hb | hb | ⟨x, hb⟩
        · exact (hH.keeps e1.keep) b hb
        · subst hb; obtain ⟨o', _, _, e, _⟩ := X.toInCall.ns; exact ⟨o', e⟩
        · obtain ⟨o', e, _⟩ := X.cell x b hb; exact ⟨o', e⟩
      · intro x y b hx hy
        exact name_of_addr X.apart (mem_of_lookup hx) (mem_of_lookup hy)
      · intro x hx
        have hk' : env.kindOf x = fd.scope.names.lookup x := by rw [← esc]; rfl
        rw [hk'] at hx
        rcases hx with hx | hx
        · rw [ecells]; exact Option.isSome_iff_exists.mp (cellsFrom_mem fd.scope.names (s.heap.objs.size + 1) [] (.inl (mem_of_lookup hx)))
        · exact absurd rfl (hfree _ (mem_of_lookup hx))
      · intro x p hx
        obtain ⟨v, hxv, hp⟩ := zip_lookup hv hx
        have hx' : x ∈ names := by
          have := mem_of_lookup hxv
          rw [← hzip]; exact List.mem_map_of_mem (f := (·.1)) this
        have hk' : env.kindOf x = fd.scope.names.lookup x := by rw [← esc]; rfl
        rcases hkind _ hx' with e | e
        · exact .inl ⟨hk'.trans e, _, v, X.toInCall.ns, bindL_get (hk'.trans e) (by rw [hzip]; exact hnd) hxv, p.mono vle hp⟩
        · obtain ⟨b, hb⟩ := Option.isSome_iff_exists.mp (cellsFrom_mem fd.scope.names (s.heap.objs.size + 1) [] (.inl (mem_of_lookup e)))
          rw [← ecells] at hb
          have hbc := X.cell x b hb
          rw [bindC_get (by rw [hk', e]; simp) (by rw [hzip]; exact hnd) hxv] at hbc
          exact .inr ⟨.inl (hk'.trans e), b, v, hb, hbc, p.mono vle hp⟩
    have hO : Owns s H' env := fun x hx => by
      have hx2 : fd.scope.names.lookup x = some .cell := by rw [← esc]; exact hx
      obtain ⟨b, hb⟩ := Option.isSome_iff_exists.mp (cellsFrom_mem fd.scope.names (s.heap.objs.size + 1) [] (.inl (mem_of_lookup hx2)))
      rw [← ecells] at hb
      exact ⟨b, hb, .inr (.inr ⟨x, hb⟩), hnone _ (habove x b hb)⟩
    exact h _ s H' env s₁ Q _ hA.deeper esc hO hAt fun v s' es' hr => hQ v s' es' (r.mono (fun b o ⟨hb, e⟩ => ⟨fun hx => hb (.inl hx), e⟩) hr)
end

section
variable {c : Cfg} {n : Nat} {sc : Scope} {B : Shared} {H : Addr → Prop} {env : Env} {ρ : List (Str × VP)} {s : Shared} {A : Around} {E : Value → Shared → Prop}

/-- what is known, all found in ρ -/
def Sub (ρ : List (Str × VP)) : List (Str × VP) → Prop
  | [] => True
  | (x, p) :: r => ρ.lookup x = some p ∧ Sub ρ r
theorem Sub.le {ρ : List (Str × VP)} : ∀ {ρ' : List (Str × VP)}, Sub ρ ρ' → ∀ x p, ρ'.lookup x = some p → ρ.lookup x = some p
  | (y, q) :: r, h, x, p, e => by
    rw [List.lookup_cons] at e
    cases hxy : x == y with
    | true => rw [hxy] at e; cases e; rw [beq_iff_eq.mp hxy]; exact h.1
    | false => rw [hxy] at e; exact Sub.le h.2 x p e

/-- x = e -/
theorem ex_assign {x : Str} {px pos : Pos} {e : Expr} {p : VP} {Q : Flow → Shared → Prop} (X : At c B H env ρ s) (hA : AC A n) (hs : env.scope = sc) (he : Ev c n sc ρ e p) (hx : Mine1 B H env x)
    (hQ : ∀ s', At c B H env ((x, p) :: ρ) s' → Chg (Own B env) s s' → (vw H s.heap).le (vw H s'.heap) → Q .next s') (hsw : swapsWith e (some (.Name x px)) pos.line env = pure false := by rfl) :
    wpAny c.M A (exec (.Assign [.Name x px] e pos) env) Q E s :=
  wpAny_Assign_Name (he A B H env s _ E hs hA X fun v s₁ e₁ hv => (X.more e₁).store hx hv fun s' X' hc vle _ _ => hQ s' X' ((Chg.of_ext e₁).trans hc) ((e₁.view H).trans vle)) hsw
theorem ex_return {e : Expr} {pos : Pos} {p : VP} {Q : Flow → Shared → Prop} (X : At c B H env ρ s) (hA : AC A n) (hs : env.scope = sc) (he : Ev c n sc ρ e p)
    (hQ : ∀ v s', Ext s s' → p.is (vw H s'.heap) v → Q (.ret v) s') : wpAny c.M A (exec (.Return (some e) pos) env) Q E s :=
  wpAny_Return_some (he A B H env s _ E hs hA X hQ)
theorem ex_if {t : Expr} {b : Bool} {body orelse : List Stmt} {pos : Pos} {Q : Flow → Shared → Prop} (X : At c B H env ρ s) (hA : AC A n) (hs : env.scope = sc) (ht : Ts c n sc ρ t b)
    (h1 : b = true → ∀ s', Ext s s' → At c B H env ρ s' → wpAny c.M A (execs body env) Q E s') (h2 : b = false → ∀ s', Ext s s' → At c B H env ρ s' → wpAny c.M A (execs orelse env) Q E s') :
    wpAny c.M A (exec (.If t body orelse pos) env) Q E s := by
  refine wpAny_If (ht A B H env s _ E hs hA X fun s₁ e₁ => ?_)
  cases b with
  | true => exact h1 rfl s₁ e₁ (X.more e₁)
  | false => exact h2 rfl s₁ e₁ (X.more e₁)
end
end Mine
end
section
open PySem PySem.W
set_option Elab.async false
namespace Mine

/-- an iterator over ps -/
def IterOk (H : Addr → Prop) (h : Heap) (I : Addr) (ps : List VP) : Prop :=
  (∃ l i xs, h.IsListIter I l i ∧ ¬ H l ∧ l ≠ I ∧ h.IsList l xs ∧ All2 (vw H h) ps (xs.toList.drop i)) ∨
  (∃ l i xs, h.IsTupleIter I l i ∧ ¬ H l ∧ l ≠ I ∧ h.IsTuple l xs ∧ All2 (vw H h) ps (xs.toList.drop i)) ∨
  (∃ (a : Int) (m : Nat), IsRangeIter h I a m 1 ∧ ps = (List.range m).map fun (k : Nat) => pint (a + k))

theorem IterOk.keep {H : Addr → Prop} {h h' : Heap} {I : Addr} {ps : List VP} (x : IterOk H h I ps) (hk : ∀ b o, (b = I ∨ ¬ H b) → h.get? b = some o → h'.get? b = some o) : IterOk H h' I ps := by
  have vle : (vw H h).le (vw H h') := fun b o ⟨hb, e⟩ => ⟨hb, hk b o (.inr hb) e⟩
  rcases x with ⟨l, i, xs, ⟨o, a1, a2⟩, b, d, ⟨o', c1, c2⟩, e⟩ | ⟨l, i, xs, ⟨o, a1, a2⟩, b, d, ⟨o', c1, c2⟩, e⟩ | ⟨a, m, r, e⟩
  · exact .inl ⟨l, i, xs, ⟨o, hk _ _ (.inl rfl) a1, a2⟩, b, d, ⟨o', hk _ _ (.inr b) c1, c2⟩, e.mono vle⟩
  · exact .inr (.inl ⟨l, i, xs, ⟨o, hk _ _ (.inl rfl) a1, a2⟩, b, d, ⟨o', hk _ _ (.inr b) c1, c2⟩, e.mono vle⟩)
  · exact .inr (.inr ⟨a, m, hk _ _ (.inl rfl) r, e⟩)
theorem IterOk.get {H : Addr → Prop} {h : Heap} {I : Addr} {ps : List VP} (x : IterOk H h I ps) : ∃ o vs, h.get? I = some o ∧ o.data = .fields vs ∧ (o.cls = .type "list_iterator" ∨ o.cls = .type "tuple_iterator" ∨ o.cls = .type "range_iterator") := by
  rcases x with ⟨l, i, xs, ⟨o, a1, a2, a3⟩, _⟩ | ⟨l, i, xs, ⟨o, a1, a2, a3⟩, _⟩ | ⟨a, m, r, e⟩
  · exact ⟨o, _, a1, a3, .inl a2⟩
  · exact ⟨o, _, a1, a3, .inr (.inl a2)⟩
  · exact ⟨_, _, r, rfl, .inr (.inr rfl)⟩

theorem drop_next {α : Type} {xs : List α} {i : Nat} {x : α} {r : List α} (h : xs.drop i = x :: r) : xs[i]? = some x ∧ xs.drop (i + 1) = r := by
  have h1 : i < xs.length := by
    rcases Nat.lt_or_ge i xs.length with h1 | h1
    · exact h1
    · rw [List.drop_of_length_le h1] at h; cases h
  rw [List.drop_eq_getElem_cons h1] at h
  injection h with ha hb
  exact ⟨by rw [List.getElem?_eq_getElem h1, ha], hb⟩

theorem letOwned {M : Model} {A : Around} {E : Value → Shared → Prop} {s : Shared} {target : Expr} {I : Addr} {v : Value} {o : Obj} {vs : Array Value} {Q : Unit → Shared → Prop}
    (ho : s.heap.get? I = some o) (hd : o.data = .fields vs) (hc : o.cls = .type "list_iterator" ∨ o.cls = .type "tuple_iterator" ∨ o.cls = .type "range_iterator") (hQ : Q () s) :
    wpAny M A (letOwnedTupleGo target (.ref I) v) Q E s := by
  have key : ∀ T : String, (["enumerate", "zip", "dict_itemiterator", "dict_reverseitemiterator", "odict_iterator", "itertools.zip_longest", "itertools.pairwise"].contains T) = false → o.cls = .type T →
      wpAny M A (do
        let (.ref r, .ref a) := ((Value.ref I), v) | return
        let o ← load r
        match o.cls, o.data with
        | .type n, .fields vs =>
          if ["enumerate", "zip", "dict_itemiterator", "dict_reverseitemiterator", "odict_iterator", "itertools.zip_longest", "itertools.pairwise"].contains n && vs[0]? == some (rawInt a) then
            rule "for.unpacks-the-owned-tuple"
            updateField r 0 .none
        | _, _ => pure ()) Q E s := by
    intro T hT hcT
    cases v with
    | ref a =>
      refine wpAny_bind (wpAny_load ho ?_)
      rw [hcT, hd]
      dsimp only
      rw [hT, Bool.false_and]
      exact wpAny_pure hQ
    | _ => exact wpAny_pure hQ
  unfold letOwnedTupleGo
  split
  · rcases hc with h | h | h
    · exact key _ (by decide) h
    · exact key _ (by decide) h
    · exact key _ (by decide) h
  · rcases hc with h | h | h
    · exact key _ (by decide) h
    · exact key _ (by decide) h
    · exact key _ (by decide) h
  · exact wpAny_pure hQ

section
variable {c : Cfg} {n : Nat} {A : Around} {E : Value → Shared → Prop} {s : Shared} {H : Addr → Prop}

theorem iter_next {I : Addr} {p : VP} {ps : List VP} {Q : Option Value → Shared → Prop} (hI : H I) (x : IterOk H s.heap I (p :: ps))
    (hQ : ∀ v h' tk, Heap.SameBut I s.heap h' → p.is (vw H h') v → IterOk H h' I ps → Q (some v) { s with heap := h', toks := tk }) : wpAny c.M A (pyNext (.ref I)) Q E s := by
  have vle : ∀ {h' : Heap}, Heap.SameBut I s.heap h' → (vw H s.heap).le (vw H h') := fun hs b o ⟨hb, e⟩ => ⟨hb, hs.extBut b o (fun h => hb (h ▸ hI)) e⟩
  rcases x with ⟨l, i, xs, hit, hb, hd, hl, hx⟩ | ⟨l, i, xs, hit, hb, hd, hl, hx⟩ | ⟨a, m, r, e⟩
  · cases hdr : xs.toList.drop i with
    | nil => rw [hdr] at hx; exact hx.elim
    | cons v rest =>
      rw [hdr] at hx
      obtain ⟨h1, h2⟩ := drop_next hdr
      refine wpAny_pyNext_list_item hit hl (x := v) (by simpa using h1) fun h' hit' hs' => ?_
      exact hQ v h' s.toks hs' (p.mono (vle hs') hx.1) (.inl ⟨l, i + 1, xs, hit', hb, hd, hl.extBut hs'.extBut hd, by rw [h2]; exact hx.2.mono (vle hs')⟩)
  · cases hdr : xs.toList.drop i with
    | nil => rw [hdr] at hx; exact hx.elim
    | cons v rest =>
      rw [hdr] at hx
      obtain ⟨h1, h2⟩ := drop_next hdr
      refine wpAny_pyNext_tuple_item hit hl (x := v) (by simpa using h1) fun h' hit' hs' => ?_
      exact hQ v h' s.toks hs' (p.mono (vle hs') hx.1) (.inr (.inl ⟨l, i + 1, xs, hit', hb, hd, hl.extBut hs'.extBut hd, by rw [h2]; exact hx.2.mono (vle hs')⟩))
  · cases m with
    | zero => cases e
    | succ m =>
      rw [List.range_succ_eq_map, List.map_cons, List.map_map] at e
      injection e with e1 e2
      subst e1
      refine wpAny_pyNext_range_item r (by omega) fun h' hit' hs' => ?_
      refine hQ _ h' _ hs' ⟨s.toks, by simp⟩ (.inr (.inr ⟨a + 1, m, by rw [show ((m + 1 : Nat) : Int) - 1 = m by omega] at hit'; exact hit', ?_⟩))
      rw [e2]
      refine List.map_congr_left fun k _ => ?_
      show pint (a + ((k + 1 : Nat) : Int)) = pint (a + 1 + k)
      congr 1
      omega

theorem iter_done {I : Addr} {Q : Option Value → Shared → Prop} (hA : A.handled = none) (x : IterOk H s.heap I []) (hQ : ∀ h', Heap.ExtBut I s.heap h' → Q none { s with heap := h' }) :
    wpAny c.M A (pyNext (.ref I)) Q E s := by
  have len0 : ∀ {V : View} {xs : Array Value} {i : Nat}, All2 V [] (xs.toList.drop i) → xs[i]? = none := by
    intro V xs i h
    have := h.length
    simp at this
    simp; omega
  rcases x with ⟨l, i, xs, hit, hb, hd, hl, hx⟩ | ⟨l, i, xs, hit, hb, hd, hl, hx⟩ | ⟨a, m, r, e⟩
  · exact wpAny_pyNext_list_end hA hit hl (len0 hx) hQ
  · exact wpAny_pyNext_tuple_end hA hit hl (len0 hx) hQ
  · cases m with
    | zero => exact wpAny_pyNext_range_end hA r (by omega) hQ
    | succ m => rw [List.range_succ_eq_map, List.map_cons] at e; cases e
theorem iter_self {I : Addr} {ps : List VP} {Q : Value → Shared → Prop} (x : IterOk H s.heap I ps) (hQ : Q (.ref I) s) : wpAny c.M A (pyIter (.ref I)) Q E s := by
  rcases x with ⟨l, i, xs, hit, _⟩ | ⟨l, i, xs, hit, _⟩ | ⟨a, m, r, e⟩
  · exact wpAny_pyIter_listiter hit hQ
  · exact wpAny_pyIter_tupleiter hit hQ
  · exact wpAny_pyIter_rangeiter r hQ

/-- values of p are walked as ps -/
def Itb (c : Cfg) (p : VP) (ps : List VP) : Prop :=
  ∀ (A : Around) (H : Addr → Prop) (s : Shared) (v : Value) (Q : Value → Shared → Prop) (E : Value → Shared → Prop), Live H s.heap → p.is (vw H s.heap) v →
    (∀ I s', Ext s s' → s.heap.get? I = none → (∀ H' : Addr → Prop, (∀ a, H' a → H a ∨ s.heap.get? a = none) → IterOk H' s'.heap I ps) → Q (.ref I) s') → wpAny c.M A (pyIter v) Q E s

theorem get_size (h : Heap) : h.get? h.objs.size = none := by
  cases e : h.get? h.objs.size with
  | none => rfl
  | some o => exact absurd (Heap.lt_size e) (Nat.lt_irrefl _)

theorem vw_more {H H' : Addr → Prop} {h h' : Heap} (hk : ∀ b o, h.get? b = some o → h'.get? b = some o) (hH : ∀ a, H' a → H a ∨ h.get? a = none) : (vw H h).le (vw H' h') := fun b o ⟨hb, e⟩ =>
  ⟨fun h => (hH b h).elim hb (fun h => by rw [h] at e; cases e), hk b o e⟩

theorem itb_list {ps : List VP} : Itb c (plist ps) ps := by
  intro A H s v Q E hH ⟨a, xs, m, e, hl, hxs⟩ hQ
  subst e
  have hk := (Ext.push (s := s) { cls := .type "list_iterator", data := .fields #[.ref a, .int 0 0] } s.toks)
  refine wpAny_pyIter_list (vw_isList hl) (hQ _ _ hk (get_size _) fun H' hH' => .inl ⟨a, 0, xs, ⟨_, Heap.get?_push_size _ rfl, rfl, rfl⟩, fun h => ?_, fun h => ?_, (vw_isList hl).push _, ?_⟩)
  · exact (hH' a h).elim hl.1 (fun h => by have e := hl.2; rw [h] at e; cases e)
  · have := Heap.lt_size hl.2; rw [h] at this; exact Nat.lt_irrefl _ this
  · rw [List.drop_zero]; exact hxs.mono (vw_more hk.keep hH')
theorem itb_tup {ps : List VP} : Itb c (ptup ps) ps := by
  intro A H s v Q E hH ⟨a, o, xs, m, e, hl, hc, hd, hxs⟩ hQ
  subst e
  have hT : s.heap.IsTuple a xs := ⟨o, hl.2, hc, m, hd⟩
  have hk := (Ext.push (s := s) { cls := .type "tuple_iterator", data := .fields #[.ref a, .int 0 0] } s.toks)
  refine wpAny_pyIter_tuple hT (hQ _ _ hk (get_size _) fun H' hH' => .inr (.inl ⟨a, 0, xs, ⟨_, Heap.get?_push_size _ rfl, rfl, rfl⟩, fun h => ?_, fun h => ?_, hT.push _, ?_⟩))
  · exact (hH' a h).elim hl.1 (fun h => by have e := hl.2; rw [h] at e; cases e)
  · have := Heap.lt_size hl.2; rw [h] at this; exact Nat.lt_irrefl _ this
  · rw [List.drop_zero]; exact hxs.mono (vw_more hk.keep hH')
theorem itb_range {a b : Int} (ha : 0 ≤ a) (ha' : a < 2 ^ 40) (hb : b < 2 ^ 40) (hb' : -(2 ^ 40) < b) : Itb c (prange a b) ((List.range (b - a).toNat).map fun (k : Nat) => pint (a + k)) := by
  intro A H s v Q E hH ⟨r, t, u, w, e, hr⟩ hQ
  subst e
  have hsz : Builtin.Range.rangeSize a b 1 = ((b - a).toNat : Int) := by
    rw [rangeSize_one]; split <;> omega
  refine wpAny_pyIter_range hr.2 (small_one (by omega) (by omega) (by omega) (by omega)) (hQ _ _ (Ext.push _ _) (get_size _) fun H' hH' => .inr (.inr ⟨a, (b - a).toNat, ?_, rfl⟩))
  rw [hsz]
  exact Heap.get?_push_size _ rfl
end
end Mine
end
section
open PySem PySem.W
set_option Elab.async false
namespace Mine
def compInner (elt : Expr) (gens : List Comprehension) (scope : Scope) (pos : Pos) (depth : Nat) (acc : Value) (env : Env) (k : Sem Fin) : Sem Fin :=
  match gens[depth + 1]? with
  | some g' => do
    let x ← eval g'.iter env
    standAt g'.iter.pos
    let x ← foldedSetIterable g'.iter env x
    let _ ← runOwn (.compStart (.ListComp elt gens scope pos) (depth + 1) (← holding [x] (pyIter x)) acc env) env
    k
  | none => ((do let _ ← call (.builtin "list.append") [acc, ← eval elt env]) : Sem Unit) >>= fun _ => k

theorem compTurn_eq {elt : Expr} {gens : List Comprehension} {scope : Scope} {pos : Pos} {depth : Nat} {it acc : Value} {env : Env} {target iter : Expr} {ifs : List Expr} (hg : gens[depth]? = some ⟨target, iter, ifs, 0⟩) (h0 : ∀ g', gens[depth + 1]? = some g' → g'.is_async = 0) :
    compTurn (.ListComp elt gens scope pos) depth it acc env = (standAt iter.pos >>= fun _ => pyNext it >>= fun r => match r with
      | none => pure (.done .next)
      | some v => letOwnedTupleGo target it v >>= fun _ => assign target env v >>= fun _ =>
        (forIn ifs true fun c r => if r = true then do let ok ← isTrue c env (eval c env); pure (ForInStep.yield ok) else pure (ForInStep.yield r)) >>= fun ok =>
        (if ok = true then compInner elt gens scope pos depth acc env (again (.compLoop (.ListComp elt gens scope pos) depth it acc env))
         else again (.compLoop (.ListComp elt gens scope pos) depth it acc env))) := by
  unfold compTurn compInner
  dsimp only
  rw [hg]
  dsimp only
  cases h : gens[depth + 1]? with
  | none => rfl
  | some g' =>
    have e := h0 g' h
    obtain ⟨t', i', f', a'⟩ := g'
    simp only at e
    subst e
    rfl

theorem compStart_any {c : Cfg} {A : Around} {R : Result → Shared → Prop} {s : Shared} {elt : Expr} {gens : List Comprehension} {scope : Scope} {pos : Pos} {d : Nat} {it acc : Value} {env : Env}
    (hs : ((gens[d]?).elim false (·.is_async != 0)) = false)
    (h0 : codeAny c.M A (.compLoop (.ListComp elt gens scope pos) d it acc env) R s)
    (h : ∀ E, wpAny c.M A (pyIter it) (fun it' s' => codeAny c.M A (.compLoop (.ListComp elt gens scope pos) d it' acc env) R s') E s) :
    codeAny c.M A (.compStart (.ListComp elt gens scope pos) d it acc env) R s := by
  refine codeAny_of_tree ?_
  show wpAny _ _ ((compStart (.ListComp elt gens scope pos) d it acc env).onRaise (fun x => do noteFrame x env; standAt theWindowsPlace)) _ _ s
  refine wpAny_notedAt ?_
  unfold compStart
  have hc : clausesOf (.ListComp elt gens scope pos) = gens := rfl
  rw [hc, hs]
  simp only [Bool.false_eq_true, if_false]
  refine wpAny_bind (wpAny_askSetting (wpAny_ite ?_))
  split
  · first
      | exact wpAny_bind (wpAny_pure (wpAny_pure (And.intro rfl h0)))
      | exact wpAny_pure (And.intro rfl h0)
  · refine wpAny_bind (wpAny_rule ?_)
    split
    · refine wpAny_bind (wpAny_standAt ?_)
      exact wpAny_bind (wpAny_mono (h _) (fun it' s' h' => wpAny_pure (And.intro rfl h')) fun _ _ x => x)
    · exact wpAny_bind (wpAny_mono (h _) (fun it' s' h' => wpAny_pure (And.intro rfl h')) fun _ _ x => x)

section
variable {c : Cfg} {n : Nat} {B : Shared} {H : Addr → Prop} {env : Env} {ρ : List (Str × VP)} {s : Shared} {A : Around} {E : Value → Shared → Prop}

theorem At.to {H' : Addr → Prop} {s' : Shared} (X : At c B H env ρ s) (hv : (vw H s.heap).le (vw H' s'.heap)) (hL : ∀ o, s.heap.get? env.locals = some o → s'.heap.get? env.locals = some o)
    (hC : ∀ x a o, env.cells.lookup x = some a → s.heap.get? a = some o → s'.heap.get? a = some o) (hB : ∀ b o, B.heap.get? b = some o → s.heap.get? b = some o → s'.heap.get? b = some o)
    (hl : Live H' s'.heap) (hH : H' env.locals) (hg : GE s.gens s'.gens) (ho : s'.os = s.os) : At c B H' env ρ s' where
  base := X.base
  ext := ⟨fun b o e => hB b o e (X.ext.keep b o e), X.ext.gens.trans hg, ho.trans X.ext.os⟩
  live := hl
  homeH := hH
  homeB := X.homeB
  ns := let ⟨m, o, es, ep, e, r⟩ := X.ns; ⟨m, o, es, ep, hL o e, r⟩
  globals := X.globals
  builtins := X.builtins
  kind := X.kind
  one := X.one
  cells := fun x a h => let ⟨v, o, e, d⟩ := X.cells x a h; ⟨v, o, hC x a o h e, d⟩
  has := X.has
  vars := fun x p h => by
    rcases X.vars x p h with ⟨k, m, v, ⟨o, es, ep, e, r⟩, hu, hp⟩ | ⟨k, a, v, ha, ⟨o, e, d⟩, hp⟩
    · exact .inl ⟨k, m, v, ⟨o, es, ep, hL o e, r⟩, hu, p.mono hv hp⟩
    · exact .inr ⟨k, a, v, ha, ⟨o, hC x a o ha e, d⟩, p.mono hv hp⟩
theorem At.weak {ρ' : List (Str × VP)} (X : At c B H env ρ s) (h : ∀ x p, ρ'.lookup x = some p → ρ.lookup x = some p) : At c B H env ρ' s :=
  ⟨X.base, X.ext, X.live, X.homeH, X.homeB, X.ns, X.globals, X.builtins, X.kind, X.one, X.cells, X.has, fun x p hp => X.vars x p (h x p hp)⟩

/-- a comprehension's frame, and the list that it fills -/
structure CSt (c : Cfg) (B : Shared) (H : Addr → Prop) (env : Env) (ρ : List (Str × VP)) (D : Addr) (done : List VP) (s : Shared) : Prop where
  at' : At c B H env ρ s
  hD : H D
  bD : B.heap.get? D = none
  acc : ∃ ys, s.heap.PlainList D ys ∧ All2 (vw H s.heap) done ys.toList

theorem CSt.notOwn {D : Addr} {done : List VP} (C : CSt c B H env ρ D done s) : ¬ Own B env D := by
  obtain ⟨ys, ⟨n, e⟩, _⟩ := C.acc
  rintro (h | ⟨x, h, _⟩)
  · obtain ⟨m, o, es, ep, e', d, _⟩ := C.at'.ns
    rw [← h, e] at e'; cases e'; cases d
  · obtain ⟨v, o, e', d⟩ := C.at'.cells x D h
    rw [e] at e'; cases e'; cases d
theorem CSt.to {D : Addr} {done : List VP} {H' : Addr → Prop} {s' : Shared} (C : CSt c B H env ρ D done s) (hv : (vw H s.heap).le (vw H' s'.heap))
    (hk : ∀ b o, (b = D ∨ b = env.locals ∨ (∃ x, env.cells.lookup x = some b) ∨ (∃ o', B.heap.get? b = some o')) → s.heap.get? b = some o → s'.heap.get? b = some o)
    (hl : Live H' s'.heap) (hH : H' env.locals) (hD : H' D) (hg : GE s.gens s'.gens) (ho : s'.os = s.os) : CSt c B H' env ρ D done s' where
  at' := C.at'.to hv (fun o e => hk _ o (.inr (.inl rfl)) e) (fun x a o h e => hk a o (.inr (.inr (.inl ⟨x, h⟩))) e) (fun b o h e => hk b o (.inr (.inr (.inr ⟨o, h⟩))) e) hl hH hg ho
  hD := hD
  bD := C.bD
  acc := let ⟨ys, ⟨n, e⟩, h⟩ := C.acc; ⟨ys, ⟨n, hk _ _ (.inl rfl) e⟩, h.mono hv⟩
theorem CSt.more {D : Addr} {done : List VP} {s' : Shared} (C : CSt c B H env ρ D done s) (e : Ext s s') : CSt c B H env ρ D done s' :=
  C.to (e.view H) (fun b o _ h => e.keep b o h) (C.at'.live.keeps e.keep) C.at'.homeH C.hD e.gens e.os
theorem CSt.weak {D : Addr} {done : List VP} {ρ' : List (Str × VP)} (C : CSt c B H env ρ D done s) (h : ∀ x p, ρ'.lookup x = some p → ρ.lookup x = some p) : CSt c B H env ρ' D done s :=
  ⟨C.at'.weak h, C.hD, C.bD, C.acc⟩

/-- a target's names -/
def Tgt (scope : Scope) (x : Str) : Prop := scope.names.lookup x = some .local ∨ scope.names.lookup x = some .cell
def Asg (scope : Scope) (target : Expr) (p : VP) (ρ ρ' : List (Str × VP)) : Prop :=
  (∃ x px, target = .Name x px ∧ Tgt scope x ∧ ρ' = (x, p) :: ρ) ∨
  (∃ x px y py k pos p1 p2, target = .Tuple [.Name x px, .Name y py] k pos ∧ p = ptup [p1, p2] ∧ Tgt scope x ∧ Tgt scope y ∧ ρ' = (y, p2) :: (x, p1) :: ρ)

theorem CSt.store {D : Addr} {done : List VP} {x : Str} {v : Value} {p : VP} {Q : Unit → Shared → Prop} (C : CSt c B H env ρ D done s) (hx : Mine1 B H env x) (hp : p.is (vw H s.heap) v)
    (hQ : ∀ s', CSt c B H env ((x, p) :: ρ) D done s' → Chg (Own B env) s s' → (vw H s.heap).le (vw H s'.heap) → GE s.gens s'.gens → s'.os = s.os → Q () s') : wpAny c.M A (storeName env x v) Q E s :=
  C.at'.store hx hp fun s' X' hc vle hg ho => hQ s' ⟨X', C.hD, C.bD, let ⟨ys, ⟨n, e⟩, h⟩ := C.acc; ⟨ys, ⟨n, hc _ _ C.notOwn e⟩, h.mono vle⟩⟩ hc vle (GE.of_eq hg) ho

theorem asg_run {scope : Scope} {target : Expr} {p : VP} {v : Value} {ρ' : List (Str × VP)} {D : Addr} {done : List VP} {Q : Unit → Shared → Prop} (hA : A.handled = none) (C : CSt c B H env ρ D done s)
    (hM : ∀ x, Tgt scope x → Mine1 B H env x) (ha : Asg scope target p ρ ρ') (hp : p.is (vw H s.heap) v)
    (hQ : ∀ s', CSt c B H env ρ' D done s' → Chg (Own B env) s s' → (vw H s.heap).le (vw H s'.heap) → GE s.gens s'.gens → s'.os = s.os → Q () s') : wpAny c.M A (assign target env v) Q E s := by
  rcases ha with ⟨x, px, rfl, hx, rfl⟩ | ⟨x, px, y, py, k, pos, p1, p2, rfl, rfl, hx, hy, rfl⟩
  · exact wpAny_assign_Name (C.store (hM x hx) hp hQ)
  · obtain ⟨a, o, xs, m, rfl, hl, hc, hd, hxs⟩ := hp
    have h2 : xs.size = 2 := by have := hxs.length; simpa using this.symm
    obtain ⟨v1, v2, rfl⟩ : ∃ v1 v2, xs = #[v1, v2] := by
      obtain ⟨l⟩ := xs
      match l, h2 with
      | [v1, v2], _ => exact ⟨v1, v2, rfl⟩
    refine wpAny_assign_Tuple (items := #[v1, v2]) hA ⟨o, hl.2, hc, m, hd⟩ rfl rfl fun h' he => ?_
    have e1 : Ext s { s with heap := h' } := Ext.heap (t := s.toks) fun b o e => he b o (Nat.ne_of_lt (Heap.lt_size e)) e
    refine wpAny_assignInOrder_more (t := assign (.Name x px) env) (ts := [assign (.Name y py) env]) (x := v1) (xs := [v2]) ?_
    refine wpAny_assign_Name ((C.more e1).store (hM x hx) (p1.mono (e1.view H) hxs.1) fun s₁ C₁ hc₁ v₁ g₁ o₁ => ?_)
    refine wpAny_assignInOrder_more ?_
    refine wpAny_assign_Name (C₁.store (hM y hy) (p2.mono ((e1.view H).trans v₁) hxs.2.1) fun s₂ C₂ hc₂ v₂ g₂ o₂ => ?_)
    exact wpAny_assignInOrder_none (hQ s₂ C₂ (((Chg.of_ext e1).trans hc₁).trans hc₂) (((e1.view H).trans v₁).trans v₂) ((e1.gens.trans g₁).trans g₂) ((o₂.trans o₁).trans e1.os))

def TestsOk (c : Cfg) (n : Nat) (sc : Scope) (ρ : List (Str × VP)) (ifs : List Expr) (b : Bool) : Prop := (ifs = [] ∧ b = true) ∨ ∃ t, ifs = [t] ∧ Ts c n sc ρ t b
theorem tests_run {sc : Scope} {ifs : List Expr} {b : Bool} {Q : Bool → Shared → Prop} (X : At c B H env ρ s) (hA : AC A n) (hs : env.scope = sc) (h : TestsOk c n sc ρ ifs b) (hQ : ∀ s', Ext s s' → Q b s') :
    wpAny c.M A (forIn ifs true fun c r => if r = true then do let ok ← isTrue c env (eval c env); pure (ForInStep.yield ok) else pure (ForInStep.yield r)) Q E s := by
  rcases h with ⟨rfl, rfl⟩ | ⟨t, rfl, ht⟩
  · exact wpAny_tests_nil (hQ s .rfl)
  · exact wpAny_tests_one (ht A B H env s Q E hs hA X hQ)

/-- what the clauses gather from ρ on -/
def Gn (c : Cfg) (n : Nat) (sc scope : Scope) (elt : Expr) : List Comprehension → List (Str × VP) → List VP → Prop
  | [], ρ, outs => ∃ p, outs = [p] ∧ Ev c n sc ρ elt p
  | g :: gs, ρ, outs => ∃ (α : Type) (xs : List α) (P : α → VP) (G : α → List VP) (src : VP), (∀ env x, foldedSetIterable g.iter env x = pure x) ∧ Ev c n sc ρ g.iter src ∧ Itb c src (xs.map P) ∧ outs = xs.flatMap G ∧
      ∀ x ∈ xs, ∃ ρ' b, Asg scope g.target (P x) ρ ρ' ∧ (∀ y q, ρ.lookup y = some q → ρ'.lookup y = some q) ∧ TestsOk c n sc ρ' g.ifs b ∧ (b = false → G x = []) ∧ (b = true → Gn c n sc scope elt gs ρ' (G x))
def TurnOk (c : Cfg) (n : Nat) (sc scope : Scope) (elt : Expr) (g : Comprehension) (gs : List Comprehension) (ρ : List (Str × VP)) (p : VP) (outs : List VP) : Prop :=
  ∃ ρ' b, Asg scope g.target p ρ ρ' ∧ (∀ y q, ρ.lookup y = some q → ρ'.lookup y = some q) ∧ TestsOk c n sc ρ' g.ifs b ∧ (b = false → outs = []) ∧ (b = true → Gn c n sc scope elt gs ρ' outs)
end
end Mine
end
section
open PySem PySem.W
set_option Elab.async false
namespace Mine

section
variable {c : Cfg} {n : Nat} {B : Shared} {cenv : Env} {D : Addr} {elt : Expr} {gens : List Comprehension} {scope : Scope} {pos : Pos}

def InnerSpec (c : Cfg) (n : Nat) (B : Shared) (cenv : Env) (D : Addr) (elt : Expr) (gens : List Comprehension) (scope : Scope) (pos : Pos) (gs : List Comprehension) (depth : Nat) : Prop :=
  ∀ (ρ : List (Str × VP)) (outs done : List VP) (A : Around) (H : Addr → Prop) (s : Shared) (k : Sem Fin) (Q : Fin → Shared → Prop) (E : Value → Shared → Prop),
    Gn c n cenv.scope scope elt gs ρ outs → AC A n → CSt c B H cenv ρ D done s → done.length + outs.length ≤ 2 ^ 23 → (∀ x, Tgt scope x → Mine1 B H cenv x) →
    (∀ s', CSt c B H cenv ρ D (done ++ outs) s' → Chg (fun b => b = D ∨ Own B cenv b) s s' → (vw H s.heap).le (vw H s'.heap) → GE s.gens s'.gens → s'.os = s.os → wpAny c.M A k Q E s') →
    wpAny c.M A (compInner elt gens scope pos depth (.ref D) cenv k) Q E s

/-- a state of a loop's turns -/
structure LSt (c : Cfg) (B : Shared) (H : Addr → Prop) (cenv : Env) (ρ : List (Str × VP)) (D I : Addr) (done ps : List VP) (s₀ s : Shared) : Prop where
  cst : CSt c B H cenv ρ D done s
  it : IterOk H s.heap I ps
  chg : Chg (fun b => b = D ∨ b = I ∨ Own B cenv b) s₀ s
  vle : (vw H s₀.heap).le (vw H s.heap)
  ge : GE s₀.gens s.gens
  os : s.os = s₀.os

theorem it_notOwn {H : Addr → Prop} {ρ : List (Str × VP)} {done ps : List VP} {I : Addr} {s : Shared} (C : CSt c B H cenv ρ D done s) (x : IterOk H s.heap I ps) : ¬ Own B cenv I ∧ I ≠ D := by
  obtain ⟨o, vs, ho, hd, _⟩ := x.get
  refine ⟨?_, ?_⟩
  · rintro (h | ⟨y, h, _⟩)
    · obtain ⟨m, o', es, ep, e', d, _⟩ := C.at'.ns
      rw [← h, ho] at e'; cases e'; rw [hd] at d; cases d
    · obtain ⟨v, o', e', d⟩ := C.at'.cells y I h
      rw [ho] at e'; cases e'; rw [hd] at d; cases d
  · rintro rfl
    obtain ⟨ys, ⟨k, e⟩, _⟩ := C.acc
    rw [ho] at e; cases e; cases hd

theorem loop_of_inner {gs : List Comprehension} {depth : Nat} {target iter : Expr} {ifs : List Expr} (hin : InnerSpec c n B cenv D elt gens scope pos gs depth)
    (hg : gens[depth]? = some ⟨target, iter, ifs, 0⟩) (h0 : ∀ g', gens[depth + 1]? = some g' → g'.is_async = 0)
    {α : Type} (xs : List α) (P : α → VP) (G : α → List VP) {ρ : List (Str × VP)} {I : Addr} {H : Addr → Prop} {A : Around} {s : Shared} {done : List VP} {R : Result → Shared → Prop}
    (hA : AC A n) (C : CSt c B (fun b => H b ∨ b = I) cenv ρ D done s) (hI : ¬ H I) (bI : B.heap.get? I = none) (hHL : H cenv.locals) (hHD : H D) (hit : IterOk (fun b => H b ∨ b = I) s.heap I (xs.map P))
    (ht : ∀ x ∈ xs, TurnOk c n cenv.scope scope elt ⟨target, iter, ifs, 0⟩ gs ρ (P x) (G x)) (hsz : done.length + (xs.flatMap G).length ≤ 2 ^ 23) (hM : ∀ x, Tgt scope x → Mine1 B H cenv x)
    (hR : ∀ s', CSt c B H cenv ρ D (done ++ xs.flatMap G) s' → Chg (fun b => b = D ∨ b = I ∨ Own B cenv b) s s' → (vw (fun b => H b ∨ b = I) s.heap).le (vw H s'.heap) → GE s.gens s'.gens → s'.os = s.os → R (.ok .next) s') :
    codeAny c.M A (.compLoop (.ListComp elt gens scope pos) depth (.ref I) (.ref D) cenv) R s := by
  have hM' : ∀ x, Tgt scope x → Mine1 B (fun b => H b ∨ b = I) cenv x := fun x hx => (hM x hx).imp id fun ⟨k, a, h1, h2, h3⟩ => ⟨k, a, h1, .inl h2, h3⟩
  refine codeAny_loop rfl (fun k s' => ∃ x1 x2, xs = x1 ++ x2 ∧ k = x2.length ∧ LSt c B (fun b => H b ∨ b = I) cenv ρ D I (done ++ x1.flatMap G) (x2.map P) s s') (fun k s' hk => ?_) xs.length
    ⟨[], xs, rfl, rfl, by simpa using ⟨C, hit, Chg.rfl, View.le.rfl, GE.rfl, rfl⟩⟩
  show wpAny c.M A ((compTurn (.ListComp elt gens scope pos) depth (.ref I) (.ref D) cenv).onRaise (fun x => do noteFrame x cenv; theTreesLotGoes x)) _ _ s'
  refine wpAny_noted ?_
  rw [compTurn_eq hg h0]
  obtain ⟨x1, x2, hx, rfl, L⟩ := hk
  refine wpAny_bind (wpAny_standAt (wpAny_bind ?_))
  cases x2 with
  | nil =>
    refine iter_done hA.handled L.it fun h' he => ?_
    have e1 : (vw (fun b => H b ∨ b = I) s'.heap).le (vw H h') := fun b o ⟨hb, e⟩ => ⟨fun h => hb (.inl h), he b o (fun h => hb (.inr h)) e⟩
    have hno := it_notOwn L.cst L.it
    have hne : ∀ b, (b = D ∨ b = cenv.locals ∨ (∃ x, cenv.cells.lookup x = some b) ∨ ∃ o', B.heap.get? b = some o') → b ≠ I := by
      rintro b (h | h | ⟨x, h⟩ | ⟨o, h⟩) rfl
      · exact hno.2 h
      · exact hno.1 (.inl h)
      · exact hno.1 (.inr ⟨x, h, bI⟩)
      · rw [bI] at h; cases h
    rw [List.append_nil] at hx
    subst hx
    refine wpAny_pure (hR _ (L.cst.to e1 (fun b o hb e => he b o (hne b hb) e) (fun b hb => ?_) hHL hHD GE.rfl rfl) (L.chg.trans fun b o hb e => he b o (fun h => hb (.inr (.inl h))) e) (L.vle.trans e1) L.ge L.os)
    obtain ⟨o, e⟩ := L.cst.at'.live b (.inl hb)
    exact ⟨o, he b o (fun h => hI (h ▸ hb)) e⟩
  | cons x x2 =>
    rw [List.map_cons] at L
    refine iter_next (.inr rfl) L.it fun v h' tk hs hv hit' => ?_
    have hno := it_notOwn L.cst L.it
    have hne : ∀ b, (b = D ∨ b = cenv.locals ∨ (∃ x, cenv.cells.lookup x = some b) ∨ ∃ o', B.heap.get? b = some o') → b ≠ I := by
      rintro b (h | h | ⟨x, h⟩ | ⟨o, h⟩) rfl
      · exact hno.2 h
      · exact hno.1 (.inl h)
      · exact hno.1 (.inr ⟨x, h, bI⟩)
      · rw [bI] at h; cases h
    have v1 : (vw (fun b => H b ∨ b = I) s'.heap).le (vw (fun b => H b ∨ b = I) h') := fun b o ⟨hb, e⟩ => ⟨hb, hs.extBut b o (fun h => hb (.inr h)) e⟩
    have C1 : CSt c B (fun b => H b ∨ b = I) cenv ρ D (done ++ x1.flatMap G) { s' with heap := h', toks := tk } := by
      refine L.cst.to v1 (fun b o hb e => hs.extBut b o (hne b hb) e) (fun b hb => ?_) (.inl hHL) (.inl hHD) GE.rfl rfl
      by_cases h : b = I
      · obtain ⟨o, _, ho, _⟩ := hit'.get; exact ⟨o, h ▸ ho⟩
      · obtain ⟨o, e⟩ := L.cst.at'.live b hb
        exact ⟨o, hs.extBut b o h e⟩
    have hxm : x ∈ xs := by rw [hx]; simp
    obtain ⟨ρ', b, hasg, hle, hts, hb0, hb1⟩ := ht x hxm
    refine wpAny_bind ?_
    obtain ⟨oI, vsI, hoI, hdI, hcI⟩ := hit'.get
    refine letOwned hoI hdI hcI (wpAny_bind ?_)
    refine asg_run hA.handled C1 hM' hasg hv fun s₂ C₂ c₂ v₂ g₂ o₂ => wpAny_bind ?_
    refine tests_run C₂.at' hA rfl hts fun s₃ e₃ => ?_
    have C₃ := C₂.more e₃
    have hit₃ : IterOk (fun b => H b ∨ b = I) s₃.heap I (x2.map P) := hit'.keep fun b o hb e => by
      rcases hb with rfl | hb
      · exact e₃.keep _ _ (c₂ _ _ (it_notOwn C1 hit').1 e)
      · exact ((v₂.trans (e₃.view _)) b o ⟨hb, e⟩).2
    have chg₃ : Chg (fun b => b = D ∨ b = I ∨ Own B cenv b) s s₃ :=
      ((L.chg.trans fun b o hb e => hs.extBut b o (fun h => hb (.inr (.inl h))) e).trans (c₂.mono fun b h => .inr (.inr h))).trans (Chg.of_ext e₃)
    have vle₃ := ((L.vle.trans v1).trans v₂).trans (e₃.view _)
    have ge₃ := (L.ge.trans g₂).trans e₃.gens
    have os₃ := e₃.os.trans (o₂.trans L.os)
    have hxs' : xs = (x1 ++ [x]) ++ x2 := by rw [hx]; simp
    have hfl : done ++ (x1 ++ [x]).flatMap G = (done ++ x1.flatMap G) ++ G x := by simp
    have hlen : (done ++ x1.flatMap G).length + (G x).length ≤ 2 ^ 23 := by
      rw [hx] at hsz
      simp only [List.flatMap_append, List.flatMap_cons, List.length_append] at hsz ⊢
      omega
    cases b with
    | false =>
      refine wpAny_pure ⟨rfl, x2.length, by simp, x1 ++ [x], x2, hxs', rfl, ?_⟩
      rw [hfl, hb0 rfl, List.append_nil]
      exact ⟨C₃.weak hle, hit₃, chg₃, vle₃, ge₃, os₃⟩
    | true =>
      simp only [if_true]
      refine hin ρ' (G x) (done ++ x1.flatMap G) A _ s₃ _ _ _ (hb1 rfl) hA C₃ hlen hM' fun s₄ C₄ c₄ v₄ g₄ o₄ => ?_
      refine wpAny_pure ⟨rfl, x2.length, by simp, x1 ++ [x], x2, hxs', rfl, ?_⟩
      rw [hfl]
      have hno3 := it_notOwn C₃ hit₃
      refine ⟨C₄.weak hle, hit₃.keep fun b o hb e => ?_, chg₃.trans (c₄.mono fun b h => h.imp id .inr), vle₃.trans v₄, ge₃.trans g₄, o₄.trans os₃⟩
      rcases hb with rfl | hb
      · exact c₄ _ _ (fun h => h.elim hno3.2 hno3.1) e
      · exact (v₄ b o ⟨hb, e⟩).2

theorem inner_spec (h0 : ∀ g ∈ gens, g.is_async = 0) : ∀ (gs : List Comprehension) (depth : Nat), gens.drop (depth + 1) = gs → InnerSpec c n B cenv D elt gens scope pos gs depth
  | [], depth, hd => by
    intro ρ outs done A H s k Q E hG hA C hsz hM hk
    obtain ⟨p, rfl, he⟩ := hG
    have hnone : gens[depth + 1]? = none := by
      have := List.drop_eq_nil_iff.mp hd
      exact List.getElem?_eq_none this
    unfold compInner
    rw [hnone]
    dsimp only
    refine wpAny_bind (wpAny_bind (he A B H cenv s _ E rfl hA C.at' fun v s₁ e₁ hv => ?_))
    have C₁ := C.more e₁
    obtain ⟨ys, hys, hdone⟩ := C₁.acc
    have hl : ys.size ≤ sizeLine := by
      have := hdone.length
      have e : ys.toList.length = ys.size := by simp
      rw [sizeLine_eq]; omega
    have hno := C₁.notOwn
    refine wpAny_bind (wpAny_list_append_plain (hsz := hl) hys fun h' hl' hs' => wpAny_pure ?_)
    have v1 : (vw H s₁.heap).le (vw H h') := fun b o ⟨hb, e⟩ => ⟨hb, hs'.extBut b o (fun h => hb (h ▸ C.hD)) e⟩
    have hlive : Live H h' := fun b hb => by
      by_cases h : b = D
      · obtain ⟨_, e⟩ := hl'; exact ⟨_, h ▸ e⟩
      · obtain ⟨o, e⟩ := C₁.at'.live b hb; exact ⟨o, hs'.extBut b o h e⟩
    have hAt : At c B H cenv ρ { s₁ with heap := h' } := by
      refine C₁.at'.to v1 (fun o e => hs'.extBut _ o (fun h => hno (.inl h.symm)) e) (fun x a o h e => hs'.extBut a o (fun h' => ?_) e) (fun b o h e => hs'.extBut b o (fun h' => by subst h'; rw [C.bD] at h; cases h) e) hlive C.at'.homeH GE.rfl rfl
      subst h'
      exact hno (.inr ⟨x, h, C.bD⟩)
    refine hk _ ⟨hAt, C.hD, C.bD, _, hl', ?_⟩ (fun b o hb e => hs'.extBut b o (fun h => hb (.inl h)) (e₁.keep b o e)) ((e₁.view H).trans v1) e₁.gens e₁.os
    rw [Array.toList_push]
    exact All2.append (hdone.mono v1) ⟨p.mono v1 hv, trivial⟩
  | g' :: gs, depth, hd => by
    intro ρ outs done A H s k Q E hG hA C hsz hM hk
    have hlt : depth + 1 < gens.length := by
      rcases Nat.lt_or_ge (depth + 1) gens.length with h | h
      · exact h
      · rw [List.drop_of_length_le h] at hd; cases hd
    have hsome : gens[depth + 1]? = some g' := by
      rw [List.drop_eq_getElem_cons hlt] at hd
      injection hd with h1 h2
      rw [List.getElem?_eq_getElem hlt, h1]
    have hrest : gens.drop (depth + 1 + 1) = gs := by
      rw [List.drop_eq_getElem_cons hlt] at hd
      injection hd
    have hasync : g'.is_async = 0 := h0 g' (List.mem_of_getElem? hsome)
    obtain ⟨target, iter, ifs, ia⟩ := g'
    simp only at hasync
    subst hasync
    have ih := inner_spec h0 gs (depth + 1) hrest
    obtain ⟨α, xs, P, G, src, hf, he, hitb, rfl, ht⟩ := hG
    unfold compInner
    rw [hsome]
    dsimp only
    refine wpAny_bind (he A B H cenv s _ E rfl hA C.at' fun v s₁ e₁ hv => ?_)
    refine wpAny_bind (wpAny_standAt (wpAny_bind (wpAny_of_eq (hf cenv v) ?_)))
    have C₁ := C.more e₁
    refine wpAny_bind (wpAny_holding (hitb A H s₁ v _ _ C₁.at'.live hv fun I s₂ e₂ hnew hit => ?_))
    have C₂ := C₁.more e₂
    have hHI : ¬ H I := fun h => by obtain ⟨o, e⟩ := C₁.at'.live I h; rw [hnew] at e; cases e
    have hit' := hit (fun b => H b ∨ b = I) fun a ha => ha.elim .inl fun (h : a = I) => .inr (by rw [h]; exact hnew)
    have v12 : (vw H s₁.heap).le (vw (fun b => H b ∨ b = I) s₂.heap) := vw_more e₂.keep fun a ha => ha.elim .inl fun (h : a = I) => .inr (by rw [h]; exact hnew)
    have C₂' : CSt c B (fun b => H b ∨ b = I) cenv ρ D done s₂ := by
      refine C₁.to v12 (fun b o _ e => e₂.keep b o e) (fun b hb => ?_) (.inl C.at'.homeH) (.inl C.hD) e₂.gens e₂.os
      rcases hb with hb | rfl
      · exact C₂.at'.live b hb
      · obtain ⟨o, _, ho, _⟩ := hit'.get; exact ⟨o, ho⟩
    have bI : B.heap.get? I = none := by
      cases e : B.heap.get? I with
      | none => rfl
      | some o => have := C₁.at'.ext.keep I o e; rw [hnew] at this; cases this
    refine wpAny_bind (wpAny_runOwn (h := none) ?_)
    have loop : ∀ s₃ : Shared, s₃ = s₂ → codeAny c.M (A.mark none) (.compLoop (.ListComp elt gens scope pos) (depth + 1) (.ref I) (.ref D) cenv) (fun r s' => match r with | .ok f => wpAny c.M A k Q E s' | .error e => cameBackBy c.M A cenv E e s') s₃ := by
      rintro s₃ rfl
      refine loop_of_inner ih hsome (fun g'' hg'' => h0 g'' (List.mem_of_getElem? hg'')) xs P G (A := A.mark none) ⟨hA.handled, hA.depth, hA.units, hA.guards⟩ C₂' hHI bI C.at'.homeH C.hD hit' ht hsz hM fun s₄ C₄ c₄ v₄ g₄ o₄ => ?_
      exact hk s₄ C₄ (fun b o hb e => c₄ b o (fun h => h.elim (fun h => hb (.inl h)) fun h => h.elim (fun h => by subst h; rw [e₁.keep _ _ e] at hnew; cases hnew) fun h => hb (.inr h)) (e₂.keep b o (e₁.keep b o e)))
        (((e₁.view H).trans v12).trans v₄) ((e₁.gens.trans e₂.gens).trans g₄) (o₄.trans (e₂.os.trans e₁.os))
    exact compStart_any (by rw [hsome]; rfl) (loop _ rfl) fun E' => iter_self hit' (loop _ rfl)
end
end Mine
end
section
open PySem PySem.W
set_option Elab.async false
namespace Mine

/-- the cells that a comprehension takes from around it -/
def clFun (env : Env) : List (Str × NameKind) → List (Str × Addr) → List (Str × Addr)
  | [], acc => acc
  | (x, k) :: r, acc => if k == .free then clFun env r ((x, (env.cells.lookup x).getD 0) :: acc) else clFun env r acc

theorem closure_ok {env : Env} {scope : Scope} (h : ∀ x, (x, NameKind.free) ∈ scope.names → ∃ a, env.cells.lookup x = some a) : closureFor scope env = pure (clFun env scope.names []) := by
  have key : ∀ (names : List (Str × NameKind)) (acc : List (Str × Addr)), (∀ x, (x, NameKind.free) ∈ names → ∃ a, env.cells.lookup x = some a) →
      (forIn names acc fun (p : Str × NameKind) (cs : List (Str × Addr)) => if (p.2 == NameKind.free) = true then (do let a ← cellOf env p.1; pure (ForInStep.yield ((p.1, a) :: cs)) : Sem _) else pure (ForInStep.yield cs)) = pure (clFun env names acc) := by
    intro names
    induction names with
    | nil => intro acc _; rfl
    | cons p r ih =>
      intro acc hp
      obtain ⟨x, k⟩ := p
      rw [List.forIn_cons]
      unfold clFun
      by_cases hk : (k == NameKind.free) = true
      · obtain rfl := beq_iff_eq.mp hk
        obtain ⟨a, ha⟩ := hp x List.mem_cons_self
        simp only [beq_self_eq_true, if_true, cellOf, ha, Option.getD_some, pure_bind]
        exact ih _ fun y hy => hp y (List.mem_cons_of_mem _ hy)
      · simp only [hk, Bool.false_eq_true, if_false, pure_bind]
        exact ih _ fun y hy => hp y (List.mem_cons_of_mem _ hy)
  exact (congrArg (· >>= pure) (key scope.names [] h)).trans rfl
theorem clFun_lookup {env : Env} {x : Str} {a : Addr} : ∀ {names : List (Str × NameKind)} {acc : List (Str × Addr)}, (∀ y, (y, NameKind.free) ∈ names → ∃ a, env.cells.lookup y = some a) → (∀ y b, acc.lookup y = some b → env.cells.lookup y = some b) → (clFun env names acc).lookup x = some a → env.cells.lookup x = some a
  | [], _, _, h, e => h x a e
  | (y, k) :: r, acc, hn, h, e => by
    unfold clFun at e
    have hr : ∀ z, (z, NameKind.free) ∈ r → ∃ a, env.cells.lookup z = some a := fun z hz => hn z (List.mem_cons_of_mem _ hz)
    by_cases hk : (k == NameKind.free) = true
    · rw [if_pos hk] at e
      obtain rfl := beq_iff_eq.mp hk
      obtain ⟨b, hb⟩ := hn y List.mem_cons_self
      refine clFun_lookup hr (fun z d hz => ?_) e
      rw [List.lookup_cons] at hz
      cases hzy : z == y with
      | true => rw [hzy] at hz; cases hz; rw [beq_iff_eq.mp hzy, hb]; rfl
      | false => rw [hzy] at hz; exact h z d hz
    · rw [if_neg hk] at e
      exact clFun_lookup hr h e
theorem clFun_has {env : Env} {x : Str} : ∀ {names : List (Str × NameKind)} {acc : List (Str × Addr)}, ((x, NameKind.free) ∈ names ∨ ∃ a, acc.lookup x = some a) → ∃ a, (clFun env names acc).lookup x = some a
  | [], _, h => h.elim (fun h => by cases h) id
  | (y, k) :: r, acc, h => by
    unfold clFun
    by_cases hk : (k == NameKind.free) = true
    · rw [if_pos hk]
      refine clFun_has ?_
      by_cases hy : (x == y) = true
      · exact .inr ⟨_, by rw [List.lookup_cons, hy]⟩
      · rcases h with h | ⟨a, h⟩
        · rcases List.mem_cons.mp h with e | e
          · cases e; simp at hy
          · exact .inl e
        · exact .inr ⟨a, by rw [List.lookup_cons]; simpa only [hy] using h⟩
    · rw [if_neg hk]
      refine clFun_has (h.imp (fun e => ?_) id)
      rcases List.mem_cons.mp e with e | e
      · cases e; simp at hk
      · exact e

/-- the cells of a comprehension's own -/
theorem cellsFrom_in {x : Str} {a : Addr} : ∀ (names : List (Str × NameKind)) (h : Heap) (acc : List (Str × Addr)), (cellsFrom h.objs.size names acc).lookup x = some a →
    acc.lookup x = some a ∨ ((pushCells h names).IsCell a none ∧ h.objs.size ≤ a)
  | [], _, _, e => .inl e
  | (y, k) :: r, h, acc, e => by
    unfold cellsFrom at e
    unfold pushCells
    by_cases hk : (k == NameKind.cell) = true
    · rw [if_pos hk] at e ⊢
      have e' : (cellsFrom (h.push { cls := .type "cell", data := .cell none }).objs.size r ((y, h.objs.size) :: acc)).lookup x = some a := by rw [Heap.size_push]; exact e
      rcases cellsFrom_in r (h.push { cls := .type "cell", data := .cell none }) ((y, h.objs.size) :: acc) e' with q | ⟨q, l⟩
      · rw [List.lookup_cons] at q
        cases hxy : x == y with
        | true =>
          rw [hxy] at q; cases q
          exact .inr ⟨⟨_, pushCells_keeps _ _ _ _ (Heap.get?_push_size h rfl), rfl⟩, Nat.le_refl _⟩
        | false => rw [hxy] at q; exact .inl q
      · exact .inr ⟨q, by rw [Heap.size_push] at l; omega⟩
    · rw [if_neg hk] at e ⊢
      exact cellsFrom_in r h acc e
theorem cellsFrom_new {x : Str} : ∀ (names : List (Str × NameKind)) (n lo : Nat) (acc : List (Str × Addr)), lo ≤ n → ((x, NameKind.cell) ∈ names ∨ ∃ a, acc.lookup x = some a ∧ lo ≤ a) → ∃ a, (cellsFrom n names acc).lookup x = some a ∧ lo ≤ a
  | [], _, _, _, _, h => h.elim (fun h => by cases h) id
  | (y, k) :: r, n, lo, acc, hn, h => by
    unfold cellsFrom
    by_cases hk : (k == NameKind.cell) = true
    · rw [if_pos hk]
      refine cellsFrom_new r (n + 1) lo _ (Nat.le_succ_of_le hn) ?_
      by_cases hy : (x == y) = true
      · exact .inr ⟨n, by rw [List.lookup_cons, hy], hn⟩
      · rcases h with h | ⟨a, h, l⟩
        · rcases List.mem_cons.mp h with e | e
          · cases e; simp at hy
          · exact .inl e
        · exact .inr ⟨a, by rw [List.lookup_cons]; simpa only [hy] using h, l⟩
    · rw [if_neg hk]
      refine cellsFrom_new r n lo _ hn (h.imp (fun e => ?_) id)
      rcases List.mem_cons.mp e with e | e
      · cases e; simp at hk
      · exact e
theorem cellsFrom_keep {x : Str} {a : Addr} : ∀ (names : List (Str × NameKind)) (n : Nat) (acc : List (Str × Addr)), (x, NameKind.cell) ∉ names → acc.lookup x = some a → (cellsFrom n names acc).lookup x = some a
  | [], _, _, _, h => h
  | (y, k) :: r, n, acc, hm, h => by
    rw [List.mem_cons, not_or] at hm
    unfold cellsFrom
    by_cases hk : (k == NameKind.cell) = true
    · rw [if_pos hk]
      refine cellsFrom_keep r (n + 1) _ hm.2 ?_
      obtain rfl := beq_iff_eq.mp hk
      have hxy : (x == y) = false := by
        cases e : x == y with
        | false => rfl
        | true => exact absurd (by rw [beq_iff_eq.mp e]) hm.1
      rw [List.lookup_cons, hxy]; exact h
    · rw [if_neg hk]; exact cellsFrom_keep r n _ hm.2 h
theorem cellsFrom_one {x y : Str} {a : Addr} : ∀ (names : List (Str × NameKind)) (n : Nat) (acc : List (Str × Addr)), (∀ u v b, acc.lookup u = some b → acc.lookup v = some b → u = v) → (∀ u b, acc.lookup u = some b → b < n) →
    (cellsFrom n names acc).lookup x = some a → (cellsFrom n names acc).lookup y = some a → x = y
  | [], _, _, h, _, e, e' => h x y a e e'
  | (z, k) :: r, n, acc, h, hl, e, e' => by
    unfold cellsFrom at e e'
    by_cases hk : (k == NameKind.cell) = true
    · rw [if_pos hk] at e e'
      refine cellsFrom_one r (n + 1) _ (fun u v b hu hv => ?_) (fun u b hu => ?_) e e'
      · rw [List.lookup_cons] at hu hv
        cases huz : u == z with
        | true =>
          cases hvz : v == z with
          | true => rw [beq_iff_eq.mp huz, beq_iff_eq.mp hvz]
          | false => rw [huz] at hu; rw [hvz] at hv; cases hu; exact absurd (hl v _ hv) (Nat.lt_irrefl _)
        | false =>
          cases hvz : v == z with
          | true => rw [huz] at hu; rw [hvz] at hv; cases hv; exact absurd (hl u _ hu) (Nat.lt_irrefl _)
          | false => rw [huz] at hu; rw [hvz] at hv; exact h u v b hu hv
      · rw [List.lookup_cons] at hu
        cases huz : u == z with
        | true => rw [huz] at hu; cases hu; exact Nat.lt_succ_self _
        | false => rw [huz] at hu; exact Nat.lt_succ_of_lt (hl u b hu)
    · rw [if_neg hk] at e e'
      exact cellsFrom_one r n acc h hl e e'

theorem wpAny_newEnv_comp {M : Model} {A : Around} {E : Value → Shared → Prop} {s : Shared} {scope : Scope} {globals : Addr} {cl : List (Str × Addr)} {qual : Str} {outer : Env} {Q : Env → Shared → Prop}
    (hQ : Q (newEnv scope s.heap.objs.size globals (cellsFrom (s.heap.objs.size + 1) scope.names cl) qual none .none (some outer) builtinsNs) { s with heap := pushCells (s.heap.push { cls := .type "dict", data := .dict #[] }) scope.names }) :
    wpAny M A (newFunctionEnv scope globals cl [] qual none .none (some outer)) Q E s := by
  simp only [newFunctionEnv, Option.isSome_some, if_true]
  refine wpAny_bind (wpAny_alloc ?_)
  refine wpAny_bind (wpAny_layCells _ (fun name kind cells => by cases hkc : kind == NameKind.cell <;> simp [hkc]) _ _ _ _ ?_)
  rw [show ({ s with heap := s.heap.push { cls := .type "dict", data := .dict #[] } } : Shared).heap.objs.size = s.heap.objs.size + 1 from Heap.size_push ..]
  exact wpAny_bind (wpAny_pure (wpAny_pure hQ))

/-- the scope as a comprehension runs in it -/
def relS (scope sc : Scope) : Scope :=
  { scope with names := scope.names.map fun (n, k) => if (k == .free && sc.kind == .function && sc.names.lookup n == some .cell) then (n, .cell) else (n, k) }
theorem relabel_eq {scope : Scope} {env : Env} : relabel scope env = relS scope env.scope := rfl
theorem relS_cell {sc : Scope} : ∀ {names : List (Str × NameKind)} {x : Str}, names.lookup x = some .cell →
    (names.map fun (n, k) => if (k == NameKind.free && sc.kind == .function && sc.names.lookup n == some .cell) then (n, NameKind.cell) else (n, k)).lookup x = some .cell
  | [], _, h => by simp at h
  | (n, k) :: r, x, h => by
    have ih := @relS_cell sc r x
    show List.lookup x ((if (k == NameKind.free && sc.kind == .function && sc.names.lookup n == some .cell) = true then (n, NameKind.cell) else (n, k)) :: _) = _
    cases hx : x == n with
    | true =>
      simp only [List.lookup_cons, hx] at h
      cases h
      simp [List.lookup_cons, hx]
    | false =>
      simp only [List.lookup_cons, hx] at h
      by_cases hc : (k == NameKind.free && sc.kind == .function && sc.names.lookup n == some .cell) = true
      · rw [if_pos hc]; simp only [List.lookup_cons, hx]; exact ih h
      · rw [if_neg hc]; simp only [List.lookup_cons, hx]; exact ih h
theorem relS_free {sc : Scope} : ∀ {names : List (Str × NameKind)} {x : Str}, names.lookup x = some .free →
    (names.map fun (n, k) => if (k == NameKind.free && sc.kind == .function && sc.names.lookup n == some .cell) then (n, NameKind.cell) else (n, k)).lookup x = some .cell ∨
    ((names.map fun (n, k) => if (k == NameKind.free && sc.kind == .function && sc.names.lookup n == some .cell) then (n, NameKind.cell) else (n, k)).lookup x = some .free ∧ ¬ (sc.kind = .function ∧ sc.names.lookup x = some .cell))
  | [], _, h => by simp at h
  | (n, k) :: r, x, h => by
    have ih := @relS_free sc r x
    show List.lookup x ((if (k == NameKind.free && sc.kind == .function && sc.names.lookup n == some .cell) = true then (n, NameKind.cell) else (n, k)) :: _) = _ ∨
      (List.lookup x ((if (k == NameKind.free && sc.kind == .function && sc.names.lookup n == some .cell) = true then (n, NameKind.cell) else (n, k)) :: _) = _ ∧ _)
    cases hx : x == n with
    | true =>
      simp only [List.lookup_cons, hx] at h
      cases h
      obtain rfl := beq_iff_eq.mp hx
      by_cases hc : (NameKind.free == NameKind.free && sc.kind == .function && sc.names.lookup x == some .cell) = true
      · rw [if_pos hc]; left; simp [List.lookup_cons]
      · rw [if_neg hc]; right
        refine ⟨by simp [List.lookup_cons], fun ⟨h1, h2⟩ => hc (by rw [h1, h2]; rfl)⟩
    | false =>
      simp only [List.lookup_cons, hx] at h
      by_cases hc : (k == NameKind.free && sc.kind == .function && sc.names.lookup n == some .cell) = true
      · rw [if_pos hc]; simp only [List.lookup_cons, hx]; exact ih h
      · rw [if_neg hc]; simp only [List.lookup_cons, hx]; exact ih h
theorem relS_back {sc : Scope} {k' : NameKind} : ∀ {names : List (Str × NameKind)} {x : Str}, (names.map fun (n, k) => if (k == NameKind.free && sc.kind == .function && sc.names.lookup n == some .cell) then (n, NameKind.cell) else (n, k)).lookup x = some k' →
    names.lookup x = some k' ∨ (names.lookup x = some .free ∧ k' = .cell)
  | [], _, h => by simp at h
  | (n, k) :: r, x, h => by
    have ih := @relS_back sc k' r x
    have h : List.lookup x ((if (k == NameKind.free && sc.kind == .function && sc.names.lookup n == some .cell) = true then (n, NameKind.cell) else (n, k)) :: _) = _ := h
    by_cases hc : (k == NameKind.free && sc.kind == .function && sc.names.lookup n == some .cell) = true
    · rw [if_pos hc, List.lookup_cons] at h
      rw [List.lookup_cons]
      cases hx : x == n with
      | true =>
        rw [hx] at h; cases h
        simp only [Bool.and_eq_true] at hc
        exact .inr ⟨by rw [beq_iff_eq.mp hc.1.1], rfl⟩
      | false => rw [hx] at h; exact ih h
    · rw [if_neg hc, List.lookup_cons] at h
      rw [List.lookup_cons]
      cases hx : x == n with
      | true => rw [hx] at h; exact .inl h
      | false => rw [hx] at h; exact ih h

section
variable {c : Cfg} {n : Nat} {sc scope : Scope} {ρ ρ' : List (Str × VP)} {elt : Expr} {g : Comprehension} {gs : List Comprehension} {pos : Pos}

/-- what a comprehension asks of its scopes (closed looks) -/
structure ScOk (sc scope : Scope) : Prop where
  kind : scope.kind = .function
  locals : ∀ x ∈ scope.names, x.2 = .local → scope.names.lookup x.1 = some .local
  once : (scope.names.map (·.1)).Nodup
  free : ∀ x, scope.names.lookup x = some .free → sc.names.lookup x = some .cell ∨ sc.names.lookup x = some .free

theorem lookup_of_mem {α : Type} {x : Str} {k : α} : ∀ {l : List (Str × α)}, (l.map (·.1)).Nodup → (x, k) ∈ l → l.lookup x = some k
  | (y, j) :: r, hn, hm => by
    rw [List.map_cons, List.nodup_cons] at hn
    rw [List.lookup_cons]
    rcases List.mem_cons.mp hm with e | e
    · cases e; simp
    · have hxy : (x == y) = false := by
        cases h : x == y with
        | false => rfl
        | true => exact absurd (List.mem_map_of_mem (f := (·.1)) e) (by rw [beq_iff_eq.mp h]; exact hn.1)
      rw [hxy]; exact lookup_of_mem hn.2 e

theorem comp_core {use : Option (Value → Sem Unit)} {A : Around} {B : Shared} {H : Addr → Prop} {env : Env} {s : Shared} {Q : Value → Shared → Prop} {E : Value → Shared → Prop} {α : Type} {xs : List α} {P : α → VP} {G : α → List VP} {src : VP}
    (hsc : env.scope = sc) (hA : AC A n) (X : At c B H env ρ s) (S : ScOk sc scope)
    (hasync : ∀ g' ∈ g :: gs, g'.is_async = 0) (hf : ∀ env x, foldedSetIterable g.iter env x = pure x) (he : Ev c n sc ρ g.iter src) (hit : Itb c src (xs.map P))
    (hρ : ∀ x p, ρ'.lookup x = some p → ρ.lookup x = some p ∧ scope.names.lookup x = some .free)
    (ht : ∀ x ∈ xs, TurnOk c n (relS scope sc) scope elt g gs ρ' (P x) (G x)) (hsz : (xs.flatMap G).length ≤ 2 ^ 23)
    (hEnd : ∀ D C (s' : Shared) (ys : Array Value), Ext s s' → s.heap.get? D = none → s.heap.get? C = none → D ≠ C → (∃ m, s'.heap.Ns C m) → s'.heap.PlainList D ys →
      All2 (vw (fun b => H b ∨ b = C ∨ b = D) s'.heap) (xs.flatMap G) ys.toList → compPost c.M A E use Q (.ref D) C (.ok .next) s') :
    wpAny c.M A (comprehension (.ListComp elt (g :: gs) scope pos) scope env (firstIterPos (g :: gs) pos) (newList []) false (eval g.iter env) use) Q E s := by
  subst hsc
  obtain ⟨target, iter, ifs, ia⟩ := g
  have hia := hasync _ List.mem_cons_self
  simp only at hia
  subst hia
  have hfree : ∀ x, (x, NameKind.free) ∈ scope.names → ∃ a, env.cells.lookup x = some a := fun x hx => by
    have hl := lookup_of_mem S.once hx
    exact X.has x (S.free x hl)
  refine wpAny_comprehension_free (cl := clFun env scope.names []) rfl (hf env) (closure_ok hfree) S.kind S.locals ?_
  refine he A B H env s _ E rfl hA X fun v s₁ e₁ hv => ?_
  have X₁ := X.more e₁
  refine hit A H s₁ v _ E X₁.live hv fun I s₂ e₂ hnewI hitI => ?_
  refine wpAny_newObj_type (wpAny_newEnv_comp ?_)
  dsimp only
  generalize hD : s₂.heap.objs.size = D
  generalize hh3 : s₂.heap.push { cls := .type "list", dict := none, data := .seq ([] : List Value).toArray } = h3
  have sz3 : h3.objs.size = D + 1 := by rw [← hh3, Heap.size_push, hD]
  generalize hh4 : h3.push { cls := .type "dict", data := .dict #[] } = h4
  have sz4 : h4.objs.size = D + 2 := by rw [← hh4, Heap.size_push, sz3]
  generalize hh5 : pushCells h4 scope.names = h5
  rw [sz3]
  have k34 : ∀ b o, h3.get? b = some o → h5.get? b = some o := fun b o e => hh5 ▸ pushCells_keeps _ _ _ _ (hh4 ▸ Heap.get?_push_of_some _ e)
  have k25 : ∀ b o, s₂.heap.get? b = some o → h5.get? b = some o := fun b o e => k34 b o (hh3 ▸ Heap.get?_push_of_some _ e)
  have gD : h5.PlainList D #[] := ⟨0, k34 _ _ (by rw [← hh3, ← hD]; exact Heap.get?_push_size _ rfl)⟩
  have gC : h5.Ns (D + 1) fun _ => none := by
    have h0 := Heap.Ns.new h3 (.type "dict")
    rw [hh4, sz3] at h0
    exact h0.keeps fun b o e => hh5 ▸ pushCells_keeps _ _ _ _ e
  have no2 : ∀ b, D ≤ b → s₂.heap.get? b = none := fun b hb => by
    cases e : s₂.heap.get? b with
    | none => rfl
    | some o => exact absurd (Heap.lt_size e) (by rw [hD]; exact Nat.not_lt.mpr hb)
  have no1 : ∀ b, s₂.heap.get? b = none → s₁.heap.get? b = none := fun b hb => by
    cases e : s₁.heap.get? b with
    | none => rfl
    | some o => exact absurd (e₂.keep b o e) (by rw [hb]; simp)
  have no0 : ∀ b, s₁.heap.get? b = none → s.heap.get? b = none := fun b hb => by
    cases e : s.heap.get? b with
    | none => rfl
    | some o => exact absurd (e₁.keep b o e) (by rw [hb]; simp)
  -- the frame of the comprehension
  generalize hcells : cellsFrom (D + 1 + 1) scope.names (clFun env scope.names []) = cells
  have hclIn : ∀ x a, (clFun env scope.names []).lookup x = some a → env.cells.lookup x = some a := fun x a h => clFun_lookup hfree (fun _ _ h => by simp at h) h
  have hcl2 : ∀ x a, env.cells.lookup x = some a → a < D := fun x a h => by
    obtain ⟨v, o, e, _⟩ := X₁.cells x a h
    rw [← hD]; exact Heap.lt_size (e₂.keep a o e)
  have hcin : ∀ x a, cells.lookup x = some a → env.cells.lookup x = some a ∨ (h5.IsCell a none ∧ D + 2 ≤ a) := fun x a h => by
    have := cellsFrom_in scope.names h4 (clFun env scope.names []) (x := x) (a := a) (by rw [sz4]; exact hcells ▸ h)
    rw [sz4, hh5] at this
    exact this.imp (hclIn x a) id
  let cenv : Env := { newEnv scope (D + 1) env.globals cells env.qual none .none (some env) builtinsNs with scope := relabel scope env }
  let H1 : Addr → Prop := fun b => H b ∨ b = D ∨ b = D + 1 ∨ ∃ x, cells.lookup x = some b ∧ s₁.heap.get? b = none
  have hHD : ¬ H D := fun h => by obtain ⟨o, e⟩ := X₁.live D h; rw [no1 D (no2 D (Nat.le_refl _))] at e; cases e
  have hHI : ¬ H1 I := by
    rintro (h | h | h | ⟨x, h, h'⟩)
    · obtain ⟨o, e⟩ := X₁.live I h; rw [hnewI] at e; cases e
    · have := hitI (fun b => H b ∨ b = I) fun a ha => ha.elim .inl fun (h : a = I) => .inr (by rw [h]; exact hnewI)
      obtain ⟨o, _, ho, _⟩ := this.get
      rw [h, no2 D (Nat.le_refl _)] at ho; cases ho
    · have := hitI (fun b => H b ∨ b = I) fun a ha => ha.elim .inl fun (h : a = I) => .inr (by rw [h]; exact hnewI)
      obtain ⟨o, _, ho, _⟩ := this.get
      rw [h, no2 (D + 1) (Nat.le_succ _)] at ho; cases ho
    · rcases hcin x I h with e | ⟨_, l⟩
      · obtain ⟨v, o, e, _⟩ := X₁.cells x I e; rw [hnewI] at e; cases e
      · have := hitI (fun b => H b ∨ b = I) fun a ha => ha.elim .inl fun (h : a = I) => .inr (by rw [h]; exact hnewI)
        obtain ⟨o, _, ho, _⟩ := this.get
        rw [no2 I (Nat.le_trans (Nat.le_add_right D 2) l)] at ho; cases ho
  have hH1new : ∀ b, H1 b ∨ b = I → H b ∨ s₁.heap.get? b = none := by
    rintro b ((h | h | h | ⟨x, h, h'⟩) | h)
    · exact .inl h
    · exact .inr (h ▸ no1 D (no2 D (Nat.le_refl _)))
    · exact .inr (h ▸ no1 _ (no2 (D + 1) (Nat.le_succ _)))
    · exact .inr h'
    · exact .inr (h ▸ hnewI)
  have hit1 : IterOk (fun b => H1 b ∨ b = I) h5 I (xs.map P) := (hitI _ hH1new).keep fun b o _ e => k25 b o e
  have vle : (vw H s₁.heap).le (vw (fun b => H1 b ∨ b = I) h5) := vw_more (fun b o e => k25 b o (e₂.keep b o e)) hH1new
  have live1 : Live (fun b => H1 b ∨ b = I) h5 := by
    rintro b ((h | h | h | ⟨x, h, h'⟩) | h)
    · obtain ⟨o, e⟩ := X₁.live b h; exact ⟨o, k25 b o (e₂.keep b o e)⟩
    · obtain ⟨_, e⟩ := gD; exact ⟨_, h ▸ e⟩
    · obtain ⟨o, _, _, e, _⟩ := gC; exact ⟨o, h ▸ e⟩
    · rcases hcin x b h with e | ⟨⟨o, e, _⟩, _⟩
      · obtain ⟨v, o, e, _⟩ := X₁.cells x b e; exact ⟨o, k25 b o (e₂.keep b o e)⟩
      · exact ⟨o, e⟩
    · obtain ⟨o, _, ho, _⟩ := hit1.get; exact ⟨o, h ▸ ho⟩
  have C0 : CSt c s₁ (fun b => H1 b ∨ b = I) cenv ρ' D [] { s₂ with heap := h5 } := by
    refine ⟨⟨X₁.gl, ⟨fun b o e => k25 b o (e₂.keep b o e), e₂.gens, e₂.os⟩, live1, .inl (.inr (.inr (.inl rfl))), no1 _ (no2 (D + 1) (Nat.le_succ _)), ⟨_, gC⟩, X.globals, X.builtins, S.kind, ?_, ?_, ?_, ?_⟩, .inl (.inr (.inl rfl)), no1 D (no2 D (Nat.le_refl _)), ⟨#[], gD, trivial⟩⟩
    · intro x y a hx hy
      refine cellsFrom_one scope.names (D + 1 + 1) (clFun env scope.names []) (fun u v b hu hv => X.one u v b (hclIn u b hu) (hclIn v b hv)) (fun u b hu => Nat.lt_of_lt_of_le (hcl2 u b (hclIn u b hu)) (by omega)) (a := a) ?_ ?_
      · rw [hcells]; exact hx
      · rw [hcells]; exact hy
    · intro x a hx
      rcases hcin x a hx with e | ⟨e, _⟩
      · obtain ⟨v, e⟩ := X₁.cells x a e; exact ⟨v, e.keeps fun b o e => k25 b o (e₂.keep b o e)⟩
      · exact ⟨_, e⟩
    · intro x hx
      have hx' : (relS scope env.scope).names.lookup x = some .cell ∨ (relS scope env.scope).names.lookup x = some .free := hx
      show ∃ a, cells.lookup x = some a
      have inFree : scope.names.lookup x = some .free → ∃ a, cells.lookup x = some a := fun h => by
        obtain ⟨a, ha⟩ := clFun_has (env := env) (names := scope.names) (acc := []) (x := x) (.inl (mem_of_lookup h))
        refine ⟨a, hcells ▸ cellsFrom_keep scope.names _ _ (fun hm => ?_) ha⟩
        rw [lookup_of_mem S.once hm] at h; cases h
      rcases hx' with h | h
      · rcases relS_back h with h | ⟨h, _⟩
        · obtain ⟨a, ha, _⟩ := cellsFrom_new (x := x) scope.names (D + 1 + 1) 0 (clFun env scope.names []) (Nat.zero_le _) (.inl (mem_of_lookup h))
          exact ⟨a, hcells ▸ ha⟩
        · exact inFree h
      · rcases relS_back h with h | ⟨_, h⟩
        · exact inFree h
        · cases h
    · intro x p hx
      obtain ⟨hp, hfr⟩ := hρ x p hx
      have hV := X₁.vars x p hp
      obtain ⟨a, ha⟩ := clFun_has (env := env) (names := scope.names) (acc := []) (x := x) (.inl (mem_of_lookup hfr))
      have hca : cells.lookup x = some a := hcells ▸ cellsFrom_keep scope.names _ _ (fun hm => by rw [lookup_of_mem S.once hm] at hfr; cases hfr) ha
      have hea := hclIn x a ha
      have hnl : env.kindOf x ≠ some .local := fun h => by
        have h' : env.scope.names.lookup x = some .local := h
        rcases S.free x hfr with e | e <;> rw [e] at h' <;> cases h'
      rcases hV with ⟨k, _⟩ | ⟨k, a', v, ha', hv, hpv⟩
      · exact absurd k hnl
      · rw [hea] at ha'
        cases ha'
        refine .inr ⟨?_, a, v, hca, hv.keeps fun b o e => k25 b o (e₂.keep b o e), p.mono vle hpv⟩
        rcases relS_free (sc := env.scope) hfr with e | ⟨e, hne⟩
        · exact .inl e
        · refine .inr ⟨e, ?_⟩
          rcases k with k | ⟨_, k⟩
          · exact absurd ⟨X.kind, k⟩ hne
          · exact k
  have hM : ∀ x, Tgt scope x → Mine1 s₁ H1 cenv x := fun x hx => by
    rcases hx with hx | hx
    · exact .inl (lookup_relabel_local hx)
    · obtain ⟨a, ha, hl⟩ := cellsFrom_new (x := x) scope.names (D + 1 + 1) (D + 2) (clFun env scope.names []) (Nat.le_refl _) (.inl (mem_of_lookup hx))
      have ha' : cells.lookup x = some a := hcells ▸ ha
      have hn : s₁.heap.get? a = none := no1 a (no2 a (by omega))
      exact .inr ⟨relS_cell hx, a, ha', .inr (.inr (.inr ⟨x, ha', hn⟩)), hn⟩
  have loop : ∀ s₃ : Shared, s₃ = { s₂ with heap := h5 } → codeAny c.M A (.compLoop (.ListComp elt (⟨target, iter, ifs, 0⟩ :: gs) scope pos) 0 (.ref I) (.ref D) cenv) (compPost c.M A E use Q (.ref D) (D + 1)) s₃ := by
    rintro s₃ rfl
    refine loop_of_inner (inner_spec (fun g hg => hasync g hg) gs 0 rfl) (by rfl) (fun g' hg' => hasync g' (List.mem_of_getElem? hg')) xs P G hA C0 hHI hnewI (.inr (.inr (.inl rfl))) (.inr (.inl rfl)) hit1 ht (by simpa using hsz) hM fun s' C' c' v' g' o' => ?_
    obtain ⟨ys, hys, hall⟩ := C'.acc
    refine hEnd D (D + 1) s' ys (e₁.trans C'.at'.ext) (no0 _ (no1 D (no2 D (Nat.le_refl _)))) (no0 _ (no1 _ (no2 (D + 1) (Nat.le_succ _)))) (Nat.ne_of_lt (Nat.lt_succ_self D)) C'.at'.ns hys ?_
    rw [List.nil_append] at hall
    refine hall.mono fun b o ⟨hb, e⟩ => ⟨fun h => hb (h.imp id fun h => h.elim (fun h => .inr (.inl h)) .inl), e⟩
  exact compStart_any (by rfl) (loop _ rfl) fun E' => iter_self hit1 (loop _ rfl)
end
end Mine
end
section
open PySem PySem.W
set_option Elab.async false
namespace Mine
section
variable {c : Cfg} {n : Nat} {sc scope : Scope} {ρ ρ' : List (Str × VP)} {elt : Expr} {g : Comprehension} {gs : List Comprehension} {pos : Pos}

theorem firstAsync_no {g : Comprehension} {gs : List Comprehension} (h : g.is_async = 0) : firstAsync (g :: gs) = false := by
  obtain ⟨t, i, f, a⟩ := g
  simp only at h
  subst h
  rfl
theorem eval_comp {env : Env} (h : g.is_async = 0) : eval (.ListComp elt (g :: gs) scope pos) env = comprehension (.ListComp elt (g :: gs) scope pos) scope env (firstIterPos (g :: gs) pos) (newList []) false (eval g.iter env) none := by
  rw [eval_ListComp, firstAsync_no h]
  obtain ⟨t, i, f, a⟩ := g
  rfl

theorem ev_comp {α : Type} {xs : List α} {P : α → VP} {G : α → List VP} {src : VP} (S : ScOk sc scope)
    (hasync : ∀ g' ∈ g :: gs, g'.is_async = 0) (hf : ∀ env x, foldedSetIterable g.iter env x = pure x) (he : Ev c n sc ρ g.iter src) (hit : Itb c src (xs.map P))
    (hρ : ∀ x p, ρ'.lookup x = some p → ρ.lookup x = some p ∧ scope.names.lookup x = some .free)
    (ht : ∀ x ∈ xs, TurnOk c n (relS scope sc) scope elt g gs ρ' (P x) (G x)) (hsz : (xs.flatMap G).length ≤ 2 ^ 23) : Ev c n sc ρ (.ListComp elt (g :: gs) scope pos) (plist (xs.flatMap G)) := by
  intro A B H env s Q E hsc hA X hQ
  rw [eval_comp (hasync g List.mem_cons_self)]
  refine comp_core hsc hA X S hasync hf he hit hρ ht hsz fun D C s' ys e hD hC hDC hn hys hall => ?_
  obtain ⟨m, hn⟩ := hn
  refine ⟨m, hn, fun h' hs => hQ _ _ ⟨fun b o h => hs.extBut b o (fun hb => by rw [hb, hC] at h; cases h) (e.keep b o h), e.gens, e.os⟩ ?_⟩
  obtain ⟨k, hk⟩ := hys
  exact ⟨D, ys, k, rfl, ⟨fun h => (by obtain ⟨o, e'⟩ := X.live D h; rw [hD] at e'; cases e'), hs.extBut _ _ hDC hk⟩, hall.mono fun b o ⟨hb, e'⟩ => ⟨fun h => hb (.inl h), hs.extBut b o (fun h => hb (.inr (.inl h))) e'⟩⟩

theorem ex_assign_comp {A : Around} {B : Shared} {H : Addr → Prop} {env : Env} {s : Shared} {Q : Flow → Shared → Prop} {E : Value → Shared → Prop} {y : Str} {py spos : Pos} {α : Type} {xs : List α} {P : α → VP} {G : α → List VP} {src : VP}
    (X : At c B H env ρ s) (hA : AC A n) (hsc : env.scope = sc) (S : ScOk sc scope)
    (hasync : ∀ g' ∈ g :: gs, g'.is_async = 0) (hf : ∀ env x, foldedSetIterable g.iter env x = pure x) (he : Ev c n sc ρ g.iter src) (hit : Itb c src (xs.map P))
    (hρ : ∀ x p, ρ'.lookup x = some p → ρ.lookup x = some p ∧ scope.names.lookup x = some .free)
    (ht : ∀ x ∈ xs, TurnOk c n (relS scope sc) scope elt g gs ρ' (P x) (G x)) (hsz : (xs.flatMap G).length ≤ 2 ^ 23)
    (hsw : swapsWith (.ListComp elt (g :: gs) scope pos) (some (.Name y py)) spos.line env = pure true) (hy : Mine1 B H env y)
    (hQ : ∀ s', At c B H env ((y, plist (xs.flatMap G)) :: ρ) s' → Chg (Own B env) s s' → (vw H s.heap).le (vw H s'.heap) → Q .next s') :
    wpAny c.M A (exec (.Assign [.Name y py] (.ListComp elt (g :: gs) scope pos) spos) env) Q E s := by
  rw [exec_Assign_Name_used _ _ _ _ hsw]
  refine wpAny_bind (wpAny_standAt (wpAny_bind ?_))
  have heq : evalThenUse (.ListComp elt (g :: gs) scope pos) env (assign (.Name y py) env) = (do
      let _ ← comprehension (.ListComp elt (g :: gs) scope pos) scope env (firstIterPos (g :: gs) pos) (newList []) false (eval g.iter env) (some (assign (.Name y py) env))) := by
    have h0 := hasync g List.mem_cons_self
    obtain ⟨t, i, f, a⟩ := g
    simp only at h0
    subst h0
    rfl
  rw [heq]
  refine wpAny_bind (wpAny_mono (comp_core (use := some (assign (.Name y py) env)) (Q := fun _ s' => Q .next s') (E := E) hsc hA X S hasync hf he hit hρ ht hsz fun D C s' ys e hD hC hDC hn hys hall => ?_) (fun _ s' hq => wpAny_pure (wpAny_pure hq)) fun _ _ e => e)
  show wpAny c.M A (assign (.Name y py) env (.ref D)) _ E s'
  have hHD : ¬ H D := fun h => by obtain ⟨o, e'⟩ := X.live D h; rw [hD] at e'; cases e'
  have hHC : ¬ H C := fun h => by obtain ⟨o, e'⟩ := X.live C h; rw [hC] at e'; cases e'
  obtain ⟨m, hn⟩ := hn
  have XC : At c B (fun b => H b ∨ b = C) env ρ s' := by
    refine X.to (fun b o ⟨hb, e'⟩ => ⟨fun h => h.elim hb fun h => (by rw [h, hC] at e'; cases e'), e.keep b o e'⟩) (fun o h => e.keep _ o h) (fun x a o _ h => e.keep a o h) (fun b o _ h => e.keep b o h) ?_ (.inl X.homeH) e.gens e.os
    rintro b (h | h)
    · obtain ⟨o, e'⟩ := X.live b h; exact ⟨o, e.keep b o e'⟩
    · obtain ⟨o, _, _, e', _⟩ := hn; exact ⟨o, h ▸ e'⟩
  have hL : env.locals ≠ C := fun h => by
    obtain ⟨m', o, _, _, e', _⟩ := X.ns
    rw [h, hC] at e'; cases e'
  have hcellC : ∀ x a, env.cells.lookup x = some a → a ≠ C := fun x a ha h => by
    obtain ⟨v, o, e', _⟩ := X.cells x a ha
    rw [h, hC] at e'; cases e'
  have hBC : B.heap.get? C = none := by
    cases e' : B.heap.get? C with
    | none => rfl
    | some o => have := X.ext.keep C o e'; rw [hC] at this; cases this
  obtain ⟨k, hk⟩ := hys
  refine wpAny_assign_Name (XC.store (hy.imp id fun ⟨k, a, h1, h2, h3⟩ => ⟨k, a, h1, .inl h2, h3⟩) (p := plist (xs.flatMap G)) ⟨D, ys, k, rfl, ⟨fun h => h.elim hHD hDC, hk⟩, hall.mono fun b o ⟨hb, e'⟩ => ⟨fun h => hb (h.imp id .inl), e'⟩⟩ fun s'' X'' c'' v'' g'' o'' => ?_)
  have hno : ¬ Own B env C := by
    rintro (h | ⟨x, h, _⟩)
    · exact hL h.symm
    · exact hcellC x C h rfl
  refine ⟨m, ⟨?_, fun h' hs => hQ _ ?_ (fun b o hb h => ?_) fun b o ⟨hb, h⟩ => ?_⟩⟩
  · obtain ⟨o, es, ep, e', r⟩ := hn; exact ⟨o, es, ep, c'' C o hno e', r⟩
  · refine X''.to (fun b o ⟨hb, e'⟩ => ⟨fun h => hb (.inl h), hs.extBut b o (fun h => hb (.inr h)) e'⟩) (fun o h => hs.extBut _ o hL h) (fun x a o h h' => hs.extBut a o (hcellC x a h) h') (fun b o h h' => hs.extBut b o (fun hb => by rw [hb, hBC] at h; cases h) h') (fun b hb => ?_) X.homeH GE.rfl rfl
    obtain ⟨o, e'⟩ := X''.live b (.inl hb)
    exact ⟨o, hs.extBut b o (fun h => hHC (h ▸ hb)) e'⟩
  · exact hs.extBut b o (fun h' => by rw [h', hC] at h; cases h) (c'' b o hb (e.keep b o h))
  · have hbC : b ≠ C := fun h' => by rw [h', hC] at h; cases h
    exact ⟨hb, hs.extBut b o hbC (v'' b o ⟨fun h' => h'.elim hb hbC, e.keep b o h⟩).2⟩
/-- the same, the new list kept out of sight (it will grow) -/
theorem ex_assign_comp_hid {A : Around} {B : Shared} {H : Addr → Prop} {env : Env} {s : Shared} {Q : Flow → Shared → Prop} {E : Value → Shared → Prop} {y : Str} {py spos : Pos} {α : Type} {xs : List α} {P : α → VP} {G : α → List VP} {src : VP}
    (X : At c B H env ρ s) (hA : AC A n) (hsc : env.scope = sc) (S : ScOk sc scope)
    (hasync : ∀ g' ∈ g :: gs, g'.is_async = 0) (hf : ∀ env x, foldedSetIterable g.iter env x = pure x) (he : Ev c n sc ρ g.iter src) (hit : Itb c src (xs.map P))
    (hρ : ∀ x p, ρ'.lookup x = some p → ρ.lookup x = some p ∧ scope.names.lookup x = some .free)
    (ht : ∀ x ∈ xs, TurnOk c n (relS scope sc) scope elt g gs ρ' (P x) (G x)) (hsz : (xs.flatMap G).length ≤ 2 ^ 23)
    (hsw : swapsWith (.ListComp elt (g :: gs) scope pos) (some (.Name y py)) spos.line env = pure true) (hy : Mine1 B H env y)
    (hQ : ∀ D s' ys, At c B (fun b => H b ∨ b = D) env ((y, pval (.ref D)) :: ρ) s' → s.heap.get? D = none → B.heap.get? D = none → s'.heap.PlainList D ys → All2 (vw (fun b => H b ∨ b = D) s'.heap) (xs.flatMap G) ys.toList → Chg (Own B env) s s' → (vw H s.heap).le (vw (fun b => H b ∨ b = D) s'.heap) → Q .next s') :
    wpAny c.M A (exec (.Assign [.Name y py] (.ListComp elt (g :: gs) scope pos) spos) env) Q E s := by
  rw [exec_Assign_Name_used _ _ _ _ hsw]
  refine wpAny_bind (wpAny_standAt (wpAny_bind ?_))
  have heq : evalThenUse (.ListComp elt (g :: gs) scope pos) env (assign (.Name y py) env) = (do
      let _ ← comprehension (.ListComp elt (g :: gs) scope pos) scope env (firstIterPos (g :: gs) pos) (newList []) false (eval g.iter env) (some (assign (.Name y py) env))) := by
    have h0 := hasync g List.mem_cons_self
    obtain ⟨t, i, f, a⟩ := g
    simp only at h0
    subst h0
    rfl
  rw [heq]
  refine wpAny_bind (wpAny_mono (comp_core (use := some (assign (.Name y py) env)) (Q := fun _ s' => Q .next s') (E := E) hsc hA X S hasync hf he hit hρ ht hsz fun D C s' ys e hD hC hDC hn hys hall => ?_) (fun _ s' hq => wpAny_pure (wpAny_pure hq)) fun _ _ e => e)
  show wpAny c.M A (assign (.Name y py) env (.ref D)) _ E s'
  have hHD : ¬ H D := fun h => by obtain ⟨o, e'⟩ := X.live D h; rw [hD] at e'; cases e'
  have hHC : ¬ H C := fun h => by obtain ⟨o, e'⟩ := X.live C h; rw [hC] at e'; cases e'
  obtain ⟨m, hn⟩ := hn
  have XC : At c B (fun b => H b ∨ b = C ∨ b = D) env ρ s' := by
    refine X.to (fun b o ⟨hb, e'⟩ => ⟨fun h => h.elim hb fun h => h.elim (fun h => by rw [h, hC] at e'; cases e') fun h => (by rw [h, hD] at e'; cases e'), e.keep b o e'⟩) (fun o h => e.keep _ o h) (fun x a o _ h => e.keep a o h) (fun b o _ h => e.keep b o h) ?_ (.inl X.homeH) e.gens e.os
    rintro b (h | h | h)
    · obtain ⟨o, e'⟩ := X.live b h; exact ⟨o, e.keep b o e'⟩
    · obtain ⟨o, _, _, e', _⟩ := hn; exact ⟨o, h ▸ e'⟩
    · obtain ⟨k, e'⟩ := hys; exact ⟨_, h ▸ e'⟩
  have hL : env.locals ≠ C := fun h => by
    obtain ⟨m', o, _, _, e', _⟩ := X.ns
    rw [h, hC] at e'; cases e'
  have hcellC : ∀ x a, env.cells.lookup x = some a → a ≠ C := fun x a ha h => by
    obtain ⟨v, o, e', _⟩ := X.cells x a ha
    rw [h, hC] at e'; cases e'
  have hBC : B.heap.get? C = none := by
    cases e' : B.heap.get? C with
    | none => rfl
    | some o => have := X.ext.keep C o e'; rw [hC] at this; cases this
  obtain ⟨k, hk⟩ := hys
  refine wpAny_assign_Name (XC.store (hy.imp id fun ⟨k, a, h1, h2, h3⟩ => ⟨k, a, h1, .inl h2, h3⟩) (p := pval (.ref D)) rfl fun s'' X'' c'' v'' g'' o'' => ?_)
  have hno : ¬ Own B env C := by
    rintro (h | ⟨x, h, _⟩)
    · exact hL h.symm
    · exact hcellC x C h rfl
  have hBD : B.heap.get? D = none := by
    cases e' : B.heap.get? D with
    | none => rfl
    | some o => have := X.ext.keep D o e'; rw [hD] at this; cases this
  have hnoD : ¬ Own B env D := by
    rintro (h | ⟨x, h, _⟩)
    · obtain ⟨m', o, _, _, e', _⟩ := X.ns; rw [← h, hD] at e'; cases e'
    · obtain ⟨v, o, e', _⟩ := X.cells x D h; rw [hD] at e'; cases e'
  have v3 : ∀ h', Heap.SameBut C s''.heap h' → (vw (fun b => H b ∨ b = C ∨ b = D) s''.heap).le (vw (fun b => H b ∨ b = D) h') := fun h' hs b o ⟨hb, e'⟩ => ⟨fun h => hb (h.imp id .inr), hs.extBut b o (fun h => hb (.inr (.inl h))) e'⟩
  refine ⟨m, ⟨?_, fun h' hs => hQ D _ ys ?_ hD hBD ⟨k, hs.extBut _ _ hDC (c'' _ _ hnoD hk)⟩ (hall.mono (v''.trans (v3 h' hs))) (fun b o hb h => ?_) fun b o ⟨hb, h⟩ => ?_⟩⟩
  · obtain ⟨o, es, ep, e', r⟩ := hn; exact ⟨o, es, ep, c'' C o hno e', r⟩
  · refine X''.to (v3 h' hs) (fun o h => hs.extBut _ o hL h) (fun x a o h h' => hs.extBut a o (hcellC x a h) h') (fun b o h h' => hs.extBut b o (fun hb => by rw [hb, hBC] at h; cases h) h') (fun b hb => ?_) (.inl X.homeH) GE.rfl rfl
    obtain ⟨o, e'⟩ := X''.live b (hb.imp id .inr)
    exact ⟨o, hs.extBut b o (fun h => hb.elim (fun hb => hHC (h ▸ hb)) fun hb => hDC (hb.symm.trans h)) e'⟩
  · exact hs.extBut b o (fun h' => by rw [h', hC] at h; cases h) (c'' b o hb (e.keep b o h))
  · have hbC : b ≠ C := fun h' => by rw [h', hC] at h; cases h
    have hbD : b ≠ D := fun h' => by rw [h', hD] at h; cases h
    exact ⟨fun h' => h'.elim hb hbD, hs.extBut b o hbC (v'' b o ⟨fun h' => h'.elim hb fun h' => h'.elim hbC hbD, e.keep b o h⟩).2⟩
end
end Mine
end
section
open PySem PySem.W
set_option Elab.async false
namespace Mine
section
variable {c : Cfg} {n : Nat} {sc : Scope} {B : Shared} {H : Addr → Prop} {env : Env} {s : Shared} {A : Around} {E : Value → Shared → Prop}

theorem it_apart {H : Addr → Prop} {ρ : List (Str × VP)} {I : Addr} {ps : List VP} {s : Shared} (X : At c B H env ρ s) (x : IterOk H s.heap I ps) : I ≠ env.locals ∧ ∀ y, env.cells.lookup y ≠ some I := by
  obtain ⟨o, vs, ho, hd, _⟩ := x.get
  refine ⟨fun h => ?_, fun y h => ?_⟩
  · obtain ⟨m, o', es, ep, e', d, _⟩ := X.ns
    rw [← h, ho] at e'; cases e'; rw [hd] at d; cases d
  · obtain ⟨v, o', e', d⟩ := X.cells y I h
    rw [ho] at e'; cases e'; rw [hd] at d; cases d

/-- for x in iter: body -/
theorem ex_for {x : Str} {px pos : Pos} {iter : Expr} {body : List Stmt} {src : VP} {Q : Flow → Shared → Prop} {α : Type} (xs : List α) (P : α → VP) (R : List α → List (Str × VP)) (S : (Addr → Prop) → List α → Shared → Prop) (Z : Addr → Prop)
    (X : At c B H env (R []) s) (hA : AC A n) (hsc : env.scope = sc) (he : Ev c n sc (R []) iter src) (hit : Itb c src (xs.map P)) (hx : Mine1 B H env x) (hS : S H [] s) (hZ : ∀ b, Z b → H b) (hZown : ∀ b, Z b → ¬ Own B env b)
    (stab : ∀ (H₁ H₂ : Addr → Prop) pre (s₁ s₂ : Shared), S H₁ pre s₁ → (∀ b o, Z b → s₁.heap.get? b = some o → s₂.heap.get? b = some o) → (vw H₁ s₁.heap).le (vw H₂ s₂.heap) → S H₂ pre s₂)
    (hbody : ∀ pre a post H' s₁ (Q' : Flow → Shared → Prop) E', xs = pre ++ a :: post → (∀ b, H b → H' b) → At c B H' env ((x, P a) :: R pre) s₁ → S H' pre s₁ →
      (∀ s₂, At c B H' env (R (pre ++ [a])) s₂ → S H' (pre ++ [a]) s₂ → Chg (fun b => Own B env b ∨ Z b) s₁ s₂ → (vw H' s₁.heap).le (vw H' s₂.heap) → Q' .next s₂) → wpAny c.M A (execs body env) Q' E' s₁)
    (hQ : ∀ s', At c B H env (R xs) s' → S H xs s' → Chg (fun b => Own B env b ∨ Z b) s s' → Q .next s')
    (hf : ∀ v, foldedSetIterable iter env v = pure v := by intro _; rfl) :
    wpAny c.M A (exec (.For (.Name x px) iter body [] pos) env) Q E s := by
  refine wpAny_For (he A B H env s _ E hsc hA X fun v s₁ e₁ hv => ?_) hf
  have X₁ := X.more e₁
  refine hit A H s₁ v _ E X₁.live hv fun I s₂ e₂ hnew hitI => ?_
  have X₂ := X₁.more e₂
  have hHI : ¬ H I := fun h => by obtain ⟨o, e⟩ := X₁.live I h; rw [hnew] at e; cases e
  have hH1 : ∀ b, (H b ∨ b = I) → H b ∨ s₁.heap.get? b = none := fun a ha => ha.elim .inl fun (h : a = I) => .inr (by rw [h]; exact hnew)
  have hit' := hitI (fun b => H b ∨ b = I) hH1
  have v12 : (vw H s₁.heap).le (vw (fun b => H b ∨ b = I) s₂.heap) := vw_more e₂.keep hH1
  have X₂' : At c B (fun b => H b ∨ b = I) env (R []) s₂ := by
    refine X₁.to v12 (fun o h => e₂.keep _ o h) (fun x a o _ h => e₂.keep a o h) (fun b o _ h => e₂.keep b o h) ?_ (.inl X.homeH) e₂.gens e₂.os
    rintro b (h | h)
    · exact X₂.live b h
    · obtain ⟨o, _, ho, _⟩ := hit'.get; exact ⟨o, h ▸ ho⟩
  have bI : B.heap.get? I = none := by
    cases e : B.heap.get? I with
    | none => rfl
    | some o => have := X₁.ext.keep I o e; rw [hnew] at this; cases this
  have S₂ : S (fun b => H b ∨ b = I) [] s₂ := stab H _ [] s s₂ hS (fun b o _ h => e₂.keep b o (e₁.keep b o h)) ((e₁.view H).trans v12)
  refine codeAny_forLoop (fun k s' => ∃ pre post, xs = pre ++ post ∧ k = post.length ∧ At c B (fun b => H b ∨ b = I) env (R pre) s' ∧ S (fun b => H b ∨ b = I) pre s' ∧ IterOk (fun b => H b ∨ b = I) s'.heap I (post.map P) ∧
    Chg (fun b => b = I ∨ Own B env b ∨ Z b) s₂ s') (fun k s' hk => ?_) xs.length ⟨[], xs, rfl, rfl, X₂', S₂, hit', Chg.rfl⟩
  obtain ⟨pre, post, hxs, rfl, X₃, S₃, it₃, c₃⟩ := hk
  have hap := it_apart X₃ it₃
  have hZI : ∀ b, Z b → b ≠ I := fun b hb h => hHI (h ▸ hZ b hb)
  cases post with
  | nil =>
    refine iter_done hA.handled it₃ fun h' he' => ?_
    rw [List.append_nil] at hxs
    subst hxs
    have e1 : (vw (fun b => H b ∨ b = I) s'.heap).le (vw H h') := fun b o ⟨hb, e⟩ => ⟨fun h => hb (.inl h), he' b o (fun h => hb (.inr h)) e⟩
    refine wpAny_execs_nil (hQ _ ?_ (stab _ H xs s' _ S₃ (fun b o hb h => he' b o (hZI b hb) h) e1) fun b o hb h => ?_)
    · refine X₃.to e1 (fun o h => he' _ o (Ne.symm hap.1) h) (fun y a o hy h => he' a o (fun h' => hap.2 y (h' ▸ hy)) h) (fun b o hb h => he' b o (fun h' => by rw [h', bI] at hb; cases hb) h) (fun b hb => ?_) X.homeH GE.rfl rfl
      obtain ⟨o, h⟩ := X₃.live b (.inl hb)
      exact ⟨o, he' b o (fun h' => hHI (h' ▸ hb)) h⟩
    · have hbI : b ≠ I := fun h' => by rw [h'] at h; have := e₁.keep I o h; rw [hnew] at this; cases this
      exact he' b o hbI (c₃ b o (fun h' => h'.elim hbI hb) (e₂.keep b o (e₁.keep b o h)))
  | cons a post =>
    refine iter_next (.inr rfl) it₃ fun v h' tk hs hv it₄ => ?_
    have v34 : (vw (fun b => H b ∨ b = I) s'.heap).le (vw (fun b => H b ∨ b = I) h') := fun b o ⟨hb, e⟩ => ⟨hb, hs.extBut b o (fun h => hb (.inr h)) e⟩
    have X₄ : At c B (fun b => H b ∨ b = I) env (R pre) { s' with heap := h', toks := tk } := by
      refine X₃.to v34 (fun o h => hs.extBut _ o (Ne.symm hap.1) h) (fun y a o hy h => hs.extBut a o (fun h' => hap.2 y (h' ▸ hy)) h) (fun b o hb h => hs.extBut b o (fun h' => by rw [h', bI] at hb; cases hb) h) (fun b hb => ?_) (.inl X.homeH) GE.rfl rfl
      by_cases h : b = I
      · obtain ⟨o, _, ho, _⟩ := it₄.get; exact ⟨o, h ▸ ho⟩
      · obtain ⟨o, e⟩ := X₃.live b hb; exact ⟨o, hs.extBut b o h e⟩
    refine wpAny_assign_Name (X₄.store (hx.imp id fun ⟨k, a, h1, h2, h3⟩ => ⟨k, a, h1, .inl h2, h3⟩) hv fun s₅ X₅ c₅ v₅ g₅ o₅ => ?_)
    have S₅ : S (fun b => H b ∨ b = I) pre s₅ := stab _ _ pre s' s₅ S₃ (fun b o hb h => (c₅ b o (fun h' => ?_) (hs.extBut b o (hZI b hb) h))) (v34.trans v₅)
    · have it₅ : IterOk (fun b => H b ∨ b = I) s₅.heap I (post.map P) := it₄.keep fun b o hb h => by
        rcases hb with rfl | hb
        · exact c₅ _ _ (fun h' => h'.elim hap.1 fun ⟨y, hy, _⟩ => hap.2 y hy) h
        · exact (v₅ b o ⟨hb, h⟩).2
      refine hbody pre a post _ s₅ _ _ hxs (fun b h => .inl h) X₅ S₅ fun s₆ X₆ S₆ c₆ v₆ => ?_
      refine ⟨post.length, by simp, pre ++ [a], post, by rw [hxs]; simp, rfl, X₆, S₆, it₅.keep fun b o hb h => ?_, ?_⟩
      · rcases hb with rfl | hb
        · exact c₆ _ _ (fun h' => h'.elim (fun h' => h'.elim hap.1 fun ⟨y, hy, _⟩ => hap.2 y hy) fun h' => hHI (hZ _ h')) h
        · exact (v₆ b o ⟨hb, h⟩).2
      · exact ((c₃.trans fun b o hb h => hs.extBut b o (fun h' => hb (.inl h')) h).trans (c₅.mono fun b h => .inr (.inl h))).trans (c₆.mono fun b h => .inr h)
    · exact hZown b hb h'
end
end Mine
end
section
open PySem PySem.W
set_option Elab.async false
namespace Mine
theorem mine_local {B : Shared} {H : Addr → Prop} {env : Env} {sc : Scope} {x : Str} (hsc : env.scope = sc) (h : sc.names.lookup x = some .local) : Mine1 B H env x := .inl (by show env.scope.names.lookup x = _; rw [hsc]; exact h)
theorem mine_cell {B : Shared} {H : Addr → Prop} {env : Env} {sc : Scope} {x : Str} (O : Owns B H env) (hsc : env.scope = sc) (h : sc.names.lookup x = some .cell) : Mine1 B H env x := O.one (.inr (by show env.scope.names.lookup x = _; rw [hsc]; exact h))
theorem scOk {sc scope : Scope} (hk : scope.kind = .function) (h1 : ∀ x ∈ scope.names, x.2 = .local → scope.names.lookup x.1 = some .local) (h2 : (scope.names.map (·.1)).Nodup)
    (h3 : ∀ y ∈ scope.names, y.2 = .free → sc.names.lookup y.1 = some .cell ∨ sc.names.lookup y.1 = some .free) : ScOk sc scope :=
  ⟨hk, h1, h2, fun x hx => h3 (x, .free) (mem_of_lookup hx) rfl⟩
theorem swaps_t {env : Env} {sc : Scope} {elt : Expr} {gens : List Comprehension} {scope : Scope} {pos tp : Pos} {t : Str} {line : Nat} (hsc : env.scope = sc) (hk : sc.kind = .function) (hl : sc.names.lookup t = some .local) (hp : (tp.line == pos.line) = true)
    (hn : (scope.names.any fun (n, k) => n == t && (k == .local || k == .cell)) = false) :
    swapsWith (.ListComp elt gens scope pos) (some (.Name t tp)) line env = pure true := by
  subst hsc
  have hk' : env.kindOf t = some .local := hl
  show (pure (env.blockKind == .function && env.kindOf t == some .local && tp.line == pos.line && !(scope.names.any fun (n, k) => n == t && (k == .local || k == .cell))) : Sem Bool) = _
  have hb : env.blockKind = .function := by unfold Env.blockKind; rw [hk]; rfl
  rw [hb, hk', hp, hn]; rfl
theorem swaps_f {env : Env} {sc : Scope} {elt : Expr} {gens : List Comprehension} {scope : Scope} {pos tp : Pos} {t : Str} {line : Nat} (hsc : env.scope = sc) (hl : sc.names.lookup t = some .cell) :
    swapsWith (.ListComp elt gens scope pos) (some (.Name t tp)) line env = pure false := by
  subst hsc
  have hk' : env.kindOf t = some .cell := hl
  show (pure (env.blockKind == .function && env.kindOf t == some .local && tp.line == pos.line && !(scope.names.any fun (n, k) => n == t && (k == .local || k == .cell))) : Sem Bool) = _
  rw [hk', show ((some NameKind.cell : Option NameKind) == some NameKind.local) = false from rfl, Bool.and_false, Bool.false_and, Bool.false_and]

theorem slicePick_take (xs : Array Value) (k : Nat) : (slicePick xs none (some (k : Int)) none).toList = xs.toList.take k := by
  have e : sliceBounds none (some (k : Int)) none xs.size = (((0 : Nat) : Int), ((min k xs.size : Nat) : Int), 1) := by
    unfold sliceBounds
    have h0 : ¬ (k : Int) < 0 := by omega
    simp only [Option.getD_none, show (1 : Int) > 0 by decide, if_true, h0, if_false]
    congr 2
    omega
  rw [kmk_pick_nat xs e]
  simp only [List.drop_zero, Nat.sub_zero]
  have := List.take_eq_take_min (l := xs.toList) (i := k)
  rw [this]
  simp
theorem slicePick_drop (xs : Array Value) (k : Nat) : (slicePick xs (some (k : Int)) none none).toList = xs.toList.drop k := by
  have e : sliceBounds (some (k : Int)) none none xs.size = (((min k xs.size : Nat) : Int), ((xs.size : Nat) : Int), 1) := by
    unfold sliceBounds
    have h0 : ¬ (k : Int) < 0 := by omega
    simp only [Option.getD_none, show (1 : Int) > 0 by decide, if_true, h0, if_false]
    congr 2
    omega
  rw [kmk_pick_nat xs e]
  have hl : xs.toList.length = xs.size := by simp
  rcases Nat.le_total k xs.size with h | h
  · rw [Nat.min_eq_left h]
    exact List.take_of_length_le (by rw [List.length_drop, hl]; omega)
  · rw [Nat.min_eq_right h, List.drop_of_length_le (by rw [hl]; omega), List.drop_of_length_le (by rw [hl]; omega)]
    simp
theorem slicePick_rev (xs : Array Value) : (slicePick xs none none (some (-1))).toList = xs.toList.reverse := by rw [krv_pick]
end Mine
end
section
open PySem PySem.W
set_option Elab.async false
namespace Mine
section
variable {c : Cfg} {n : Nat} {B : Shared} {H : Addr → Prop} {env : Env} {ρ ρ' : List (Str × VP)} {s : Shared} {A : Around} {E : Value → Shared → Prop}

theorem At.seq_notOwn {D : Addr} {ys : Array Value} (X : At c B H env ρ s) (h : s.heap.PlainList D ys) : ¬ Own B env D := by
  obtain ⟨n, e⟩ := h
  rintro (h | ⟨x, h, _⟩)
  · obtain ⟨m, o, es, ep, e', d, _⟩ := X.ns
    rw [← h, e] at e'; cases e'; cases d
  · obtain ⟨v, o, e', d⟩ := X.cells x D h
    rw [e] at e'; cases e'; cases d

/-- a list that was out of sight is seen -/
theorem At.unhide {D : Addr} {ys : Array Value} {ps : List VP} (X : At c B (fun b => H b ∨ b = D) env ρ s) (hL : H env.locals) (hD : ¬ H D) (hys : s.heap.PlainList D ys) (hall : All2 (vw (fun b => H b ∨ b = D) s.heap) ps ys.toList)
    (h : ∀ x p, ρ'.lookup x = some p → ρ.lookup x = some p ∨ (p = plist ps ∧ ρ.lookup x = some (pval (.ref D)))) : At c B H env ρ' s := by
  have vle : (vw (fun b => H b ∨ b = D) s.heap).le (vw H s.heap) := fun b o ⟨hb, e⟩ => ⟨fun h => hb (.inl h), e⟩
  have hp : (plist ps).is (vw H s.heap) (.ref D) := let ⟨k, e⟩ := hys; ⟨D, ys, k, rfl, ⟨hD, e⟩, hall.mono vle⟩
  refine ⟨X.base, X.ext, fun b hb => X.live b (.inl hb), hL, X.homeB, X.ns, X.globals, X.builtins, X.kind, X.one, X.cells, X.has, fun x p hx => ?_⟩
  rcases h x p hx with h | ⟨rfl, h⟩
  · rcases X.vars x p h with ⟨k, m, v, hm, hv, hpv⟩ | ⟨k, a, v, ha, hv, hpv⟩
    · exact .inl ⟨k, m, v, hm, hv, p.mono vle hpv⟩
    · exact .inr ⟨k, a, v, ha, hv, p.mono vle hpv⟩
  · rcases X.vars x _ h with ⟨k, m, v, hm, hv, hpv⟩ | ⟨k, a, v, ha, hv, hpv⟩
    · obtain rfl := hpv; exact .inl ⟨k, m, _, hm, hv, hp⟩
    · obtain rfl := hpv; exact .inr ⟨k, a, _, ha, hv, hp⟩

/-- something of no frame turns, out of sight -/
theorem At.touch {D : Addr} {s' : Shared} (X : At c B H env ρ s) (hD : H D) (hBD : B.heap.get? D = none) (hno : ¬ Own B env D) (hk : ∀ b o, b ≠ D → s.heap.get? b = some o → s'.heap.get? b = some o) (hl : ∃ o, s'.heap.get? D = some o) (hg : GE s.gens s'.gens) (ho : s'.os = s.os) : At c B H env ρ s' := by
  refine X.to (fun b o ⟨hb, e⟩ => ⟨hb, hk b o (fun h => hb (h ▸ hD)) e⟩) (fun o h => hk _ o (fun h' => hno (.inl h'.symm)) h) (fun x a o hx h => hk a o (fun h' => hno (.inr ⟨x, h' ▸ hx, hBD⟩)) h) (fun b o hb h => hk b o (fun h' => by rw [h', hBD] at hb; cases hb) h) (fun b hb => ?_) X.homeH hg ho
  by_cases h : b = D
  · rw [h]; exact hl
  · obtain ⟨o, e⟩ := X.live b hb; exact ⟨o, hk b o h e⟩

/-- y.append(e) as a statement, y's list out of sight -/
theorem ex_append {y : Str} {py apos cpos pos : Pos} {e : Expr} {sc : Scope} {p : VP} {D : Addr} {ys : Array Value} {ps : List VP} {Q : Flow → Shared → Prop}
    (X : At c B H env ρ s) (hA : AC A n) (hsc : env.scope = sc) (hy : ρ.lookup y = some (pval (.ref D))) (hD : H D) (hBD : B.heap.get? D = none) (hys : s.heap.PlainList D ys) (hall : All2 (vw H s.heap) ps ys.toList) (hsz : ps.length ≤ 2 ^ 23)
    (he : Ev c n sc ρ e p) (hyd : (y == ("__debug__" : Str)) = false)
    (hbase : attributeBase (.Name y py) "append" env (eval (.Name y py) env) = eval (.Name y py) env)
    (hfew : ((backTo cpos (starEach [e] env)).all (fun x => !x.1) && (backToKw cpos (keywordEach [] env)).all (fun x => x.1.isSome) && decide (([e] : List Expr).length + ([] : List Keyword).length + (if ([] : List Keyword).isEmpty then 0 else 1) < 30)) = true)
    (hline : (apos.endLine == cpos.line) = true) (htrees : backTo cpos (starEach [e] env) = [(false, eval e env)]) (hi : interactive env = false) (hsw : swapsWith (.Call (.Attribute (.Name y py) "append" apos) [e] [] cpos) none pos.line env = pure false)
    (hQ : ∀ s' ys', At c B H env ρ s' → s'.heap.PlainList D ys' → All2 (vw H s'.heap) (ps ++ [p]) ys'.toList → Chg (fun b => b = D) s s' → (vw H s.heap).le (vw H s'.heap) → Q .next s') :
    wpAny c.M A (exec (.Expr (.Call (.Attribute (.Name y py) "append" apos) [e] [] cpos) pos) env) Q E s := by
  refine wpAny_Expr ?_ hi hsw
  refine wpAny_Call_append hbase hfew hline htrees (ev_name hy hyd A B H env s _ E hsc hA X fun v s₁ e₁ hv => ?_)
  obtain rfl := hv
  have hys₁ : s₁.heap.PlainList D ys := let ⟨k, h⟩ := hys; ⟨k, e₁.keep _ _ h⟩
  refine ⟨D, ys, rfl, let ⟨k, h⟩ := hys₁; ⟨_, k, h, rfl, rfl, rfl⟩, he A B H env s₁ _ E hsc hA (X.more e₁) fun u s₂ e₂ hu => ?_⟩
  have X₂ := (X.more e₁).more e₂
  have hys₂ : s₂.heap.PlainList D ys := let ⟨k, h⟩ := hys₁; ⟨k, e₂.keep _ _ h⟩
  have hl : ys.size ≤ sizeLine := by
    have := hall.length
    have e : ys.toList.length = ys.size := by simp
    rw [sizeLine_eq]; omega
  refine wpAny_list_append_plain (hsz := hl) hys₂ fun h' hl' hs' => ?_
  have hno := X₂.seq_notOwn hys₂
  have vle : (vw H s₂.heap).le (vw H h') := fun b o ⟨hb, e⟩ => ⟨hb, hs'.extBut b o (fun h => hb (h ▸ hD)) e⟩
  refine hQ _ _ (X₂.touch hD hBD hno (fun b o hb h => hs'.extBut b o hb h) (let ⟨_, h⟩ := hl'; ⟨_, h⟩) GE.rfl rfl) hl' ?_ (fun b o hb h => hs'.extBut b o hb (e₂.keep b o (e₁.keep b o h))) (((e₁.view H).trans (e₂.view H)).trans vle)
  rw [Array.toList_push]
  exact All2.append (hall.mono (((e₁.view H).trans (e₂.view H)).trans vle)) ⟨p.mono vle hu, trivial⟩
end
end Mine
namespace Mine
theorem fm1 {α β : Type} (f : α → β) : ∀ l : List α, l.flatMap (fun x => [f x]) = l.map f
  | [] => rfl
  | a :: l => by rw [List.flatMap_cons, fm1 f l]; rfl
end Mine
namespace Mine
theorem all2_ints {V V' : View} : ∀ {is : List Int} {vs : List Value}, All2 V (is.map pint) vs → All2 V' (is.map pint) vs
  | [], [], _ => trivial
  | _ :: _, _ :: _, h => ⟨h.1, all2_ints h.2⟩
  | [], _ :: _, h => h.elim
  | _ :: _, [], h => h.elim
end Mine
namespace Mine
section
variable {c : Cfg} {n : Nat} {sc : Scope} {B : Shared} {H : Addr → Prop} {env : Env} {ρ : List (Str × VP)} {s : Shared} {A : Around} {E : Value → Shared → Prop}
theorem Ts.go {e : Expr} {b : Bool} {Q : Bool → Shared → Prop} (h : Ts c n sc ρ e b) (hsc : env.scope = sc) (hA : AC A n) (X : At c B H env ρ s) (hQ : ∀ s', Ext s s' → Q b s') : wpAny c.M A (isTrue e env (eval e env)) Q E s := h A B H env s Q E hsc hA X hQ
theorem Ev.go {e : Expr} {p : VP} {Q : Value → Shared → Prop} (h : Ev c n sc ρ e p) (hsc : env.scope = sc) (hA : AC A n) (X : At c B H env ρ s) (hQ : ∀ v s', Ext s s' → p.is (vw H s'.heap) v → Q v s') : wpAny c.M A (eval e env) Q E s := h A B H env s Q E hsc hA X hQ
theorem At.quiet (X : At c B H env ρ s) : interactive env = false := by unfold interactive; rw [X.kind]; rfl
end
end Mine
end
section
open PySem PySem.W
set_option Elab.async false
namespace Mine
theorem intsAre {V : View} : ∀ {is : List Int} {vs : List Value}, All2 V (is.map pint) vs → PyProof.Rows.IntsAre vs is
  | [], [], _ => .nil
  | i :: is, v :: vs, h => by obtain ⟨⟨t, rfl⟩, h⟩ := h; exact .cons i t (intsAre h)
  | [], _ :: _, h => h.elim
  | _ :: _, [], h => h.elim

structure DictAt (c : Cfg) (o : Obj) (kvs : List (Int × Value)) : Prop where
  go : ∃ es ep, o.ExactDict ∧ o.data = .dict es ep ∧ KeysOf (intKind c.prog c.w) es ∧ Pairs (intKind c.prog c.w) es.toList kvs ∧ (kvs.map (·.1)).Nodup
theorem DictAt.dictOf {c : Cfg} {o : Obj} {kvs : List (Int × Value)} (x : DictAt c o kvs) {h : Heap} {a : Addr} (ho : h.get? a = some o) : h.DictOf (intKind c.prog c.w) a kvs :=
  let ⟨es, ep, r⟩ := x.go; ⟨o, es, ep, ho, r⟩
theorem dictAt {c : Cfg} {kvs : List (Int × Value)} {h : Heap} {a : Addr} (x : h.DictOf (intKind c.prog c.w) a kvs) : ∃ o, h.get? a = some o ∧ DictAt c o kvs := by
  obtain ⟨o, es, ep, ho, r⟩ := x; exact ⟨o, ho, ⟨⟨es, ep, r⟩⟩⟩
def pdict (c : Cfg) (kps : List (Int × VP)) : VP :=
  ⟨fun V v => ∃ (a : Addr) (o : Obj) (kvs : List (Int × Value)), v = .ref a ∧ V a o ∧ DictAt c o kvs ∧ (a == sysModules) = false ∧ kvs.map Prod.fst = kps.map Prod.fst ∧ All2 V (kps.map Prod.snd) (kvs.map Prod.snd),
   fun h ⟨a, o, kvs, e, x, d, y, y', z⟩ => ⟨a, o, kvs, e, h _ _ x, d, y, y', z.mono h⟩⟩
def pset (c : Cfg) (S : Int → Bool) : VP :=
  ⟨fun V v => ∃ a o n, v = .ref a ∧ V a o ∧ o.SetObjOf (intKind c.prog c.w) S n ∧ n < scanBound, fun h ⟨a, o, n, e, x, y⟩ => ⟨a, o, n, e, h _ _ x, y⟩⟩

section
variable {c : Cfg} {n : Nat} {sc : Scope} {ρ : List (Str × VP)}
theorem c_in_list {i : Int} {is : List Int} : Cmp c n .In (pint i) (plist (is.map pint)) (pbool (is.any (· == i))) := by
  intro A H s x y Q E _ _ _ ⟨t, e⟩ ⟨a, xs, m, e', hl, hx⟩ hQ; subst e; subst e'
  exact PyProof.Rows.in_list_ints (vs := xs.toList) (ns := is) (by simpa using vw_isList hl) (intsAre hx) (hQ _ _ .rfl rfl)
theorem c_notin_list {i : Int} {is : List Int} : Cmp c n .NotIn (pint i) (plist (is.map pint)) (pbool (!is.any (· == i))) := by
  intro A H s x y Q E _ _ _ ⟨t, e⟩ ⟨a, xs, m, e', hl, hx⟩ hQ; subst e; subst e'
  exact PyProof.Rows.notin_list_ints (vs := xs.toList) (ns := is) (by simpa using vw_isList hl) (intsAre hx) (hQ _ _ .rfl rfl)
theorem c_notin_tup {i : Int} {is : List Int} : Cmp c n .NotIn (pint i) (ptup (is.map pint)) (pbool (!is.any (· == i))) := by
  intro A H s x y Q E _ _ _ ⟨t, e⟩ ⟨a, o, xs, m, e', hl, hc, hd, hx⟩ hQ; subst e; subst e'
  exact PyProof.Rows.notin_tuple_ints (items := xs) (ns := is) ⟨o, hl.2, hc, m, hd⟩ (intsAre hx) (hQ _ _ .rfl rfl)
theorem c_in_set {i : Int} {S : Int → Bool} : Cmp c n .In (pint i) (pset c S) (pbool (S i)) := by
  intro A H s x y Q E _ _ _ ⟨t, e⟩ ⟨a, o, m, e', hl, hs, hb⟩ hQ; subst e; subst e'
  exact wpAny_inSet_of (knd := intKind c.prog c.w) (k := i) (intKind_is _ _ _ _) rfl (hs.setOf hl.2 hb) (hQ _ _ (.toks _) rfl)

theorem valueAt_none {kvs : List (Int × Value)} {k : Int} (h : k ∉ kvs.map (·.1)) : valueAt kvs k = none := by
  unfold valueAt
  have : kvs.find? (fun kv => decide (kv.1 = k)) = none := by
    rw [List.find?_eq_none]; intro kv hkv e
    exact h (List.mem_map.mpr ⟨kv, hkv, of_decide_eq_true e⟩)
  rw [this]; rfl
theorem valueAt_isSome {kvs : List (Int × Value)} {k : Int} : (valueAt kvs k).isSome = (kvs.map (·.1)).any (· == k) := by
  unfold valueAt
  induction kvs with
  | nil => rfl
  | cons kv kvs ih =>
    rw [List.find?_cons, List.map_cons, List.any_cons]
    by_cases h : kv.1 = k
    · simp [h]
    · simp only [h, decide_false, ih]
      have : (kv.1 == k) = false := by simpa using h
      rw [this, Bool.false_or]
theorem valueAt_of {V : View} {k : Int} {p : VP} : ∀ {kvs : List (Int × Value)} {kps : List (Int × VP)}, kvs.map Prod.fst = kps.map Prod.fst → All2 V (kps.map Prod.snd) (kvs.map Prod.snd) → kps.lookup k = some p → ∃ v, valueAt kvs k = some v ∧ p.is V v
  | [], [], _, _, h => by simp at h
  | (k', v) :: kvs, (k'', q) :: kps, e, a, h => by
    rw [List.map_cons, List.map_cons] at e
    injection e with e1 e2
    have e1 : k' = k'' := e1
    subst e1
    rw [List.lookup_cons] at h
    unfold valueAt
    rw [List.find?_cons]
    by_cases hk : k' = k
    · subst hk
      simp only [BEq.rfl] at h
      cases h
      simp only [decide_true]
      exact ⟨v, rfl, a.1⟩
    · have h1 : (k == k') = false := by simpa using fun h => hk h.symm
      rw [h1] at h
      simp only [hk, decide_false]
      exact valueAt_of e2 a.2 h
  | [], _ :: _, e, _, _ => by simp at e
  | _ :: _, [], e, _, _ => by simp at e
theorem gi_dict {kps : List (Int × VP)} {k : Int} {p : VP} (h : kps.lookup k = some p) : Gi c n (pdict c kps) (pint k) p := by
  intro A H s x y Q E hA G hH ⟨a, o, kvs, e, hl, hd, hs, hk, hx⟩ ⟨t, e'⟩ hQ
  subst e; subst e'
  obtain ⟨v, hv, hp⟩ := valueAt_of hk hx h
  have hm := (hd.dictOf hl.2)
  exact ⟨"dict", _, hm.typeIs, slot_dict_getitem.lookup, wpAny_getItem_of (knd := intKind c.prog c.w) (k := k) (intKind_is _ _ _ _) hm.mapOf hv (hQ v _ (.toks _) hp)⟩
theorem c_in_dict {kps : List (Int × VP)} {k : Int} : Cmp c n .In (pint k) (pdict c kps) (pbool ((kps.map Prod.fst).any (· == k))) := by
  intro A H s x y Q E _ _ _ ⟨t, e'⟩ ⟨a, o, kvs, e, hl, hd, hs, hk, hx⟩ hQ
  subst e; subst e'
  exact wpAny_in_of (knd := intKind c.prog c.w) (k := k) (intKind_is _ _ _ _) hs (hd.dictOf hl.2).mapOf (hQ _ _ (.toks _) (by rw [valueAt_isSome, hk]; rfl))
theorem c_notin_dict {kps : List (Int × VP)} {k : Int} : Cmp c n .NotIn (pint k) (pdict c kps) (pbool (!(kps.map Prod.fst).any (· == k))) := by
  intro A H s x y Q E _ _ _ ⟨t, e'⟩ ⟨a, o, kvs, e, hl, hd, hs, hk, hx⟩ hQ
  subst e; subst e'
  refine wpAny_notIn_of (knd := intKind c.prog c.w) (k := k) (intKind_is _ _ _ _) hs (hd.dictOf hl.2).mapOf (hQ _ _ (.toks _) (by rw [valueAt_isSome, hk]; rfl))

theorem range_getD (is : List Int) : (List.range is.length).map (fun i => is.getD i 0) = is := by
  apply List.ext_getElem
  · simp
  · intro i h1 h2
    simp [List.getD, h2]
theorem run_set_list {is : List Int} (hl : is.length < 1000) : Run c n (.type "set") [plist (is.map pint)] (pset c (fun k => is.any (· == k))) := by
  intro A H s vs Q E hA G hH hv hQ
  obtain ⟨v, rfl⟩ : ∃ v, vs = [v] := by
    cases vs with
    | nil => exact hv.elim
    | cons v r => cases r with | nil => exact ⟨v, rfl⟩ | cons _ _ => exact hv.2.elim
  obtain ⟨l, xs, m, e, hl', hxs⟩ := hv.1
  subst e
  have hlen : is.length = xs.size := by have := hxs.length; simpa using this
  refine PySem.call_set_list (ns := is) hA.handled (vw_isList hl') (intsAre hxs) (by unfold scanBound; omega) fun h' tk hS hk => ?_
  have e2 : Ext s { s with heap := h', toks := tk } := Ext.heap fun b o e => hk b o (Heap.lt_size e) e
  obtain ⟨o, ho, hso⟩ := hS.objOf
  refine hQ _ _ e2 ⟨_, o, (PyProof.Rows.firstMet (fun i => is.getD i 0) xs.size).length, rfl, ⟨fun h => Nat.lt_irrefl _ (hH.lt h), ho⟩, ?_, ?_⟩
  · have : (fun k => (PyProof.Rows.firstMet (fun i => is.getD i 0) xs.size).any (· == k)) = fun k => is.any (· == k) := by
      funext k
      rw [PyProof.Rows.firstMet_any, ← hlen]
      congr 1
      exact range_getD is
    exact this ▸ hso
  · have := PyProof.Rows.firstMet_length_le (fun i => is.getD i 0) is.length
    rw [hlen] at this
    have hb : (1000 : Nat) ≤ scanBound := by decide
    omega
end
end Mine
end
section
open PySem PySem.W
set_option Elab.async false
set_option maxRecDepth 100000
namespace Mine
def tab (led : Bool) (pl : Array Nat) : SetTable := { mask := 7, place := pl, dummies := #[], finger := 0, led := led, moves := 0, plain := true }
def SetExact (h : Heap) (S : Addr) (led : Bool) (es : Array (Int × Value)) (pl : Array Nat) : Prop :=
  ∃ o ep, h.get? S = some o ∧ o.ExactSet ∧ o.data = .set es ep (tab led pl)
theorem SetExact.at {h h' : Heap} {S : Addr} {led : Bool} {es : Array (Int × Value)} {pl : Array Nat} (x : SetExact h S led es pl) (hk : ∀ o, h.get? S = some o → h'.get? S = some o) : SetExact h' S led es pl :=
  let ⟨o, ep, ho, r⟩ := x; ⟨o, ep, hk o ho, r⟩

section
variable {prog : Program} {w : World} {A : Around} {E : Value → Shared → Prop} {s : Shared}
theorem putSet_exact {o : Obj} (hx : o.ExactSet) {es es' : Array (Int × Value)} {ep : Nat} {t t' : SetTable} (hd : o.data = .set es ep t) : (Obj.putSet es' t' o).ExactSet ∧ ∃ ep', (Obj.putSet es' t' o).data = .set es' ep' t' := by
  obtain ⟨c, d, dt, sl⟩ := o
  simp only at hd
  subst hd
  exact ⟨hx, _, rfl⟩
theorem exact_fits {led : Bool} {pl : Array Nat} {es : Array (Int × Value)} (hf : pl.size = es.size) (hs : es.size ≤ 5) : SetTable.fits (tab led pl) es.size = true := by
  show ((pl.size == es.size) && decide (pl.size + 0 ≤ 7)) = true
  rw [hf, beq_self_eq_true, Bool.true_and]
  exact decide_eq_true (by omega)
theorem add_new {a : Addr} {led : Bool} {es es1 : Array (Int × Value)} {pl pl1 : Array Nat} {k : Int} {tk : Tok} {Q : Bool → Shared → Prop} (hS : SetExact s.heap a led es pl)
    (hel : ElemsOf (intKind prog w) es.toList) (hf : pl.size = es.size) (hs : es.size ≤ 5) (hnew : es.toList.findIdx? (fun e => (intKind prog w).is k e.2) = none)
    (hl : layNew (tab led pl) es (hashInt k) (.int k tk) = (es1, (tab led pl1), false, false)) (hs1 : es1.size ≤ 5) (hp1 : pl1.size ≤ 4)
    (hQ : ∀ h', SetExact h' a led es1 pl1 → Heap.SameBut a s.heap h' → Q true { s with heap := h' }) :
    wpAny (model prog w) A (setAddHashed a (.int k tk) (hashInt k)) Q E s := by
  obtain ⟨o, ep, ho, hex, hd⟩ := hS
  have hfit := exact_fits (led := led) hf hs
  unfold setAddHashed setAddHashedIn
  refine wpAny_holding (wpAny_bind (wpAny_setState_of ho hd hfit ?_))
  dsimp only
  rw [byScan_of (knd := intKind prog w) rfl (by unfold scanBound; omega) hel]
  simp only [↓reduceIte]
  unfold setAddByScan
  refine wpAny_bind ?_
  refine wpAny_bind (wpAny_rule ?_)
  refine wpAny_bind (wpAny_setScan_of (knd := intKind prog w) (k := k) (intKind_is _ _ _ _) ho hd hfit hel ?_)
  rw [hnew]
  dsimp only
  rw [hl]
  dsimp only
  refine wpAny_bind (wpAny_pure ?_)
  have hpl : SetTable.plain (tab led pl1) = true := rfl
  have htf : SetTable.tooFull (tab led pl1) = false := by
    show decide ((pl1.size + 0) * 5 ≥ 7 * 3) = false
    exact decide_eq_false (by omega)
  rw [if_pos hpl, hashByValue_scannable 8 (x := .int k tk) rfl]
  refine wpAny_bind (wpAny_pure ?_)
  rw [show plainKind (Value.int k tk) = true from rfl]
  simp only [↓reduceIte]
  refine wpAny_bind (wpAny_storeSet_of ho hd ?_ (by rw [sizeLine_eq]; omega))
  rw [htf]
  simp only [Bool.and_false, Bool.false_eq_true, ↓reduceIte]
  obtain ⟨hx', ep', hd'⟩ := putSet_exact hex (es' := es1) (t' := (tab led pl1)) hd
  refine wpAny_pure ?_
  exact wpAny_pure (hQ _ ⟨_, ep', Heap.get?_update_self _ ho (by rw [putSet_of _ _ hd]; rfl), hx', hd'⟩ (Heap.SameBut.update ..))
theorem add_old {a : Addr} {led : Bool} {es : Array (Int × Value)} {pl : Array Nat} {k : Int} {tk : Tok} {j : Nat} {Q : Bool → Shared → Prop} (hS : SetExact s.heap a led es pl)
    (hel : ElemsOf (intKind prog w) es.toList) (hf : pl.size = es.size) (hs : es.size ≤ 5) (hold : es.toList.findIdx? (fun e => (intKind prog w).is k e.2) = some j)
    (hQ : Q false s) :
    wpAny (model prog w) A (setAddHashed a (.int k tk) (hashInt k)) Q E s := by
  obtain ⟨o, ep, ho, hex, hd⟩ := hS
  have hfit := exact_fits (led := led) hf hs
  unfold setAddHashed setAddHashedIn
  refine wpAny_holding (wpAny_bind (wpAny_setState_of ho hd hfit ?_))
  dsimp only
  rw [byScan_of (knd := intKind prog w) rfl (by unfold scanBound; omega) hel]
  simp only [↓reduceIte]
  unfold setAddByScan
  refine wpAny_bind ?_
  refine wpAny_bind (wpAny_rule ?_)
  refine wpAny_bind (wpAny_setScan_of (knd := intKind prog w) (k := k) (intKind_is _ _ _ _) ho hd hfit hel ?_)
  rw [hold]
  dsimp only
  exact wpAny_pure (wpAny_pure hQ)

/-- the places of [0], of [0, k] -/
def esOf (k : Nat) (t t' : Tok) : Array (Int × Value) := if k = 0 then #[(0, .int 0 t)] else #[(0, .int 0 t), ((k : Int), .int k t')]
def plOf (k : Nat) : Array Nat := if k = 0 then #[0] else #[0, k]
theorem lay_k {led : Bool} {t tk : Tok} {k : Nat} (h0 : k ≠ 0) (hk : k < 6) : layNew (tab led #[0]) #[(0, .int 0 t)] (hashInt (k : Nat)) (.int (k : Nat) tk) = (#[(0, .int 0 t), ((k : Int), .int (k : Nat) tk)], tab led #[0, k], false, false) := by
  have hf : (tab led #[0]).freeSlot (hashInt (k : Nat)) = some (k, false) := by
    rcases k with _ | _ | _ | _ | _ | _ | k
    · exact absurd rfl h0
    all_goals first | (cases led <;> rfl) | omega
  have hh : hashInt (k : Nat) = (k : Int) := by
    rcases k with _ | _ | _ | _ | _ | _ | k
    all_goals first | rfl | omega
  have hb : SetTable.below #[0] k = 1 := by
    rcases k with _ | _ | _ | _ | _ | _ | k
    · exact absurd rfl h0
    all_goals first | rfl | omega
  unfold layNew
  rw [hf, hh]
  have hp : (tab led #[0]).put k = (tab led #[0, k], 1) := by
    unfold SetTable.put
    show (({ mask := 7, place := SetTable.insertAt #[0] (SetTable.below #[0] k) k, dummies := _, finger := 0, led := led, moves := 0, plain := true } : SetTable), SetTable.below #[0] k) = _
    rw [hb]
    rfl
  simp only [hp]
  have hi : SetTable.insertAt #[((0 : Int), Value.int 0 t)] 1 ((k : Int), .int (k : Nat) tk) = #[(0, .int 0 t), ((k : Int), .int (k : Nat) tk)] := rfl
  rw [hi]
  rfl
theorem add0 {a : Addr} {led : Bool} {tk : Tok} {Q : Bool → Shared → Prop} (hS : SetExact s.heap a led #[] #[]) (hQ : ∀ h', SetExact h' a led #[(0, .int 0 tk)] #[0] → Heap.SameBut a s.heap h' → Q true { s with heap := h' }) :
    wpAny (model prog w) A (setAddHashed a (.int 0 tk) (hashInt 0)) Q E s :=
  add_new (es1 := #[(0, .int 0 tk)]) (pl1 := #[0]) hS (fun e he => by simp at he) rfl (by simp) rfl rfl (by simp) (by simp) hQ
theorem elems1 {tk : Tok} : ElemsOf (intKind prog w) (#[((0 : Int), Value.int 0 tk)] : Array (Int × Value)).toList := fun e he => by
  simp at he; subst he; exact ⟨⟨0, intKind_is _ _ _ _, rfl⟩, rfl⟩
theorem addk {a : Addr} {led : Bool} {t tk : Tok} {k : Nat} {Q : Bool → Shared → Prop} (hk : k < 6) (hS : SetExact s.heap a led #[(0, .int 0 t)] #[0])
    (hQ : ∀ b h', SetExact h' a led (esOf k t tk) (plOf k) → Heap.SameBut a s.heap h' → Q b { s with heap := h' }) :
    wpAny (model prog w) A (setAddHashed a (.int (k : Nat) tk) (hashInt (k : Nat))) Q E s := by
  rcases k with _ | _ | _ | _ | _ | _ | k
  · exact add_old hS elems1 rfl (by simp) (j := 0) rfl (hQ _ s.heap hS (Heap.SameBut.refl ..))
  · exact add_new (es1 := #[(0, .int 0 t), (1, .int 1 tk)]) (pl1 := #[0, 1]) hS elems1 rfl (by simp) rfl (lay_k (k := 1) (by decide) (by decide)) (by simp) (by simp) (hQ true)
  · exact add_new (es1 := #[(0, .int 0 t), (2, .int 2 tk)]) (pl1 := #[0, 2]) hS elems1 rfl (by simp) rfl (lay_k (k := 2) (by decide) (by decide)) (by simp) (by simp) (hQ true)
  · exact add_new (es1 := #[(0, .int 0 t), (3, .int 3 tk)]) (pl1 := #[0, 3]) hS elems1 rfl (by simp) rfl (lay_k (k := 3) (by decide) (by decide)) (by simp) (by simp) (hQ true)
  · exact add_new (es1 := #[(0, .int 0 t), (4, .int 4 tk)]) (pl1 := #[0, 4]) hS elems1 rfl (by simp) rfl (lay_k (k := 4) (by decide) (by decide)) (by simp) (by simp) (hQ true)
  · exact add_new (es1 := #[(0, .int 0 t), (5, .int 5 tk)]) (pl1 := #[0, 5]) hS elems1 rfl (by simp) rfl (lay_k (k := 5) (by decide) (by decide)) (by simp) (by simp) (hQ true)
  · omega
end
end Mine
end
section
open PySem PySem.W
set_option Elab.async false
set_option maxRecDepth 100000
namespace Mine
/-- whether a set's places are known -/
def ledOf (w : World) : Bool := !w.params.followText "set-order"
section
variable {prog : Program} {w : World} {A : Around} {E : Value → Shared → Prop} {s : Shared}

theorem code_set_new (a : Value) {Q₁ : Value → Shared → Prop}
    (h : Q₁ (.ref s.heap.objs.size) { s with heap := s.heap.push { cls := .type "set", dict := none, data := .set #[] 0 (tab (ledOf w) #[]) } }) :
    codeAny (model prog w) A (.call (.builtin "set.__new__") ⟨[.type "set", a], []⟩) (wants Q₁ E) s := by
  refine codeAny_of_tree ?_
  show wpAny _ A.in1 (do checkBuiltinCall "set.__new__" ⟨[.type "set", a], []⟩; again (.builtin "set.__new__" ⟨[.type "set", a], []⟩)) _ _ s
  refine wpAny_bind (wpAny_of_eq (F.newCall_set_1 a) (wpAny_pure ⟨plainId_quiet F.plain_set_new _, codeAny_builtin F.entry_set_new ?_⟩))
  rw [Around.under_plainId F.plain_set_new _]
  unfold Builtin.«set.__new__» Builtin.Frozenset.newClass
  have hsub := sub_set_self
  obtain ⟨hp, g, d, tk, os⟩ := s
  dsimp only
  wp_walk
  refine wpAny_askSetting (wpAny_pure ?_)
  dsimp only
  simp only [newObj]
  refine wpAny_bind (wpAny_alloc (wpAny_pure ?_))
  exact wpAny_pure h

theorem set_loop {I S l : Addr} {items : Array Value} {t0 tk : Tok} {k : Nat} {R : Result → Shared → Prop} (hk : k < 6) (hh : A.handled = none) (hit : items = #[.int 0 t0, .int (k : Nat) tk])
    (h1 : s.heap.IsListIter I l 0) (h2 : s.heap.IsList l items) (h3 : SetExact s.heap S (ledOf w) #[] #[]) (hlI : l ≠ I) (hSI : S ≠ I) (hSl : S ≠ l)
    (hR : ∀ (h' : Heap) (n : Tok), SetExact h' S (ledOf w) (esOf k t0 tk) (plOf k) → (∀ b o, b ≠ S → b ≠ I → s.heap.get? b = some o → h'.get? b = some o) → R (.ok (.ret .none)) { s with heap := h', toks := n }) :
    codeAny (model prog w) A (.builtin "set.update.loop" ⟨[.ref S, .ref I], []⟩) R s := by
  subst hit
  have hh' : A.in1.handled = none := hh
  refine codeAny_builtin PyProof.Rows.F.entry_set_update_loop ?_
  rw [Around.under_plainId PyProof.Rows.F.plain_set_update_loop _]
  show wpAny _ A.in1 (pyNext (.ref I) >>= _) _ _ s
  refine wpAny_bind (wpAny_pyNext_list_item h1 h2 (x := .int 0 t0) rfl fun h₁ i₁ b₁ => ?_)
  have l₁ := h2.extBut b₁.extBut hlI
  have s₁ : SetExact h₁ S (ledOf w) #[] #[] := h3.at fun o e => b₁.extBut S o hSI e
  show wpAny _ A.in1 (holding [Value.int 0 t0] (setAdd S (.int 0 t0)) >>= _) _ _ _
  refine wpAny_bind (wpAny_holding ?_)
  unfold setAdd
  refine wpAny_holding ?_
  refine wpAny_bind ((intKind prog w).pyHash (k := 0) (intKind_is _ _ _ _) ?_)
  refine add0 (s := { s with heap := h₁, toks := s.toks + 1 }) s₁ fun h₂ s₂ b₂ => ?_
  have i₂ : h₂.IsListIter I l 1 := i₁.at fun o e => b₂.extBut I o (Ne.symm hSI) e
  have l₂ := l₁.extBut b₂.extBut (Ne.symm hSl)
  refine wpAny_pure ⟨plainId_quiet PyProof.Rows.F.plain_set_update_loop _, ?_⟩
  refine codeAny_builtin PyProof.Rows.F.entry_set_update_loop ?_
  rw [Around.under_plainId PyProof.Rows.F.plain_set_update_loop _]
  show wpAny _ A.in1 (pyNext (.ref I) >>= _) _ _ { s with heap := h₂, toks := s.toks + 1 }
  refine wpAny_bind (wpAny_pyNext_list_item (s := { s with heap := h₂, toks := s.toks + 1 }) i₂ l₂ (x := .int (k : Nat) tk) rfl fun h₃ i₃ b₃ => ?_)
  have l₃ := l₂.extBut b₃.extBut hlI
  have s₃ : SetExact h₃ S (ledOf w) _ _ := s₂.at fun o e => b₃.extBut S o hSI e
  show wpAny _ A.in1 (holding [Value.int (k : Nat) tk] (setAdd S (.int (k : Nat) tk)) >>= _) _ _ _
  refine wpAny_bind (wpAny_holding ?_)
  unfold setAdd
  refine wpAny_holding ?_
  refine wpAny_bind ((intKind prog w).pyHash (k := (k : Int)) (intKind_is _ _ _ _) ?_)
  refine addk (s := { s with heap := h₃, toks := s.toks + 1 + 1 }) hk s₃ fun b h₄ s₄ b₄ => ?_
  have i₄ : h₄.IsListIter I l 2 := i₃.at fun o e => b₄.extBut I o (Ne.symm hSI) e
  have l₄ := l₃.extBut b₄.extBut (Ne.symm hSl)
  refine wpAny_pure ⟨plainId_quiet PyProof.Rows.F.plain_set_update_loop _, ?_⟩
  refine codeAny_builtin PyProof.Rows.F.entry_set_update_loop ?_
  rw [Around.under_plainId PyProof.Rows.F.plain_set_update_loop _]
  show wpAny _ A.in1 (pyNext (.ref I) >>= _) _ _ { s with heap := h₄, toks := s.toks + 1 + 1 }
  refine wpAny_bind (wpAny_pyNext_list_end (s := { s with heap := h₄, toks := s.toks + 1 + 1 }) hh' i₄ l₄ rfl fun h₅ b₅ => ?_)
  show wpAny _ A.in1 (ret Value.none) _ _ _
  refine wpAny_pure (hR h₅ _ (s₄.at fun o e => b₅ S o hSI e) fun b o hbS hbI e => ?_)
  exact b₅ b o hbI (b₄.extBut b o hbS (b₃.extBut b o hbI (b₂.extBut b o hbS (b₁.extBut b o hbI e))))

set_option maxHeartbeats 3200000 in
theorem call_set_0k {l : Addr} {items : Array Value} {t0 tk : Tok} {k : Nat} {Q : Value → Shared → Prop} (hk : k < 6)
    (hh : A.handled = none) (hl : s.heap.IsList l items) (hi : items = #[.int 0 t0, .int (k : Nat) tk])
    (h : ∀ (h' : Heap) (n : Nat), SetExact h' s.heap.objs.size (ledOf w) (esOf k t0 tk) (plOf k) →
      (∀ b o, b < s.heap.objs.size → s.heap.get? b = some o → h'.get? b = some o) → Q (.ref s.heap.objs.size) { s with heap := h', toks := n }) :
    wpAny (model prog w) A (call (.type "set") [.ref l]) Q E s := by
  obtain ⟨c, tl, hmro⟩ := PySem.F.called_set.mro
  have hmade := PySem.F.called_set.made
  have hsub := PySem.F.called_set.sub
  refine wpAny_call (codeAny_of_tree ?_)
  show wpAny _ _ (callAny (.type "set") _) _ _ _
  refine wpAny_pure ⟨Code.quiet_builtin _ (by decide +kernel), codeAny_builtin PySem.F.entry_type_call ?_⟩
  rw [Around.under_plain (weight_type_call_type "set" [.ref l] []) rfl]
  have h1 := PySem.F.called_set.notType
  have h2 := PySem.F.called_set.canCreate
  have hct := PySem.F.typeCall_set_1 (.ref l)
  repeat (any_goals (first | assumption | wp_step))
  refine codeAny_mono (code_set_new (.ref l) (E := E) (Q₁ := fun obj s₁ => obj = .ref s.heap.objs.size ∧ s₁ = { s with heap := s.heap.push { cls := .type "set", dict := none, data := .set #[] 0 (tab (ledOf w) #[]) } }) ⟨rfl, rfl⟩) fun r s₁ hr => ?_
  cases r with
  | error e => exact hr
  | ok fl =>
    cases fl with
    | ret obj =>
      obtain ⟨rfl, rfl⟩ := hr
      have hS : (s.heap.push { cls := .type "set", dict := none, data := .set #[] 0 (tab (ledOf w) #[]) }).get? s.heap.objs.size = some { cls := .type "set", dict := none, data := .set #[] 0 (tab (ledOf w) #[]) } := Heap.get?_push_size _ rfl
      have hT : Shared.TypeIs { s with heap := s.heap.push { cls := .type "set", dict := none, data := .set #[] 0 (tab (ledOf w) #[]) } } (.ref s.heap.objs.size) "set" := ⟨_, hS, rfl⟩
      have hli := PySem.F.called_set.init.lookup
      have hbi := PySem.F.called_set.init.bind (.ref s.heap.objs.size)
      repeat (any_goals (first | assumption | wp_step))
      refine codeAny_mono (codeAny_call_builtin (R := wants (fun r s₂ => r = .none ∧ ∃ h' n, s₂ = { s with heap := h', toks := n } ∧
          SetExact h' s.heap.objs.size (ledOf w) (esOf k t0 tk) (plOf k) ∧
          (∀ b o, b < s.heap.objs.size → s.heap.get? b = some o → h'.get? b = some o)) E) PySem.F.called_set.init.plain PySem.F.entry_set_init (check_set_init_1 hT ?_)) fun r₂ s₂ hr₂ => ?_
      · obtain ⟨ol, hol, hcl, nl, hdl⟩ := hl
        obtain ⟨ocls, odict, odata, oslots⟩ := ol
        simp only at hcl hdl
        subst hcl; subst hdl
        have hol' : (s.heap.push { cls := .type "set", dict := none, data := .set #[] 0 (tab (ledOf w) #[]) }).get? l = some { cls := .type "list", dict := odict, data := .seq items nl, slots := oslots } := Heap.get?_push_of_some _ hol
        have hsls := PySem.F.sub_list_set
        have hslf := PySem.F.sub_list_frozenset
        have hne : (Value.type "list" == Value.type "dict") = false := by decide
        have hl1 : (s.heap.push { cls := .type "set", dict := none, data := .set #[] 0 (tab (ledOf w) #[]) }).IsList l items := ⟨_, hol', rfl, nl, rfl⟩
        unfold Builtin.«set.__init__» noKeywords Builtin.Frozenset.updateFrom
        generalize hPI : pyIter = PI
        wp_walk
        subst hPI
        refine wpAny_pyIter_list hl1 ?_
        refine wpAny_bind (wpAny_runValue ?_)
        have hlS : l < s.heap.objs.size := Heap.lt_size hol
        have hh3 : A.in1.in1.in1.handled = none := by simp [hh]
        have hneI : l ≠ (s.heap.push { cls := .type "set", dict := none, data := .set #[] 0 (tab (ledOf w) #[]) }).objs.size := by
          rw [Heap.size_push]; exact Nat.ne_of_lt (Nat.lt_succ_of_lt hlS)
        have hSI : s.heap.objs.size ≠ (s.heap.push { cls := .type "set", dict := none, data := .set #[] 0 (tab (ledOf w) #[]) }).objs.size := by
          rw [Heap.size_push]; exact Nat.ne_of_lt (Nat.lt_succ_self _)
        refine set_loop hk (by simp [hh]) hi ⟨_, Heap.get?_push_size _ rfl, rfl, rfl⟩ (hl1.push _) ⟨_, 0, Heap.get?_push_of_some _ hS, ⟨rfl, rfl, rfl⟩, rfl⟩ hneI hSI (Nat.ne_of_gt hlS) fun h' n hS' hk' => ?_
        show wpAny _ _ _ _ _ _
        refine wpAny_pure ?_
        show wpAny _ _ (ret Value.none) _ _ _
        refine wpAny_pure ⟨rfl, h', n, rfl, hS', fun b o hb e => ?_⟩
        refine hk' b o (Nat.ne_of_lt hb) ?_ (Heap.get?_push_of_some _ (Heap.get?_push_of_some _ e))
        rw [Heap.size_push]; exact Nat.ne_of_lt (Nat.lt_succ_of_lt hb)
      · cases r₂ with
        | error e => exact hr₂
        | ok fl₂ =>
          cases fl₂ with
          | ret r =>
            obtain ⟨rfl, h', n, rfl, hS', hk'⟩ := hr₂
            repeat (any_goals (first | assumption | wp_step))
            exact h _ _ hS' hk'
          | _ => exact hr₂.elim
    | _ => exact hr.elim
end
end Mine
end
section
open PySem PySem.W
set_option Elab.async false
set_option maxRecDepth 100000
namespace Mine
theorem slot_setiter_next : Slot "set_iterator" "__next__" "set_iterator.__next__" :=
  .of (owner := "set_iterator") (n := "__next__") (by rw [typeLookup_type, builtinLookup_eq_fast]; kernel_rfl) (by decide +kernel) (by decide +kernel) (by decide +kernel)
    (by first | exact .inl (by decide +kernel) | exact .inr (by decide +kernel)) (by rw [isSubtype_type]; kernel_rfl)
theorem entry_setiter_next : entryFor table "set_iterator.__next__" = some Builtin.«set_iterator.__next__» := entryFor_of_tree (by kernel_rfl)
theorem args_setiter_next (a : Value) : argsOk "set_iterator.__next__" ⟨[a], []⟩ := by unfold argsOk; kernel_rfl
theorem entry_set_iter : entryFor table "set.__iter__" = some Builtin.«frozenset.__iter__» :=
  entryFor_alias (id' := "frozenset.__iter__") (by kernel_rfl) rfl (by decide +kernel) (by kernel_rfl)
def SetNow (w : World) (h : Heap) (S : Addr) (k : Nat) (t0 tk : Tok) (ep : Nat) : Prop := ∃ o, h.get? S = some o ∧ o.ExactSet ∧ o.data = .set (esOf k t0 tk) ep (tab (ledOf w) (plOf k))

theorem es_size (k : Nat) (t0 tk : Tok) : (plOf k).size = (esOf k t0 tk).size ∧ (esOf k t0 tk).size ≤ 5 ∧ (esOf k t0 tk).size = if k = 0 then 1 else 2 := by
  unfold plOf esOf; split <;> simp
theorem pick1 {α : Type} (f : Nat → Nat) (a : α) : pickOrder f #[a] = #[a] := by
  show pickOrder.go f 1 0 [a] #[] = _
  unfold pickOrder.go
  have h : f 0 % [a].length = 0 := by simp [Nat.mod_one]
  rw [h]
  rfl
theorem pick2 {α : Type} (f : Nat → Nat) (a b : α) : pickOrder f #[a, b] = #[a, b] ∨ pickOrder f #[a, b] = #[b, a] := by
  show pickOrder.go f 2 0 [a, b] #[] = _ ∨ pickOrder.go f 2 0 [a, b] #[] = _
  unfold pickOrder.go
  have h : f 0 % [a, b].length = 0 ∨ f 0 % [a, b].length = 1 := by
    have : f 0 % 2 < 2 := Nat.mod_lt _ (by decide)
    show f 0 % 2 = 0 ∨ f 0 % 2 = 1
    omega
  have h1 : ∀ x : α, f 1 % [x].length = 0 := fun x => by simp [Nat.mod_one]
  rcases h with h | h
  · rw [h]
    left
    show pickOrder.go f 1 1 [b] #[a] = _
    unfold pickOrder.go
    rw [h1]; rfl
  · rw [h]
    right
    show pickOrder.go f 1 1 [a] #[b] = _
    unfold pickOrder.go
    rw [h1]; rfl
theorem pick_perm (f : Nat → Nat) (k : Nat) (t0 tk : Tok) : (pickOrder f (esOf k t0 tk)).toList.Perm (esOf k t0 tk).toList := by
  unfold esOf
  split
  · rw [pick1]
  · rcases pick2 f ((0 : Int), Value.int 0 t0) ((k : Int), .int (k : Nat) tk) with h | h
    · rw [h]
    · rw [h]; exact List.Perm.swap _ _ _
def slOf (k : Nat) : Nat → Nat
  | 0 => 0
  | 1 => 1
  | _ => k + 1
section
variable {prog : Program} {w : World}
theorem setNext_at {S ep k : Nat} {t0 tk : Tok} (hk : k < 6) : ∃ (ord : List Value) (sl : Nat → Nat), ord.Perm ((esOf k t0 tk).toList.map (·.2)) ∧ sl 0 = 0 ∧
    ∀ (i : Nat), i ≤ ord.length → ∀ (A : Around) (s : Shared) (Q : Option (Value × Nat) → Shared → Prop) (E : Value → Shared → Prop), SetNow w s.heap S k t0 tk ep →
      Q ((ord[i]?).map fun v => (v, sl (i + 1))) s → wpAny (model prog w) A (setNext S (sl i) i ep) Q E s := by
  obtain ⟨z1, z2, z3⟩ := es_size k t0 tk
  cases hb : w.params.followText "set-order" with
  | true =>
    refine ⟨(pickOrder (w.params.setOrder S ep) (esOf k t0 tk)).toList.map (·.2), fun _ => 0, (pick_perm _ k t0 tk).map _, rfl, fun i _ A s Q E ⟨o, ho, hx, hd⟩ hQ => ?_⟩
    have hfit := exact_fits (led := ledOf w) z1 z2
    unfold setNext
    refine wpAny_bind (wpAny_setState_of ho hd hfit ?_)
    dsimp only
    unfold setsByText
    refine wpAny_bind (wpAny_bind (wpAny_askSetting (wpAny_pure ?_)))
    dsimp only
    rw [if_pos (show (model prog w).w.params.followText "set-order" = true from hb)]
    rw [if_neg (by simp)]
    refine wpAny_bind ?_
    unfold setWalk
    refine wpAny_bind (wpAny_setState_of ho hd hfit ?_)
    dsimp only
    unfold setsByText
    refine wpAny_bind (wpAny_bind (wpAny_askSetting (wpAny_pure ?_)))
    dsimp only
    rw [if_pos (show (model prog w).w.params.followText "set-order" = true from hb)]
    refine wpAny_bind (wpAny_askSetting (wpAny_pure (wpAny_pure ?_)))
    rw [List.getElem?_map, Option.map_map, ← Array.getElem?_toList] at *
    exact hQ
  | false =>
    have hled : ledOf w = true := by unfold ledOf; rw [hb]; rfl
    refine ⟨(esOf k t0 tk).toList.map (·.2), slOf k, List.Perm.refl _, rfl, fun i hi A s Q E ⟨o, ho, hx, hd⟩ hQ => ?_⟩
    have hfit := exact_fits (led := ledOf w) z1 z2
    have hlen : ((esOf k t0 tk).toList.map (·.2)).length = (esOf k t0 tk).size := by simp
    rw [hlen, z3] at hi
    unfold setNext
    refine wpAny_bind (wpAny_setState_of ho hd hfit ?_)
    dsimp only
    unfold setsByText
    refine wpAny_bind (wpAny_bind (wpAny_askSetting (wpAny_pure ?_)))
    dsimp only
    rw [if_neg (show ¬ (model prog w).w.params.followText "set-order" = true from fun h => by rw [show (model prog w).w = w from rfl, hb] at h; cases h)]
    split
    · rename_i h
      exact absurd (show (!true && _) = true from h) (by simp)
    refine wpAny_bind (wpAny_of_eq (a := ()) (by
      rw [hled]
      rfl) ?_)
    refine wpAny_pure ?_
    refine Eq.mpr (congrArg (fun r => Q r s) ?_) hQ
    show _ = ((((esOf k t0 tk).toList.map (·.2))[i]?).map fun v => (v, slOf k (i + 1)))
    have hbl : SetTable.below (tab (ledOf w) (plOf k)).place (slOf k i) = i := by
      show SetTable.below (plOf k) (slOf k i) = i
      rcases k with _ | k
      · have : i = 0 ∨ i = 1 := by simp at hi; omega
        rcases this with rfl | rfl <;> rfl
      · have : i = 0 ∨ i = 1 ∨ i = 2 := by simp at hi; omega
        rcases this with rfl | rfl | rfl
        all_goals
          rcases k with _ | _ | _ | _ | _ | k
          all_goals first | rfl | omega
    rw [hbl]
    show (match (esOf k t0 tk)[i]?, (plOf k)[i]? with
        | some (_, x), some j => some (x, j + 1)
        | _, _ => none) = _
    rcases k with _ | k
    · have : i = 0 ∨ i = 1 := by simp at hi; omega
      rcases this with rfl | rfl <;> rfl
    · have : i = 0 ∨ i = 1 ∨ i = 2 := by simp at hi; omega
      have e1 : esOf (k + 1) t0 tk = #[(0, .int 0 t0), (((k + 1 : Nat) : Int), .int ((k + 1 : Nat) : Int) tk)] := rfl
      have e2 : plOf (k + 1) = #[0, k + 1] := rfl
      rw [e1, e2]
      rcases this with rfl | rfl | rfl <;> rfl

/-- an iterator over that set -/
def SetIt (h : Heap) (I S : Addr) (i sl n ep : Nat) : Prop := ∃ o, h.get? I = some o ∧ o.cls = .type "set_iterator" ∧ o.data = .fields #[.int (sl : Nat) 0, .int (i : Nat) 0, .ref S, .int (n : Nat) 0, .int (ep : Nat) 0]

theorem setIter_next {A : Around} {s : Shared} {Q : Option Value → Shared → Prop} {E : Value → Shared → Prop} {I S i sl sl' n ep k : Nat} {t0 tk : Tok} {x : Value} (hn : n = (esOf k t0 tk).size) (hI : SetIt s.heap I S i sl n ep) (hS : SetNow w s.heap S k t0 tk ep)
    (hnext : ∀ (A : Around) (s : Shared) (Q : Option (Value × Nat) → Shared → Prop) (E : Value → Shared → Prop), SetNow w s.heap S k t0 tk ep → Q (some (x, sl')) s → wpAny (model prog w) A (setNext S sl i ep) Q E s)
    (hQ : ∀ h', SetIt h' I S (i + 1) sl' n ep → Heap.SameBut I s.heap h' → Q (some x) { s with heap := h' }) : wpAny (model prog w) A (pyNext (.ref I)) Q E s := by
  obtain ⟨o, ho, hc, hd⟩ := id hI
  obtain ⟨z1, z2, z3⟩ := es_size k t0 tk
  have hfit := exact_fits (led := ledOf w) z1 z2
  have hT : s.TypeIs (.ref I) "set_iterator" := ⟨o, ho, hc⟩
  unfold pyNext
  refine wpAny_bind (wpAny_attempt (wpAny_callSpecial?_slot (name := Str.ofString "__next__") hT slot_setiter_next
    (wpAny_call_entry slot_setiter_next hT entry_setiter_next ?_ (args_setiter_next _))))
  unfold Builtin.«set_iterator.__next__»
  refine wpAny_bind (m := slotArgs "__next__" 0 _) (wpAny_of_eq rfl ?_)
  dsimp only
  refine wpAny_bind (wpAny_fieldsOf ho hd ?_)
  dsimp only
  obtain ⟨oS, hoS, hxS, hdS⟩ := id hS
  refine wpAny_bind ?_
  unfold setEntries
  refine wpAny_bind (wpAny_setState_of hoS hdS hfit (wpAny_pure ?_))
  dsimp only
  rw [hn]
  split
  · rename_i h; simp at h
  refine wpAny_bind ?_
  refine hnext _ _ _ _ hS ?_
  dsimp only
  have ho2 := Heap.get?_update_self (Obj.mapFields (·.setIfInBounds 0 (rawInt (sl' : Nat)))) ho (Obj.isFreed_of_fields (Obj.data_mapFields hd _))
  refine wpAny_bind (wpAny_setField ho hd (by simp) ?_)
  refine wpAny_bind (wpAny_setField ho2 (Obj.data_mapFields hd _) (by simp) ?_)
  refine wpAny_pure ⟨x, rfl, wpAny_pure (hQ _ ⟨_, Heap.get?_update_self _ ho2 (Obj.isFreed_of_fields (Obj.data_mapFields (Obj.data_mapFields hd _) _)), ?_, ?_⟩ ?_)⟩
  · rw [Obj.cls_mapFields, Obj.cls_mapFields]; exact hc
  · rw [Obj.data_mapFields (Obj.data_mapFields hd _)]; simp [rawInt, hn]
  · exact (Heap.SameBut.update ..).trans (Heap.SameBut.update ..)
end
end Mine
end
section
open PySem PySem.W
set_option Elab.async false
set_option maxRecDepth 100000
namespace Mine
theorem slot_setiter_iter : Slot "set_iterator" "__iter__" "set_iterator.__iter__" :=
  .of (owner := "set_iterator") (n := "__iter__") (by rw [typeLookup_type, builtinLookup_eq_fast]; kernel_rfl) (by decide +kernel) (by decide +kernel) (by decide +kernel)
    (by first | exact .inl (by decide +kernel) | exact .inr (by decide +kernel)) (by rw [isSubtype_type]; kernel_rfl)
theorem entry_setiter_iter : entryFor table "set_iterator.__iter__" = some Builtin.«dict_keyiterator.__iter__» :=
  entryFor_alias (id' := "dict_keyiterator.__iter__") (by kernel_rfl) rfl (by decide +kernel) (by kernel_rfl)
theorem args_setiter_iter (a : Value) : argsOk "set_iterator.__iter__" ⟨[a], []⟩ := by unfold argsOk; kernel_rfl
theorem SetNow.at {w : World} {h h' : Heap} {S k ep : Nat} {t0 tk : Tok} (x : SetNow w h S k t0 tk ep) (hk : ∀ o, h.get? S = some o → h'.get? S = some o) : SetNow w h' S k t0 tk ep := let ⟨o, ho, r⟩ := x; ⟨o, hk o ho, r⟩
theorem SetIt.at {h h' : Heap} {I S i sl n ep : Nat} (x : SetIt h I S i sl n ep) (hk : ∀ o, h.get? I = some o → h'.get? I = some o) : SetIt h' I S i sl n ep := let ⟨o, ho, r⟩ := x; ⟨o, hk o ho, r⟩
section
variable {prog : Program} {w : World} {A : Around} {s : Shared} {E : Value → Shared → Prop}
theorem setIter_done {Q : Option Value → Shared → Prop} {I S i sl n ep k : Nat} {t0 tk : Tok} (hh : A.handled = none) (hn : n = (esOf k t0 tk).size) (hI : SetIt s.heap I S i sl n ep) (hS : SetNow w s.heap S k t0 tk ep)
    (hnext : ∀ (A : Around) (s : Shared) (Q : Option (Value × Nat) → Shared → Prop) (E : Value → Shared → Prop), SetNow w s.heap S k t0 tk ep → Q none s → wpAny (model prog w) A (setNext S sl i ep) Q E s)
    (hQ : ∀ h', Heap.ExtBut I s.heap h' → Q none { s with heap := h' }) : wpAny (model prog w) A (pyNext (.ref I)) Q E s := by
  obtain ⟨o, ho, hc, hd⟩ := id hI
  obtain ⟨z1, z2, z3⟩ := es_size k t0 tk
  have hfit := exact_fits (led := ledOf w) z1 z2
  have hT : s.TypeIs (.ref I) "set_iterator" := ⟨o, ho, hc⟩
  unfold pyNext
  refine wpAny_bind (wpAny_attempt (wpAny_callSpecial?_slot (name := Str.ofString "__next__") hT slot_setiter_next
    (wpAny_call_entry slot_setiter_next hT entry_setiter_next ?_ (args_setiter_next _))))
  unfold Builtin.«set_iterator.__next__»
  refine wpAny_bind (m := slotArgs "__next__" 0 _) (wpAny_of_eq rfl ?_)
  dsimp only
  refine wpAny_bind (wpAny_fieldsOf ho hd ?_)
  dsimp only
  obtain ⟨oS, hoS, hxS, hdS⟩ := id hS
  refine wpAny_bind ?_
  unfold setEntries
  refine wpAny_bind (wpAny_setState_of hoS hdS hfit (wpAny_pure ?_))
  dsimp only
  rw [hn]
  split
  · rename_i h; simp at h
  refine wpAny_bind ?_
  refine hnext _ _ _ _ hS ?_
  dsimp only
  refine wpAny_bind (wpAny_setField ho hd (by simp) ?_)
  show wpAny _ _ (newExc (.type "StopIteration") [] >>= _) _ _ _
  refine wpAny_bind ?_
  simp only [newExc, newTuple]
  refine wpAny_bind (wpAny_newObj_type ?_ (by size_fits))
  refine wpAny_bind (m := firstArgMember _ _) (wpAny_of_eq (a := Value.none) (by first | rfl | (simp only [firstArgMember]; rfl)) ?_)
  refine wpAny_newObj_type ?_ (by size_fits)
  simp only [raiseNew]
  refine wpAny_bind (wpAny_handled ?_)
  rw [show A.in1.handled = none from hh]
  refine wpAny_bind (wpAny_pure (wpAny_throw ?_))
  refine wpAny_bind (wpAny_isInstance (T := "StopIteration") (b := true) ⟨_, Heap.get?_push_size _ rfl, rfl⟩ isSubtype_stop ?_)
  exact wpAny_pure (hQ _ (((Heap.SameBut.update ..).extBut.push _).push _))

theorem setIter_new {Q : Value → Shared → Prop} {S ep k : Nat} {t0 tk : Tok} (hS : SetNow w s.heap S k t0 tk ep)
    (hQ : SetIt (s.heap.push { cls := .type "set_iterator", data := .fields #[.int 0 0, .int 0 0, .ref S, .int ((esOf k t0 tk).size : Nat) 0, .int (ep : Nat) 0] }) s.heap.objs.size S 0 0 (esOf k t0 tk).size ep →
      Q (.ref s.heap.objs.size) { s with heap := s.heap.push { cls := .type "set_iterator", data := .fields #[.int 0 0, .int 0 0, .ref S, .int ((esOf k t0 tk).size : Nat) 0, .int (ep : Nat) 0] } }) : wpAny (model prog w) A (pyIter (.ref S)) Q E s := by
  obtain ⟨o, ho, hx, hd⟩ := id hS
  obtain ⟨z1, z2, z3⟩ := es_size k t0 tk
  have hfit := exact_fits (led := ledOf w) z1 z2
  have hT : s.TypeIs (.ref S) "set" := ⟨o, ho, hx.1⟩
  refine wpAny_pyIter_slot hT PySem.F.slot_set_iter (wpAny_call_entry PySem.F.slot_set_iter hT entry_set_iter ?_ (PySem.F.args_set_iter_1 _))
  unfold Builtin.«frozenset.__iter__» Builtin.Frozenset.slot0
  refine wpAny_bind (wpAny_bind (m := slotArgs "__iter__" 0 _) (wpAny_of_eq rfl (wpAny_of_eq rfl ?_)))
  unfold Builtin.Frozenset.sizeOf setEntries
  refine wpAny_bind (wpAny_bind (wpAny_bind (wpAny_setState_of ho hd hfit (wpAny_pure (wpAny_pure ?_)))))
  unfold setDrawn
  refine wpAny_bind (wpAny_bind (wpAny_setState_of ho hd hfit ?_))
  dsimp only
  unfold setsByText
  refine wpAny_bind (wpAny_bind (wpAny_askSetting (wpAny_pure (wpAny_pure ?_))))
  rw [if_neg (fun h => by
    have h' : (!(w.params.followText "set-order") && (!true && decide ((esOf k t0 tk).size > 1))) = true := h
    simp at h')]
  refine wpAny_bind (wpAny_pure ?_)
  refine wpAny_bind (wpAny_bind (wpAny_setState_of ho hd hfit (wpAny_pure ?_)))
  have hI : SetIt (s.heap.push { cls := .type "set_iterator", data := .fields #[.int 0 0, .int 0 0, .ref S, .int ((esOf k t0 tk).size : Nat) 0, .int (ep : Nat) 0] }) s.heap.objs.size S 0 0 (esOf k t0 tk).size ep := ⟨_, Heap.get?_push_size _ rfl, rfl, rfl⟩
  refine wpAny_bind (wpAny_newObj_type ?_)
  exact wpAny_pure ⟨_, rfl, "set_iterator", _, ⟨_, Heap.get?_push_size _ rfl, rfl⟩, slot_setiter_next.lookup, hQ hI⟩

theorem setWalks {S ep k I : Nat} {t0 tk : Tok} (hk : k < 6) (hh : A.handled = none) (hIS : I ≠ S) :
    ∃ (ord : List Value) (sl : Nat → Nat), ord.Perm ((esOf k t0 tk).toList.map (·.2)) ∧ sl 0 = 0 ∧
      Walks prog w A I [I, S] [I] ord.length (fun i v => ord[i]? = some v) (fun i h => SetIt h I S i (sl i) (esOf k t0 tk).size ep ∧ SetNow w h S k t0 tk ep) := by
  obtain ⟨ord, sl, hp, h0, hnx⟩ := setNext_at (prog := prog) (w := w) (S := S) (ep := ep) (t0 := t0) (tk := tk) hk
  refine ⟨ord, sl, hp, h0, fun b hb => by simp at hb; simp [hb], fun i h h' st hk => ⟨st.1.at fun o e => hk I (by simp) o e, st.2.at fun o e => hk S (by simp) o e⟩, fun i s Q E hi st hQ => ?_, fun s Q E st hQ => ?_, fun i s Q E st hQ => ?_⟩
  · refine setIter_next (x := ord[i]) (sl' := sl (i + 1)) rfl st.1 st.2 (fun A s Q E hs hq => hnx i (Nat.le_of_lt hi) A s Q E hs (by rw [List.getElem?_eq_getElem hi]; exact hq)) fun h' hi' hb => ?_
    exact hQ _ h' s.toks (List.getElem?_eq_getElem hi) ⟨hi', st.2.at fun o e => hb.extBut S o (Ne.symm hIS) e⟩ fun b o hb' e => hb.extBut b o (fun h => hb' (by simp [h])) e
  · refine setIter_done hh rfl st.1 st.2 (fun A s Q E hs hq => hnx ord.length (Nat.le_refl _) A s Q E hs (by rw [List.getElem?_eq_none (Nat.le_refl _)]; exact hq)) fun h' hb => ?_
    exact hQ h' s.toks fun b o hb' e => hb b o (fun h => hb' (by simp [h])) e
  · have hT : s.TypeIs (.ref I) "set_iterator" := let ⟨o, ho, hc, _⟩ := st.1; ⟨o, ho, hc⟩
    refine wpAny_pyIter_slot hT slot_setiter_iter (wpAny_call_entry slot_setiter_iter hT entry_setiter_iter ?_ (args_setiter_iter _))
    show wpAny _ _ (ret (.ref I)) _ _ s
    exact wpAny_pure ⟨_, rfl, "set_iterator", _, hT, slot_setiter_next.lookup, hQ⟩
end
end Mine
end
section
open PySem PySem.W
set_option Elab.async false
set_option maxRecDepth 100000
namespace Mine
theorem set_len : typeLookup (.type "set") "__len__" = pure (some (.builtin "set.__len__")) := by rw [typeLookup_type, builtinLookup_eq_fast]; kernel_rfl
section
variable {prog : Program} {w : World} {A : Around} {s : Shared} {E : Value → Shared → Prop}
theorem collect_set {Q : List Value → Shared → Prop} {S ep k : Nat} {t0 tk : Tok} (hk : k < 6) (hh : A.handled = none) (hS : SetNow w s.heap S k t0 tk ep)
    (hQ : ∀ (h' : Heap) (tk' : Tok) (ord : List Value), ord.Perm ((esOf k t0 tk).toList.map (·.2)) → (∀ b o, s.heap.get? b = some o → h'.get? b = some o) → Q ord { s with heap := h', toks := tk' }) : wpAny (model prog w) A (collect (.ref S)) Q E s := by
  have hlt : S < s.heap.objs.size := let ⟨o, ho, _⟩ := hS; Heap.lt_size ho
  have hT : ∀ s' : Shared, SetNow w s'.heap S k t0 tk ep → s'.TypeIs (.ref S) "set" := fun s' ⟨o, ho, hx, _⟩ => ⟨o, ho, hx.1⟩
  obtain ⟨z1, z2, z3⟩ := es_size k t0 tk
  unfold collect
  refine wpAny_bind (wpAny_runValue (codeAny_builtin PySem.F.entry_proto_collect ?_))
  rw [Around.under_plainId PySem.F.plain_proto_collect _]
  show wpAny _ A.in1 (newList [] >>= fun l => again (.builtin "list.__iadd__" ⟨[l, .ref S], []⟩)) _ _ s
  refine wpAny_bind (wpAny_newObj_type ?_)
  refine wpAny_pure ⟨plainId_quiet PySem.F.plain_list_iadd _, codeAny_builtin PySem.F.entry_list_iadd ?_⟩
  rw [Around.under_plainId PySem.F.plain_list_iadd _]
  have hS₁ : SetNow w (s.heap.push { cls := .type "list", data := .seq ([] : List Value).toArray }) S k t0 tk ep := hS.at fun o e => Heap.get?_push_of_some _ e
  show wpAny _ A.in1 (Builtin.List.listExtendWith (.ref s.heap.objs.size) (.ref S) (.ref s.heap.objs.size)) _ _ _
  unfold Builtin.List.listExtendWith
  refine wpAny_bind (wpAny_typeOf (hT _ hS₁) ?_)
  have h1 : Builtin.List.listSameRef (.ref s.heap.objs.size) (.ref S) = false := beq_eq_false_iff_ne.mpr (Nat.ne_of_gt hlt)
  have h2 : (Value.type "set" == Value.type "list") = false := by decide
  have h3 : (Value.type "set" == Value.type "tuple") = false := by decide
  simp only [h1, h2, h3, Bool.or_false, Bool.false_eq_true, if_false]
  refine wpAny_bind (setIter_new hS₁ fun hI => ?_)
  have hS₂ : SetNow w (((s.heap.push { cls := .type "list", data := .seq ([] : List Value).toArray }).push { cls := .type "set_iterator", data := .fields #[.int 0 0, .int 0 0, .ref S, .int ((esOf k t0 tk).size : Nat) 0, .int (ep : Nat) 0] })) S k t0 tk ep := hS₁.at fun o e => Heap.get?_push_of_some _ e
  refine wpAny_bind (wpAny_holding ?_)
  unfold Builtin.List.listLengthHint
  refine wpAny_bind (wpAny_specialOf (hT _ hS₂) set_len ?_)
  (generalize hid : ("set.__len__" : String) = id0; (fail_if_success (clear hid id0)); wp_delta; rw [show splitId id0 = some ("set", "__len__") from by subst hid; decide +kernel]; subst hid)
  refine wpAny_bind (wpAny_isInstance (b := true) (hT _ hS₂) (by rw [isSubtype_type]; kernel_rfl) ?_)
  rw [if_neg (by decide)]
  dsimp only
  rw [if_pos (by decide)]
  refine wpAny_bind (wpAny_typeOf (hT _ hS₂) ?_)
  refine wpAny_pure ?_
  rw [if_pos (by decide)]
  have hL : s.heap.objs.size ≠ (s.heap.push { cls := .type "list", data := .seq ([] : List Value).toArray }).objs.size := by rw [Heap.size_push]; exact Nat.ne_of_lt (Nat.lt_succ_self _)
  have hSI : S ≠ (s.heap.push { cls := .type "list", data := .seq ([] : List Value).toArray }).objs.size := by rw [Heap.size_push]; exact Nat.ne_of_lt (Nat.lt_succ_of_lt hlt)
  have hS0 : S ≠ s.heap.objs.size := Nat.ne_of_lt hlt
  generalize hg : (s.heap.push { cls := .type "list", data := .seq ([] : List Value).toArray }).objs.size = I at *
  have hL1 : (s.heap.push { cls := .type "list", data := .seq ([] : List Value).toArray }).get? s.heap.objs.size = some { cls := .type "list", data := .seq ([] : List Value).toArray } := Heap.get?_push_size _ rfl
  have hL2 : ((s.heap.push { cls := .type "list", data := .seq ([] : List Value).toArray }).push { cls := .type "set_iterator", data := .fields #[.int 0 0, .int 0 0, .ref S, .int ((esOf k t0 tk).size : Nat) 0, .int (ep : Nat) 0] }).get? s.heap.objs.size = some { cls := .type "list", data := .seq ([] : List Value).toArray } := Heap.get?_push_of_some _ hL1
  have keep : ∀ b o, s.heap.get? b = some o → ((s.heap.push { cls := .type "list", data := .seq ([] : List Value).toArray }).push { cls := .type "set_iterator", data := .fields #[.int 0 0, .int 0 0, .ref S, .int ((esOf k t0 tk).size : Nat) 0, .int (ep : Nat) 0] }).get? b = some o := fun b o e => Heap.get?_push_of_some _ (Heap.get?_push_of_some _ e)
  generalize ((s.heap.push { cls := .type "list", data := .seq ([] : List Value).toArray }).push { cls := .type "set_iterator", data := .fields #[.int 0 0, .int 0 0, .ref S, .int ((esOf k t0 tk).size : Nat) 0, .int (ep : Nat) 0] }) = h₂ at *
  refine wpAny_bind (wpAny_rule ?_)
  refine wpAny_bind ?_
  show wpAny _ A.in1 (updateSeq s.heap.objs.size (·.push .none) >>= fun _ => updateSeq s.heap.objs.size (·.pop)) _ _ _
  refine wpAny_bind (wpAny_updateSeq hL2 rfl ?_)
  have hL3 := Heap.get?_update_self (Obj.mapSeq (·.push Value.none)) hL2 rfl
  refine wpAny_updateSeq hL3 rfl ?_
  have hL4 := Heap.get?_update_self (Obj.mapSeq (·.pop)) hL3 rfl
  have oth : ∀ b o, b ≠ s.heap.objs.size → h₂.get? b = some o → ((h₂.update s.heap.objs.size (Obj.mapSeq (·.push Value.none))).update s.heap.objs.size (Obj.mapSeq (·.pop))).get? b = some o :=
    fun b o hb e => (Heap.get?_update_other _ _ (Ne.symm hb)).trans ((Heap.get?_update_other _ _ (Ne.symm hb)).trans e)
  obtain ⟨ord, sl, hp, h0, W⟩ := setWalks (prog := prog) (w := w) (A := A.in1) (S := S) (ep := ep) (k := k) (I := I) (t0 := t0) (tk := tk) hk hh (Ne.symm hSI)
  have hIlt : I ∉ [s.heap.objs.size] := by simp [Ne.symm hL]
  have hW := W.toS
  refine wpAny_pure ⟨plainId_quiet PySem.F.plain_extend_loop _, codeAny_extend_loopS hW ?_ s.heap.objs.size (by simp [hL, Ne.symm hS0]) _ ord.length 0 _ _ _ rfl (Nat.zero_le _) ?_ hL4 (ItemsOf.nil _) fun s' acc' c' hm hS' hacc => ?_⟩
  · have := hp.length_eq
    simp only [List.length_map, Array.length_toList] at this
    rw [sizeLine_eq]; omega
  · exact ⟨by rw [h0]; exact hI.at fun o e => oth I o (Ne.symm hL) e, hS₂.at fun o e => oth S o hS0 e⟩
  · show wpAny _ A (load s.heap.objs.size >>= _) _ _ s'
    refine wpAny_bind (wpAny_load hS' ?_)
    have eacc : acc'.toList = ord := by
      refine List.ext_getElem (by simpa using hacc.1) fun i h1 h2 => ?_
      have : ord[i]? = some acc'[i] := hacc.2 i acc'[i] (Array.getElem?_eq_getElem (by simpa using h1))
      rw [List.getElem?_eq_getElem h2] at this
      injection this with this
      simpa using this.symm
    have hkeep : ∀ b o, s.heap.get? b = some o → s'.heap.get? b = some o := fun b o e => by
      have hb1 : b ≠ s.heap.objs.size := Nat.ne_of_lt (Heap.lt_size e)
      have hb2 : b ≠ I := by rw [← hg, Heap.size_push]; exact Nat.ne_of_lt (Nat.lt_succ_of_lt (Heap.lt_size e))
      exact hm.heap b o (by simp [hb1, hb2]) (oth b o hb1 (keep b o e))
    obtain ⟨h', g', d', tk', os'⟩ := s'
    have eg : g' = s.gens := hm.gens
    have ed : d' = s.drawn := hm.drawn
    have eo : os' = s.os := hm.os
    subst eg; subst ed; subst eo
    exact wpAny_pure (eacc ▸ hQ h' tk' ord hp hkeep)

def intOf : Value → Int
  | .int n _ => n
  | _ => 0
theorem intsAre_map : ∀ {vs : List Value}, (∀ v ∈ vs, ∃ n t, v = .int n t) → PyProof.Rows.IntsAre vs (vs.map intOf)
  | [], _ => .nil
  | v :: vs, h => by
    obtain ⟨n, t, rfl⟩ := h v (by simp)
    exact .cons n t (intsAre_map fun u hu => h u (by simp [hu]))
theorem perm_0k {k : Nat} {ns : List Int} (hp : ns.Perm (if k = 0 then [0] else [0, (k : Int)])) (hs : ns.Pairwise (· ≤ ·)) : ns = if k = 0 then [0] else [0, (k : Int)] := by
  split at hp
  · rename_i h; rw [if_pos h]; exact List.perm_singleton.mp hp
  · rename_i h; rw [if_neg h]
    have hl := hp.length_eq
    match ns, hl with
    | [a, b], _ =>
      have h1 := hp.mem_iff (a := a)
      have h2 := hp.mem_iff (a := b)
      have h3 := hp.mem_iff (a := 0)
      have h4 := hp.mem_iff (a := (k : Int))
      have h5 : a ≤ b := by simpa using hs
      simp at h1 h2 h3 h4
      have e1 : a = 0 := by omega
      have e2 : b = k := by omega
      rw [e1, e2]
open PyProof.Rows in
theorem sorted_set {Q : Value → Shared → Prop} {S ep k : Nat} {t0 tk : Tok} (hk : k < 6) (hh : A.handled = none) (hS : SetNow w s.heap S k t0 tk ep)
    (hQ : ∀ (h' : Heap) (tk' : Tok) (D : Addr) (out : Array Value) (n : Nat), PyProof.Rows.IntsAre out.toList (if k = 0 then [0] else [0, (k : Int)]) → s.heap.get? D = none → h'.get? D = some { cls := .type "list", data := .seq out n } → (∀ b o, s.heap.get? b = some o → h'.get? b = some o) →
      Q (.ref D) { s with heap := h', toks := tk' }) : wpAny (model prog w) A (call (.builtin "sorted") [.ref S]) Q E s := by
  refine Calls.call_function_entry kind_sorted plain_sorted entry_sorted (args_sorted1 _) ?_
  unfold Builtin.«sorted»
  refine wpAny_bind (m := checkCount "sorted" 1 1 _) (wpAny_pure ?_)
  refine wpAny_bind (collect_set hk hh hS fun h' tk' ord hp hkeep => ?_)
  have hes : (esOf k t0 tk).toList.map (·.2) = if k = 0 then [Value.int 0 t0] else [.int 0 t0, .int (k : Nat) tk] := by unfold esOf; split <;> rfl
  have hI : IntsAre ord (ord.map intOf) := intsAre_map fun v hv => by
    have := hp.mem_iff.mp hv
    rw [hes] at this
    split at this
    · simp at this; exact ⟨_, _, this⟩
    · simp at this; rcases this with h | h <;> exact ⟨_, _, h⟩
  have hp2 : (ord.map intOf).Perm (if k = 0 then [0] else [0, (k : Int)]) := by
    have := hp.map intOf
    rw [hes] at this
    split at this <;> rename_i h <;> simp only [h, if_true, if_false] <;> exact this
  have h64 : ord.length < 64 := by
    have := hp2.length_eq
    rw [List.length_map] at this
    rw [this]; split <;> simp
  refine wpAny_bind (wpAny_newList ?_ (by rw [sizeLine_eq]; omega))
  have hoL : (h'.push (seqObj "list" ord.toArray 0)).get? h'.objs.size = some (seqObj "list" ord.toArray 0) := Heap.get?_push_size _ rfl
  refine wpAny_bind (wpAny_holding (wpAny_call_entry slot_list_sort ⟨_, hoL, rfl⟩ entry_list_sort (list_sort_tree hoL hI h64 fun out ns' a1 a2 a3 => ⟨_, rfl, ?_⟩) (args_list_sort _)))
  obtain ⟨e, he⟩ := sortedHeap_at (vs := ord) (out := out) hoL
  rw [perm_0k (a2.trans hp2) a3] at a1
  refine wpAny_pure ⟨_, rfl, hQ _ _ _ out e a1 ?_ he fun b o hb => ?_⟩
  · cases hn : s.heap.get? h'.objs.size with
    | none => rfl
    | some o => exact absurd (Heap.lt_size (hkeep _ _ hn)) (Nat.lt_irrefl _)
  · have hlt := Heap.lt_size (hkeep b o hb)
    rw [sortedHeap_old (Nat.ne_of_lt hlt) (by rw [size_push']; exact Nat.lt_succ_of_lt hlt), Heap.get?_push_ne _ _ _ (Nat.ne_of_lt hlt)]
    exact hkeep b o hb
end
end Mine
end
section
open PySem PySem.W
set_option Elab.async false
set_option maxRecDepth 100000
namespace Mine
def psetx (w : World) (k : Nat) : VP :=
  ⟨fun V v => ∃ a o ep t0 tk, v = .ref a ∧ V a o ∧ o.ExactSet ∧ o.data = .set (esOf k t0 tk) ep (tab (ledOf w) (plOf k)), fun h ⟨a, o, ep, t0, tk, e, x, y⟩ => ⟨a, o, ep, t0, tk, e, h _ _ x, y⟩⟩
section
variable {c : Cfg} {n : Nat} {sc : Scope} {ρ : List (Str × VP)}
theorem all1 {V : View} {p : VP} {vs : List Value} (h : All2 V [p] vs) : ∃ v, vs = [v] ∧ p.is V v := by
  cases vs with
  | nil => exact h.elim
  | cons v r => cases r with | nil => exact ⟨v, rfl, h.1⟩ | cons _ _ => exact h.2.elim
theorem all2' {V : View} {p q : VP} {vs : List Value} (h : All2 V [p, q] vs) : ∃ v u, vs = [v, u] ∧ p.is V v ∧ q.is V u := by
  cases vs with
  | nil => exact h.elim
  | cons v r =>
    obtain ⟨u, rfl, hu⟩ := all1 h.2
    exact ⟨v, u, rfl, h.1, hu⟩
theorem run_set_0k {k : Nat} (hk : k < 6) : Run c n (.type "set") [plist [pint 0, pint k]] (psetx c.w k) := by
  intro A H s vs Q E hA G hH hv hQ
  obtain ⟨v, rfl, l, xs, m, e, hl, hxs⟩ := all1 hv
  subst e
  obtain ⟨a, b, hxs', ⟨t0, ha⟩, ⟨tk, hb⟩⟩ := all2' hxs
  subst ha hb
  have hxs2 : xs = #[.int 0 t0, .int (k : Nat) tk] := by rw [← Array.toList_inj]; exact hxs'
  refine call_set_0k hk hA.handled (vw_isList hl) hxs2 fun h' n' hS hkeep => ?_
  obtain ⟨o, ep, ho, hx, hd⟩ := hS
  exact hQ _ _ (Ext.heap fun b o e => hkeep b o (Heap.lt_size e) e) ⟨_, o, ep, t0, tk, rfl, ⟨fun h => Nat.lt_irrefl _ (hH.lt h), ho⟩, hx, hd⟩
theorem intsAll {V : View} : ∀ {vs : List Value} {is : List Int}, PyProof.Rows.IntsAre vs is → All2 V (is.map pint) vs
  | _, _, .nil => trivial
  | _, _, .cons n t h => ⟨⟨t, rfl⟩, intsAll h⟩
theorem run_sorted_0k {k : Nat} (hk : k < 6) : Run c n (.builtin "sorted") [psetx c.w k] (plist ((if k = 0 then [0] else [0, (k : Int)]).map pint)) := by
  intro A H s vs Q E hA G hH hv hQ
  obtain ⟨v, rfl, a, o, ep, t0, tk, e, ho, hx, hd⟩ := all1 hv
  subst e
  refine sorted_set hk hA.handled ⟨o, ho.2, hx, hd⟩ fun h' tk' D out m hI hD hD' hkeep => ?_
  exact hQ _ _ (Ext.heap hkeep) ⟨D, out, m, rfl, ⟨fun h => (by obtain ⟨o, e⟩ := hH D h; rw [hD] at e; cases e), hD'⟩, intsAll hI⟩
end
end Mine
end
section
open PySem PySem.W
set_option Elab.async false
set_option maxRecDepth 100000
namespace Mine
section
variable {c : Cfg} {n : Nat} {sc : Scope} {B : Shared} {H : Addr → Prop} {env : Env} {ρ ρ' : List (Str × VP)} {s : Shared} {A : Around} {E : Value → Shared → Prop}

theorem At.unhide' {D : Addr} {p : VP} (X : At c B (fun b => H b ∨ b = D) env ρ s) (hL : H env.locals) (hp : p.is (vw H s.heap) (.ref D))
    (h : ∀ x q, ρ'.lookup x = some q → ρ.lookup x = some q ∨ (q = p ∧ ρ.lookup x = some (pval (.ref D)))) : At c B H env ρ' s := by
  have vle : (vw (fun b => H b ∨ b = D) s.heap).le (vw H s.heap) := fun b o ⟨hb, e⟩ => ⟨fun h => hb (.inl h), e⟩
  refine ⟨X.base, X.ext, fun b hb => X.live b (.inl hb), hL, X.homeB, X.ns, X.globals, X.builtins, X.kind, X.one, X.cells, X.has, fun x q hx => ?_⟩
  rcases h x q hx with h' | ⟨rfl, h'⟩
  · rcases X.vars x q h' with ⟨k, m, v, hm, hv, hpv⟩ | ⟨k, a, v, ha, hv, hpv⟩
    · exact .inl ⟨k, m, v, hm, hv, q.mono vle hpv⟩
    · exact .inr ⟨k, a, v, ha, hv, q.mono vle hpv⟩
  · rcases X.vars x _ h' with ⟨k, m, v, hm, hv, hpv⟩ | ⟨k, a, v, ha, hv, hpv⟩
    · obtain rfl := hpv; exact .inl ⟨k, m, _, hm, hv, hp⟩
    · obtain rfl := hpv; exact .inr ⟨k, a, _, ha, hv, hp⟩

/-- something new goes out of sight -/
theorem At.hide {D : Addr} {s' : Shared} (X : At c B H env ρ s) (e : Ext s s') (hD : s.heap.get? D = none) (hD' : ∃ o, s'.heap.get? D = some o) : At c B (fun b => H b ∨ b = D) env ρ s' := by
  refine X.to (fun b o ⟨hb, e'⟩ => ⟨fun h => h.elim hb fun h => (by rw [h, hD] at e'; cases e'), e.keep b o e'⟩) (fun o h => e.keep _ o h) (fun x a o _ h => e.keep a o h) (fun b o _ h => e.keep b o h) ?_ (.inl X.homeH) e.gens e.os
  rintro b (h | h)
  · obtain ⟨o, e'⟩ := X.live b h; exact ⟨o, e.keep b o e'⟩
  · exact h ▸ hD'
theorem At.fresh_notOwn {D : Addr} (X : At c B H env ρ s) (hD : s.heap.get? D = none) : ¬ Own B env D := by
  rintro (h | ⟨x, h, _⟩)
  · obtain ⟨m, o', es, ep, e', d, _⟩ := X.ns
    rw [← h, hD] at e'; cases e'
  · obtain ⟨v, o', e', d⟩ := X.cells x D h
    rw [hD] at e'; cases e'
theorem At.base_none {D : Addr} (X : At c B H env ρ s) (hD : s.heap.get? D = none) : B.heap.get? D = none := by
  cases e : B.heap.get? D with
  | none => rfl
  | some o => have := X.ext.keep D o e; rw [hD] at this; cases this
theorem At.not_hid {D : Addr} (X : At c B H env ρ s) (hD : s.heap.get? D = none) : ¬ H D := fun h => by obtain ⟨o, e⟩ := X.live D h; rw [hD] at e; cases e
theorem Gl.big {h : Heap} (G : Gl c h) : 3 < h.objs.size := G.g.lt

/-- a dict of ints out of sight -/
structure DictHid (c : Cfg) (H : Addr → Prop) (h : Heap) (D : Addr) (kps : List (Int × VP)) : Prop where
  go : ∃ o kvs, h.get? D = some o ∧ DictAt c o kvs ∧ kvs.map Prod.fst = kps.map Prod.fst ∧ All2 (vw H h) (kps.map Prod.snd) (kvs.map Prod.snd)
theorem DictHid.to {H H' : Addr → Prop} {h h' : Heap} {D : Addr} {kps : List (Int × VP)} (x : DictHid c H h D kps) (hk : ∀ o, h.get? D = some o → h'.get? D = some o) (hv : (vw H h).le (vw H' h')) : DictHid c H' h' D kps :=
  let ⟨o, kvs, a, b, d, e⟩ := x.go; ⟨⟨o, kvs, hk o a, b, d, e.mono hv⟩⟩
theorem DictHid.seen {D : Addr} {kps : List (Int × VP)} (x : DictHid c (fun b => H b ∨ b = D) s.heap D kps) (hD : ¬ H D) (hs : (D == sysModules) = false) : (pdict c kps).is (vw H s.heap) (.ref D) :=
  let ⟨o, kvs, a, b, d, e⟩ := x.go; ⟨D, o, kvs, rfl, ⟨hD, a⟩, b, hs, d, e.mono fun _ _ ⟨hb, e⟩ => ⟨fun h => hb (.inl h), e⟩⟩

/-- y = {} , kept out of sight -/
theorem ex_assign_dict {y : Str} {py pos dpos : Pos} {Q : Flow → Shared → Prop} (X : At c B H env ρ s) (hA : AC A n) (hsc : env.scope = sc) (hy : Mine1 B H env y)
    (hQ : ∀ D s', At c B (fun b => H b ∨ b = D) env ((y, pval (.ref D)) :: ρ) s' → s.heap.get? D = none → (D == sysModules) = false → DictHid c (fun b => H b ∨ b = D) s'.heap D [] → Chg (Own B env) s s' → (vw H s.heap).le (vw (fun b => H b ∨ b = D) s'.heap) → Q .next s')
    (hsw : swapsWith (.Dict [] [] dpos) (some (.Name y py)) pos.line env = pure false := by rfl) :
    wpAny c.M A (exec (.Assign [.Name y py] (.Dict [] [] dpos) pos) env) Q E s := by
  refine wpAny_Assign_Name (wpAny_Dict_empty ?_) hsw
  have hD := get_size s.heap
  have e : Ext s { s with heap := s.heap.push { cls := .type "dict", data := .dict #[] } } := Ext.push _ s.toks
  have hd : (s.heap.push { cls := .type "dict", data := .dict #[] }).DictOf (intKind c.prog c.w) s.heap.objs.size [] := Heap.DictOf.new _
  obtain ⟨o, ho, hdo⟩ := dictAt hd
  have X' := X.hide e hD ⟨o, ho⟩
  refine X'.store (hy.imp id fun ⟨k, a, h1, h2, h3⟩ => ⟨k, a, h1, .inl h2, h3⟩) (p := pval (.ref s.heap.objs.size)) rfl fun s' X'' c' v' _ _ => ?_
  have hno := X.fresh_notOwn hD
  refine hQ _ s' X'' hD ?_ ⟨⟨o, [], c' _ _ hno ho, hdo, rfl, trivial⟩⟩ ((Chg.of_ext e).trans c') ((vw_more e.keep fun a h => h.imp id fun (h : a = s.heap.objs.size) => by rw [h]; exact hD).trans v')
  have h3 := X.gl.big
  exact beq_eq_false_iff_ne.mpr (Nat.ne_of_gt (Nat.lt_trans (by decide) h3))

theorem stored_new {kvs : List (Int × Value)} {k : Int} {v : Value} (h : k ∉ kvs.map Prod.fst) : stored kvs k v = kvs ++ [(k, v)] := by
  unfold stored
  rw [if_neg]
  rw [List.any_eq_true]; rintro ⟨kv, hkv, he⟩
  exact h (List.mem_map.mpr ⟨kv, hkv, of_decide_eq_true he⟩)

/-- y[i] = e, y's dict out of sight, the key new -/
theorem ex_store_item {y : Str} {py spos pos : Pos} {i e : Expr} {D : Addr} {kps : List (Int × VP)} {k : Int} {p : VP} {Q : Flow → Shared → Prop} (X : At c B H env ρ s) (hA : AC A n) (hsc : env.scope = sc)
    (hy : ρ.lookup y = some (pval (.ref D))) (hyd : (y == ("__debug__" : Str)) = false) (hHD : H D) (hBD : B.heap.get? D = none) (hno : ¬ Own B env D) (hd : DictHid c H s.heap D kps) (hk : k ∉ kps.map Prod.fst) (hsz : kps.length ≤ 1000)
    (he : Ev c n sc ρ e p) (hi : Ev c n sc ρ i (pint k))
    (hQ : ∀ s', At c B H env ρ s' → DictHid c H s'.heap D (kps ++ [(k, p)]) → Chg (fun b => b = D) s s' → (vw H s.heap).le (vw H s'.heap) → Q .next s')
    (hsw : swapsWith e (some (.Subscript (.Name y py) i spos)) pos.line env = pure false := by rfl) :
    wpAny c.M A (exec (.Assign [.Subscript (.Name y py) i spos] e pos) env) Q E s := by
  refine wpAny_Assign_Subscript (he A B H env s _ E hsc hA X fun v s₁ e₁ hv => ev_name hy hyd A B H env s₁ _ E hsc hA (X.more e₁) fun u s₂ e₂ hu => hi A B H env s₂ _ E hsc hA ((X.more e₁).more e₂) fun w s₃ e₃ hw => ?_) hsw
  obtain rfl := hu
  obtain ⟨t, rfl⟩ := hw
  have e13 := (e₁.trans e₂).trans e₃
  have X₃ := X.more e13
  obtain ⟨o, kvs, ho, hdo, hkeys, hvals⟩ := (hd.to (fun o h => e13.keep D o h) (e13.view H)).go
  have hlen : kvs.length = kps.length := by have := congrArg List.length hkeys; simpa using this
  refine wpAny_setItem_pairs (knd := intKind c.prog c.w) (k := k) (intKind_is _ _ _ _) (hdo.dictOf ho) (fun h' hd' hs' => ?_) (by rw [sizeLine_eq]; omega)
  rw [stored_new (by rw [hkeys]; exact hk)] at hd'
  obtain ⟨o', ho', hdo'⟩ := dictAt hd'
  have v3 : (vw H s₃.heap).le (vw H h') := fun b o ⟨hb, e⟩ => ⟨hb, hs'.extBut b o (fun h => hb (h ▸ hHD)) e⟩
  refine hQ _ (X₃.touch hHD hBD hno (fun b o hb e => hs'.extBut b o hb e) ⟨o', ho'⟩ GE.rfl rfl) ⟨⟨o', _, ho', hdo', by rw [List.map_append, List.map_append, hkeys]; rfl, ?_⟩⟩ (fun b o hb e => hs'.extBut b o hb (e13.keep b o e)) ((e13.view H).trans v3)
  rw [List.map_append, List.map_append]
  exact All2.append (hvals.mono v3) ⟨p.mono (((e₂.trans e₃).view H).trans v3) hv, trivial⟩
end
end Mine
end
section
open PySem PySem.W
set_option Elab.async false
set_option maxRecDepth 100000
namespace Mine
/-- what a comprehension's scope sees of ρ -/
def SubF (ρ : List (Str × VP)) (scope : Scope) : List (Str × VP) → Prop
  | [] => True
  | (x, p) :: r => ρ.lookup x = some p ∧ scope.names.lookup x = some .free ∧ SubF ρ scope r
theorem SubF.le {ρ : List (Str × VP)} {scope : Scope} : ∀ {ρ' : List (Str × VP)}, SubF ρ scope ρ' → ∀ x p, ρ'.lookup x = some p → ρ.lookup x = some p ∧ scope.names.lookup x = some .free
  | (y, q) :: r, h, x, p, e => by
    rw [List.lookup_cons] at e
    cases hxy : x == y with
    | true => rw [hxy] at e; cases e; rw [beq_iff_eq.mp hxy]; exact ⟨h.1, h.2.1⟩
    | false => rw [hxy] at e; exact SubF.le h.2.2 x p e
theorem fmf {α β : Type} (b : α → Bool) (f : α → β) : ∀ l : List α, l.flatMap (fun x => if b x then [f x] else []) = (l.filter b).map f
  | [] => rfl
  | a :: l => by
    rw [List.flatMap_cons, fmf b f l, List.filter_cons]
    cases b a <;> rfl
theorem lookup_new {ρ : List (Str × VP)} {x : Str} {p : VP} (h : ρ.lookup x = none) : ∀ y q, ρ.lookup y = some q → ((x, p) :: ρ).lookup y = some q := fun y q e => by
  rw [List.lookup_cons]
  cases hyx : y == x with
  | true => rw [beq_iff_eq.mp hyx, h] at e; cases e
  | false => exact e
section
variable {c : Cfg} {n : Nat} {sc scope : Scope} {ρ : List (Str × VP)} {elt it : Expr} {ifs : List Expr}
theorem turn1 {x : Str} {px : Pos} {p q : VP} (hx : Tgt scope x) (hn : ρ.lookup x = none) (b : Bool) (ht : TestsOk c n sc ((x, p) :: ρ) ifs b) (he : b = true → Ev c n sc ((x, p) :: ρ) elt q) :
    TurnOk c n sc scope elt ⟨.Name x px, it, ifs, 0⟩ [] ρ p (if b then [q] else []) :=
  ⟨(x, p) :: ρ, b, .inl ⟨x, px, rfl, hx, rfl⟩, lookup_new hn, ht, fun h => by rw [h]; rfl, fun h => by rw [h]; exact ⟨q, rfl, he h⟩⟩
theorem turn2 {x y : Str} {px py pos : Pos} {k : Nat} {p1 p2 q : VP} (hx : Tgt scope x) (hy : Tgt scope y) (hxy : (y == x) = false) (hnx : ρ.lookup x = none) (hny : ρ.lookup y = none) (b : Bool) (ht : TestsOk c n sc ((y, p2) :: (x, p1) :: ρ) ifs b) (he : b = true → Ev c n sc ((y, p2) :: (x, p1) :: ρ) elt q) :
    TurnOk c n sc scope elt ⟨.Tuple [.Name x px, .Name y py] k pos, it, ifs, 0⟩ [] ρ (ptup [p1, p2]) (if b then [q] else []) :=
  ⟨(y, p2) :: (x, p1) :: ρ, b, .inr ⟨x, px, y, py, k, pos, p1, p2, rfl, rfl, hx, hy, rfl⟩, fun z r e => lookup_new (by rw [List.lookup_cons, hxy]; exact hny) z r (lookup_new hnx z r e), ht, fun h => by rw [h]; rfl, fun h => by rw [h]; exact ⟨q, rfl, he h⟩⟩
theorem tests0 : TestsOk c n sc ρ [] true := .inl ⟨rfl, rfl⟩
theorem tests1 {t : Expr} {b : Bool} (h : Ts c n sc ρ t b) : TestsOk c n sc ρ [t] b := .inr ⟨t, rfl, h⟩
theorem itb_range0 {m : Nat} (hm : m < 2 ^ 39) : Itb c (prange 0 m) ((List.range m).map fun (k : Nat) => pint (k : Int)) := by
  have := itb_range (c := c) (a := 0) (b := (m : Int)) (by decide) (by decide) (by omega) (by omega)
  rw [show ((m : Int) - 0).toNat = m by omega] at this
  simpa using this
theorem itb_range1 {m : Nat} (hm : m < 2 ^ 39) : Itb c (prange 1 m) ((List.range (m - 1)).map fun (k : Nat) => pint ((k + 1 : Nat) : Int)) := by
  have := itb_range (c := c) (a := 1) (b := (m : Int)) (by decide) (by decide) (by omega) (by omega)
  rw [show ((m : Int) - 1).toNat = m - 1 by omega] at this
  have e : ∀ k : Nat, pint (1 + (k : Int)) = pint ((k + 1 : Nat) : Int) := fun k => by congr 1; omega
  simpa only [e] using this
theorem ev_cast {e : Expr} {p q : VP} (h : Ev c n sc ρ e p) (hpq : p = q) : Ev c n sc ρ e q := hpq ▸ h
theorem ts_cast {e : Expr} {a b : Bool} (h : Ts c n sc ρ e a) (hab : a = b) : Ts c n sc ρ e b := hab ▸ h
end
end Mine
end
section
open PySem PySem.W
set_option Elab.async false
set_option maxRecDepth 100000
namespace Mine
section
variable {c : Cfg} {n : Nat} {sc : Scope} {ρ : List (Str × VP)}
theorem run_sum {is : List Int} : Run c n (.builtin "sum") [plist (is.map pint)] (pint is.sum) := by
  intro A H s vs Q E hA G hH hv hQ
  obtain ⟨v, rfl, l, xs, m, e, hl, hxs⟩ := all1 hv
  subst e
  have hi := intsAre hxs
  obtain ⟨ys, hy⟩ := hi.allInts.items
  have hy' : xs = intItems ys := by simpa using hy
  subst hy'
  refine sum_intListG hA.handled (vw_isList hl) fun h' tk t' hk => ?_
  refine hQ _ _ (Ext.heap hk) ⟨t', ?_⟩
  rw [preSum_eq, List.take_of_length_le (by simp), ← nums_intItems, hi.numsOf]
end
end Mine
end
section
open PySem PySem.W
set_option Elab.async false
set_option maxRecDepth 100000
namespace Mine
noncomputable abbrev cfg (w : World) (mg mb : Str → Option Value) : Cfg := { prog := PySem.Challenge.pw_bz6003_01, w := w, K := Mine.hd.heap_39 w.params, mg := mg, mb := mb }

structure Names (mg : Str → Option Value) : Prop where
  numbers : mg "_law_numbers" = some (.ref 75)
  ahead : mg "_law_ahead" = some (.ref 80)
  det : mg "_law_determinant" = some (.ref 85)
  told : mg "_law_told" = some (.ref 90)
  gen : mg "_build_paths_from_predecessors" = some (.ref 70)
  nopath : mg "NetworkXNoPath" = some (.ref 61)
  free : ∀ x : Str, x ∈ (["len", "range", "sorted", "set", "sum", "iter", "list", "repr"] : List Str) → mg x = none

section
variable {w : World} {mg mb : Str → Option Value}
theorem boot_len : bootBuiltins "len" = some (.builtin "len") := by decide +kernel
theorem boot_range : bootBuiltins "range" = some (.type "range") := by decide +kernel
theorem boot_sorted : bootBuiltins "sorted" = some (.builtin "sorted") := by decide +kernel
theorem boot_set : bootBuiltins "set" = some (.type "set") := by decide +kernel
theorem boot_sum : bootBuiltins "sum" = some (.builtin "sum") := by decide +kernel
theorem boot_iter : bootBuiltins "iter" = some (.builtin "iter") := by decide +kernel
theorem boot_list : bootBuiltins "list" = some (.type "list") := by decide +kernel
theorem boot_repr : bootBuiltins "repr" = some (.builtin "repr") := by decide +kernel


theorem ev_len {n : Nat} {sc : Scope} {ρ : List (Str × VP)} {e : Expr} {np pos : Pos} {ps : List VP} (N : Names mg) (hk : sc.kind = .function) (hx : sc.names.lookup ("len" : Str) = some .globalImplicit) (he : Ev (cfg w mg mb) n sc ρ e (plist ps)) (hl : ps.length ≤ 2 ^ 24)
    (hs : ∀ (env : Env) (rest : List Expr), starEach (e :: rest) env = (false, eval e env) :: starEach rest env := by intro _ _; rfl) :
    Ev (cfg w mg mb) n sc ρ (.Call (.Name "len" np) [e] [] pos) (pint ps.length) :=
  ev_call (ev_boot hk hx (N.free _ (by decide)) boot_len (by decide)) kept_builtin (evs_cons he evs_nil hs) (run_len hl)
theorem ev_range1 {n : Nat} {sc : Scope} {ρ : List (Str × VP)} {e : Expr} {np pos : Pos} {i : Int} (N : Names mg) (hk : sc.kind = .function) (hx : sc.names.lookup ("range" : Str) = some .globalImplicit) (he : Ev (cfg w mg mb) n sc ρ e (pint i))
    (hs : ∀ (env : Env) (rest : List Expr), starEach (e :: rest) env = (false, eval e env) :: starEach rest env := by intro _ _; rfl) :
    Ev (cfg w mg mb) n sc ρ (.Call (.Name "range" np) [e] [] pos) (prange 0 i) :=
  ev_call (ev_boot hk hx (N.free _ (by decide)) boot_range (by decide)) kept_type (evs_cons he evs_nil hs) run_range1
theorem ev_range2 {n : Nat} {sc : Scope} {ρ : List (Str × VP)} {e e' : Expr} {np pos : Pos} {i j : Int} (N : Names mg) (hk : sc.kind = .function) (hx : sc.names.lookup ("range" : Str) = some .globalImplicit) (he : Ev (cfg w mg mb) n sc ρ e (pint i)) (he' : Ev (cfg w mg mb) n sc ρ e' (pint j))
    (hs : ∀ (env : Env) (rest : List Expr), starEach (e :: rest) env = (false, eval e env) :: starEach rest env := by intro _ _; rfl) (hs' : ∀ (env : Env) (rest : List Expr), starEach (e' :: rest) env = (false, eval e' env) :: starEach rest env := by intro _ _; rfl)
    (hp : ∀ env, (backTo pos (starEach [e'] env)).any (·.1) = false := by intro _; rfl) :
    Ev (cfg w mg mb) n sc ρ (.Call (.Name "range" np) [e, e'] [] pos) (prange i j) :=
  ev_call (ev_boot hk hx (N.free _ (by decide)) boot_range (by decide)) kept_type (evs_cons he (evs_cons he' evs_nil hs') hs) run_range2 hp

/-- the numbers that _law_numbers gives -/
def lastOf (xs : List Int) : Int := xs.foldl (fun l x => (l * 31 + x).fmod 2147483647) (7 + xs.length)
def nextOf (l : Int) : Int := (l * 48271 + 11).fmod 2147483647
def padTo : Nat → Int → List Int → List Int
  | 0, _, f => f
  | k + 1, l, f => padTo k (nextOf l) (f ++ [(nextOf l).fdiv 13])
def nums (xs : List Int) : List Int := padTo (6 - (xs.take 6).length) (lastOf xs) (xs.take 6)
theorem padTo_length : ∀ (k : Nat) (l : Int) (f : List Int), (padTo k l f).length = f.length + k
  | 0, _, _ => rfl
  | k + 1, l, f => by rw [padTo, padTo_length k, List.length_append, List.length_singleton]; omega
theorem nums_length (xs : List Int) : (nums xs).length = 6 := by
  rw [nums, padTo_length, List.length_take]; omega

theorem run_numbers {n : Nat} {xs : List Int} (N : Names mg) (hx : xs.length ≤ 63) : Run (cfg w mg mb) (n + 2) (.ref 75) [plist (xs.map pint), pint 6] (plist ((nums xs).map pint)) := by
  refine run_fn (names := ["script", "many"]) (body := _) rfl rfl (by rfl) rfl rfl rfl rfl (by decide) rfl (fun vs hv => ?_) (by decide) (by decide) (fun A B H env s Q E hA hsc hO X hQ => ?_)
  · match vs, hv with
    | [a, b], _ => rfl
  · have X0 : At (cfg w mg mb) B H env [("script", plist (xs.map pint)), ("many", pint 6)] s := X
    have vscript : ∀ {m : Nat} {sc : Scope} {ρ : List (Str × VP)} {pos : Pos}, ρ.lookup ("script" : Str) = some (plist (xs.map pint)) → Ev (cfg w mg mb) m sc ρ (.Name "script" pos) (plist (xs.map pint)) := fun h => ev_name h
    refine wpAny_execs_cons ?_
    refine ex_assign_comp_hid (xs := xs.take 6) (P := pint) (G := fun x => [pint x]) (ρ' := []) (src := plist ((xs.take 6).map pint)) X0 hA hsc (scOk rfl (by decide) (by decide) (by decide)) (by decide) (fun _ _ => rfl)
      (ev_slice (l := none) (u := some 6) (ps := xs.map pint) (ev_name rfl) trivial (ev_name rfl) (fun ys hy V hV => ?_) (by rw [List.length_map]; omega)) itb_list (fun x p h => by simp at h)
      (fun x _ => ⟨[("x", pint x)], true, .inl ⟨"x", _, rfl, .inl rfl, rfl⟩, fun y q h => by simp at h, .inl ⟨rfl, rfl⟩, fun h => (by cases h), fun _ => ⟨pint x, rfl, ev_name rfl⟩⟩) (by
        simp only [List.length_flatMap, List.length_singleton]
        rw [List.map_const', List.sum_replicate_nat, List.length_take]; omega)
      (swaps_t hsc rfl rfl rfl (by rfl)) (mine_local hsc rfl) fun D s₁ ys X₁ hD hBD hys hall _ _ => ?_
    · have e6 : (6 : Int) = ((6 : Nat) : Int) := rfl
      rw [e6, slicePick_take, List.map_take]
      exact hV.take 6
    rw [fm1] at hall
    have hHD : ¬ H D := fun h => by obtain ⟨o, e⟩ := X0.live D h; rw [hD] at e; cases e
    -- last = 7 + len(script)
    refine wpAny_execs_cons (ex_assign X₁ hA hsc (ev_bin ev_int (ev_len N rfl rfl (ev_name rfl) (by rw [List.length_map]; omega)) b_add) (mine_local hsc rfl) fun s₂ X₂ c₂ v₂ => ?_)
    rw [List.length_map] at X₂
    have hno₁ := X₁.seq_notOwn hys
    have hys₂ : s₂.heap.PlainList D ys := let ⟨k, h⟩ := hys; ⟨k, c₂ _ _ hno₁ h⟩
    -- for x in script
    refine wpAny_execs_cons (ex_for xs pint (fun pre => ("last", pint (pre.foldl (fun l x => (l * 31 + x).fmod 2147483647) (7 + xs.length))) :: ("found", pval (.ref D)) :: [("script", plist (xs.map pint)), ("many", pint 6)])
      (fun _ _ s => s.heap.PlainList D ys) (fun b => b = D) X₂ hA hsc (ev_name rfl) itb_list (mine_local hsc rfl) hys₂ (fun b hb => .inr hb) (fun b hb => by subst hb; exact X₂.seq_notOwn hys₂)
      (fun _ _ _ s₃ s₄ h hk _ => let ⟨k, e⟩ := h; ⟨k, hk _ _ rfl e⟩)
      (fun pre a post H' s₃ Q' E' hxs hH X₃ S₃ hQ' => wpAny_execs_cons (ex_assign X₃ hA hsc
        (ev_bin (ev_bin (ev_bin (ev_name rfl) ev_int (b_mul (.of_right (by decide)))) (ev_name rfl) b_add) ev_int (b_mod (by decide))) (mine_local hsc rfl)
        fun s₄ X₄ c₄ v₄ => wpAny_execs_nil (hQ' s₄ (X₄.weak (Sub.le (by rw [List.foldl_append]; exact ⟨rfl, rfl, rfl, rfl, trivial⟩))) (let ⟨k, e⟩ := S₃; ⟨k, c₄ _ _ (X₃.seq_notOwn S₃) e⟩) (c₄.mono fun b h => .inl h) v₄)))
      fun s₃ X₃ S₃ c₃ => ?_)
    -- while len(found) < many
    refine wpAny_execs_cons (wpAny_While (codeAny_whileLoop (fun k s' => ∃ f l, padTo (6 - f.length) l f = nums xs ∧ f.length ≤ 6 ∧ k = 6 - f.length ∧
        At (cfg w mg mb) B (fun b => H b ∨ b = D) env [("last", pint l), ("found", pval (.ref D)), ("script", plist (xs.map pint)), ("many", pint 6)] s' ∧
        ∃ ys, s'.heap.PlainList D ys ∧ All2 (vw (fun b => H b ∨ b = D) s'.heap) (f.map pint) ys.toList) (fun k s' hk => ?_) (6 - (xs.take 6).length)
      ⟨xs.take 6, lastOf xs, rfl, by rw [List.length_take]; omega, rfl, X₃.weak (Sub.le ⟨rfl, rfl, rfl, rfl, trivial⟩), ys, S₃, all2_ints hall⟩))
    obtain ⟨f, l, hpad, hf, rfl, X₄, ys₄, hys₄, hall₄⟩ := hk
    have X₄v : At (cfg w mg mb) B H env [("found", plist (f.map pint)), ("last", pint l), ("script", plist (xs.map pint)), ("many", pint 6)] s' := by
      refine X₄.unhide X0.homeH hHD hys₄ hall₄ fun x p h => ?_
      rw [List.lookup_cons] at h
      cases hx : x == ("found" : Str) with
      | true => rw [hx] at h; cases h; rw [beq_iff_eq.mp hx]; exact .inr ⟨rfl, rfl⟩
      | false => rw [hx] at h; exact .inl (Sub.le (ρ := [("last", pint l), ("found", pval (.ref D)), ("script", plist (xs.map pint)), ("many", pint 6)]) (ρ' := [("last", pint l), ("script", plist (xs.map pint)), ("many", pint 6)]) ⟨rfl, rfl, rfl, trivial⟩ x p h)
    refine Ts.go (b := decide (((f.map pint).length : Int) < 6)) (ts_cmp (ev_len N rfl rfl (ev_name rfl) (by rw [List.length_map]; omega)) (ev_name rfl) c_lt) hsc hA X₄v fun s₅ e₅ => ?_
    rw [List.length_map]
    have hys₅ : s₅.heap.PlainList D ys₄ := let ⟨k, e⟩ := hys₄; ⟨k, e₅.keep _ _ e⟩
    by_cases hlt : (f.length : Int) < 6
    · rw [if_pos (by simpa using hlt)]
      have hlt' : f.length < 6 := by omega
      refine wpAny_execs_cons (ex_assign (X₄.more e₅) hA hsc (ev_bin (ev_bin (ev_bin (ev_name rfl) ev_int (b_mul (.of_right (by decide)))) ev_int b_add) ev_int (b_mod (by decide))) (mine_local hsc rfl) fun s₆ X₆ c₆ v₆ => ?_)
      refine wpAny_execs_cons (ex_append X₆ hA hsc rfl (.inr rfl) hBD (let ⟨k, e⟩ := hys₅; ⟨k, c₆ _ _ ((X₄.more e₅).seq_notOwn hys₅) e⟩) (all2_ints hall₄) (by rw [List.length_map]; omega)
        (ev_bin (ev_name rfl) ev_int (b_div (by decide) (by decide))) (by decide) rfl rfl rfl rfl X₆.quiet rfl fun s₇ ys₇ X₇ h₇ a₇ c₇ v₇ => ?_)
      refine wpAny_execs_nil ⟨6 - (f.length + 1), by omega, f ++ [(nextOf l).fdiv 13], nextOf l, ?_, by simp; omega, by simp, X₇.weak (Sub.le ⟨rfl, rfl, rfl, rfl, trivial⟩), ys₇, h₇, by rw [List.map_append]; exact a₇⟩
      rw [← hpad, List.length_append, List.length_singleton, show 6 - f.length = (6 - (f.length + 1)) + 1 by omega, padTo]
    · rw [if_neg (by simpa using hlt)]
      have h6 : f.length = 6 := by omega
      rw [h6] at hpad
      have hfn : f = nums xs := hpad
      refine wpAny_execs_nil ?_
      refine wpAny_execs_cons (ex_return (X₄v.more e₅) hA hsc (ev_name (p := plist (f.map pint)) rfl) fun v s₆ e₆ hv => ?_)
      rw [hfn] at hv
      exact hQ v s₆ (((X₄v.ext).trans e₅).trans e₆) hv
end
end Mine
end
section
open PySem PySem.W
set_option Elab.async false
set_option maxRecDepth 100000
namespace Mine
def nOf (f0 : Int) : Nat := (1 + f0.fmod 6).toNat
def kOf (f3 : Int) (n : Nat) : Nat := ((f3.fdiv 2).fmod n).toNat
def firstOf (f3 : Int) (n : Nat) : List Int := if f3.fmod 2 == 0 then [0] else if kOf f3 n = 0 then [0] else [0, (kOf f3 n : Int)]
def pairsOf (n : Nat) : List (Int × Int) := (List.range n).flatMap fun (v : Nat) => (List.range v).map fun (u : Nat) => ((u : Int), (v : Int))
def tieB (f1 f2 : Int) (k : Nat) : Bool := (f1.fdiv (2 ^ k) + f2.fdiv (3 ^ k)).fmod 2 == 1
def tiesOf (f1 f2 : Int) (n : Nat) : List (Int × Int) := ((List.range (pairsOf n).length).filter (tieB f1 f2)).map fun k => (pairsOf n).getD k (0, 0)
def rowOf (ties : List (Int × Int)) (first : List Int) (v : Nat) : List Int := (ties.filter fun p => p.2 == (v : Int) && !(first.any (· == (v : Int)))).map (·.1)
def turned (f4 : Int) (row : List Int) : List Int := row.drop (f4.fmod ((row.length : Int) + 1)).toNat ++ row.take (f4.fmod ((row.length : Int) + 1)).toNat
def pp (p : Int × Int) : VP := ptup [pint p.1, pint p.2]
def aheadOf (f1 f2 f3 f4 : Int) (n : Nat) : List (Int × List Int) := (List.range n).map fun (v : Nat) => ((v : Int), turned f4 (rowOf (tiesOf f1 f2 n) (firstOf f3 n) v))
def pahead (c : Cfg) (l : List (Int × List Int)) : VP := pdict c (l.map fun x => (x.1, plist (x.2.map pint)))

theorem nOf_bound (f0 : Int) : 1 ≤ nOf f0 ∧ nOf f0 ≤ 6 ∧ (1 + f0.fmod 6 = (nOf f0 : Int)) := by
  have h1 := Int.fmod_nonneg_of_pos f0 (b := 6) (by decide)
  have h2 := Int.fmod_lt_of_pos f0 (b := 6) (by decide)
  unfold nOf; omega
theorem kOf_bound (f3 : Int) {n : Nat} (h : 1 ≤ n) : kOf f3 n < n ∧ (f3.fdiv 2).fmod n = (kOf f3 n : Int) := by
  have h1 := Int.fmod_nonneg_of_pos (f3.fdiv 2) (b := (n : Int)) (by omega)
  have h2 := Int.fmod_lt_of_pos (f3.fdiv 2) (b := (n : Int)) (by omega)
  unfold kOf; omega
theorem pairs_len {n : Nat} (h : n ≤ 6) : (pairsOf n).length ≤ 15 := by
  rcases n with _ | _ | _ | _ | _ | _ | _ | n <;> first | decide | omega
theorem rowOf_len {f1 f2 f3 : Int} {n v : Nat} (h : n ≤ 6) : (rowOf (tiesOf f1 f2 n) (firstOf f3 n) v).length ≤ 15 := by
  unfold rowOf tiesOf
  rw [List.length_map]
  refine Nat.le_trans (List.length_filter_le _ _) ?_
  rw [List.length_map]
  refine Nat.le_trans (List.length_filter_le _ _) ?_
  rw [List.length_range]; exact pairs_len h
theorem range_split {m v : Nat} {pre post : List Nat} (h : List.range m = pre ++ v :: post) : v = pre.length ∧ pre = List.range pre.length := by
  have hl := congrArg List.length h
  simp at hl
  have h1 : (List.range m)[pre.length]? = some v := by rw [h]; simp
  have h2 : (List.range m).take pre.length = pre := by rw [h]; simp
  rw [List.getElem?_range (by omega)] at h1
  injection h1 with h1
  refine ⟨h1.symm, ?_⟩
  rw [List.take_range, Nat.min_eq_left (by omega)] at h2
  exact h2.symm
section
variable {w : World} {mg mb : Str → Option Value}
theorem run_ahead {n : Nat} {f0 f1 f2 f3 f4 f5 : Int} (N : Names mg) : Run (cfg w mg mb) (n + 3) (.ref 80) [plist ([f0, f1, f2, f3, f4, f5].map pint)]
    (ptup [pint (nOf f0 : Int), plist ((firstOf f3 (nOf f0)).map pint), pahead (cfg w mg mb) (aheadOf f1 f2 f3 f4 (nOf f0))]) := by
  obtain ⟨n1, n6, en⟩ := nOf_bound f0
  generalize nOf f0 = m at n1 n6 en ⊢
  refine run_fn (names := ["found"]) (body := _) rfl rfl (by rfl) rfl rfl rfl rfl (by decide) rfl (fun vs hv => ?_) (by decide) (by decide) (fun A B H env s Q E hA hsc hO X hQ => ?_)
  · match vs, hv with
    | [a], _ => rfl
  have X0 : At (cfg w mg mb) B H env [("found", plist ([f0, f1, f2, f3, f4, f5].map pint))] s := X
  -- n = 1 + found[0] % 6
  refine wpAny_execs_cons (ex_assign X0 hA hsc (ev_cast (ev_bin ev_int (ev_bin (ev_sub (ev_name rfl) ev_int (gi_list (p := pint f0) (by decide) rfl)) ev_int (b_mod (by decide))) b_add) (by rw [en])) (mine_local hsc rfl) fun s₁ X₁ c₁ v₁ => ?_)
  -- first
  obtain ⟨hk, ek⟩ := kOf_bound f3 n1
  refine wpAny_execs_cons (ex_assign (p := plist ((firstOf f3 m).map pint)) X₁ hA hsc (ev_ifexp (b := f3.fmod 2 == 0) (ts_cmp (ev_bin (ev_sub (ev_name rfl) ev_int (gi_list (p := pint f3) (by decide) rfl)) ev_int (b_mod (by decide))) ev_int c_eq)
      (fun h => ev_cast (ev_list (evs_cons ev_int evs_nil)) (by unfold firstOf; rw [h]; rfl))
      (fun h => ev_cast (ev_call (ev_boot rfl rfl (N.free _ (by decide)) boot_sorted (by decide)) kept_builtin (evs_cons (ev_call (ev_boot rfl rfl (N.free _ (by decide)) boot_set (by decide)) kept_type
        (evs_cons (ev_list (hl := Nat.le_of_ble_eq_true rfl) (evs_cons ev_int (evs_cons (ev_cast (ev_bin (ev_bin (ev_sub (ev_name rfl) ev_int (gi_list (p := pint f3) (by decide) rfl)) ev_int (b_div (by decide) (by decide))) (ev_name rfl) (b_mod (by omega))) (by rw [ek])) evs_nil))) evs_nil) (run_set_0k (k := kOf f3 m) (by omega))) evs_nil) (run_sorted_0k (by omega)))
        (by unfold firstOf; rw [h]; rfl))) (mine_cell hO hsc rfl) fun s₂ X₂ c₂ v₂ => ?_)
  -- pairs
  refine wpAny_execs_cons (ex_assign (p := plist ((pairsOf m).map pp)) X₂ hA hsc (ev_cast (ev_comp (xs := List.range m) (P := fun v : Nat => pint (v : Int)) (G := fun v : Nat => (List.range v).map fun (u : Nat) => pp ((u : Int), (v : Int))) (ρ' := []) (scOk rfl (by decide) (by decide) (by decide))
      (by decide) (fun _ _ => rfl) (ev_range1 N rfl rfl (ev_name rfl)) (itb_range0 (by omega)) (fun x p h => by simp at h) (fun v hv => ?_) ?_) ?_) (mine_cell hO hsc rfl) (hsw := swaps_f hsc rfl) fun s₃ X₃ c₃ v₃ => ?_)
  · have hv' : v < m := List.mem_range.mp hv
    refine ⟨[("v", pint (v : Int))], true, .inl ⟨"v", _, rfl, .inl rfl, rfl⟩, lookup_new rfl, tests0, fun h => (by cases h), fun _ => ?_⟩
    refine ⟨Nat, List.range v, fun u => pint (u : Int), fun u => [pp ((u : Int), (v : Int))], _, fun _ _ => rfl, ev_range1 N rfl rfl (ev_name rfl), itb_range0 (by omega), (fm1 _ _).symm, fun u hu => ?_⟩
    exact ⟨("u", pint (u : Int)) :: [("v", pint (v : Int))], true, .inl ⟨"u", _, rfl, .inl rfl, rfl⟩, lookup_new rfl, tests0, fun h => (by cases h), fun _ => ⟨_, rfl, ev_tup (evs_cons (ev_name rfl) (evs_cons (ev_name rfl) evs_nil)) (Nat.le_of_ble_eq_true rfl)⟩⟩
  · have : ((List.range m).flatMap fun v : Nat => (List.range v).map fun (u : Nat) => pp ((u : Int), (v : Int))) = (pairsOf m).map pp := by
      unfold pairsOf; rw [List.map_flatMap]; simp only [List.map_map]; rfl
    rw [this, List.length_map]
    have := pairs_len n6
    omega
  · unfold pairsOf; rw [List.map_flatMap]; simp only [List.map_map]; rfl
  -- ties
  have hpl := pairs_len n6
  have p2 : ∀ k : Nat, k < 15 → (2 : Int) ^ k ≠ 0 ∧ ((2 : Int) ^ k).natAbs.log2 < 9000 ∧ (3 : Int) ^ k ≠ 0 ∧ ((3 : Int) ^ k).natAbs.log2 < 9000 ∧ (Builtin.Int.intBits 2 : Int) * k ≤ 2 ^ 27 ∧ (Builtin.Int.intBits 3 : Int) * k ≤ 2 ^ 27 := by decide +kernel
  refine wpAny_execs_cons (ex_assign_comp (xs := List.range (pairsOf m).length) (P := fun k : Nat => pint (k : Int)) (G := fun k : Nat => if tieB f1 f2 k then [pp ((pairsOf m).getD k (0, 0))] else [])
    (ρ' := [("pairs", plist ((pairsOf m).map pp)), ("found", plist ([f0, f1, f2, f3, f4, f5].map pint))]) X₃ hA hsc (scOk rfl (by decide) (by decide) (by decide)) (by decide) (fun _ _ => rfl)
    (ev_range1 N rfl rfl (ev_len N rfl rfl (ev_name rfl) (by rw [List.length_map]; omega))) (by rw [List.length_map]; exact itb_range0 (by omega)) (SubF.le ⟨rfl, rfl, rfl, rfl, trivial⟩) (fun k hk => ?_) ?_ (swaps_t hsc rfl rfl rfl (by rfl)) (mine_local hsc rfl) fun s₄ X₄ c₄ v₄ => ?_)
  · have hk' := List.mem_range.mp hk
    obtain ⟨a1, a2, a3, a4, a5, a6⟩ := p2 k (by omega)
    refine turn1 (.inl rfl) rfl _ (tests1 (ts_cmp (ev_bin (ev_bin (ev_bin (ev_sub (ev_name rfl) ev_int (gi_list (p := pint f1) (by decide) rfl)) (ev_bin ev_int (ev_name rfl) (b_pow (a := 2) (k := k) a5)) (b_div a1 a2))
      (ev_bin (ev_sub (ev_name rfl) ev_int (gi_list (p := pint f2) (by decide) rfl)) (ev_bin ev_int (ev_name rfl) (b_pow (a := 3) (k := k) a6)) (b_div a3 a4)) b_add) ev_int (b_mod (by decide))) ev_int c_eq)) fun hb => ?_
    exact ev_sub (ev_name rfl) (ev_name rfl) (gi_list (by omega) (by rw [Int.toNat_natCast, List.getElem?_map, List.getD_eq_getElem?_getD, List.getElem?_eq_getElem hk']; rfl))
  · rw [fmf]
    simp only [List.length_map]
    refine Nat.le_trans (List.length_filter_le _ _) ?_
    rw [List.length_range]; omega
  rw [fmf, show ((List.range (pairsOf m).length).filter (tieB f1 f2)).map (fun k => pp ((pairsOf m).getD k (0, 0))) = (tiesOf f1 f2 m).map pp by unfold tiesOf; rw [List.map_map]; rfl] at X₄
  -- ahead = {}
  refine wpAny_execs_cons (ex_assign_dict X₄ hA hsc (mine_local hsc rfl) fun D s₅ X₅ hD hsys hd₅ c₅ v₅ => ?_)
  have hnoD : ¬ Own B env D := X₄.fresh_notOwn hD
  have hBD := X₄.base_none hD
  have hHD := X₄.not_hid hD
  -- for v in range(n)
  refine wpAny_execs_cons (ex_for (List.range m) (fun v : Nat => pint (v : Int)) (fun _ => [("ahead", pval (.ref D)), ("ties", plist ((tiesOf f1 f2 m).map pp)), ("first", plist ((firstOf f3 m).map pint)), ("n", pint (m : Int)), ("found", plist ([f0, f1, f2, f3, f4, f5].map pint))])
    (fun H pre s => DictHid (cfg w mg mb) H s.heap D (pre.map fun v : Nat => ((v : Int), plist ((turned f4 (rowOf (tiesOf f1 f2 m) (firstOf f3 m) v)).map pint)))) (fun b => b = D) (X₅.weak (Sub.le ⟨rfl, rfl, rfl, rfl, rfl, trivial⟩)) hA hsc (ev_range1 N rfl rfl (ev_name rfl)) (itb_range0 (by omega)) (mine_cell (fun x hx => by
        obtain ⟨a, h1, h2, h3⟩ := hO x hx; exact ⟨a, h1, .inl h2, h3⟩) hsc rfl) hd₅ (fun b hb => .inr hb) (fun b hb => by subst hb; exact hnoD)
    (fun _ _ _ s₃ s₄ h hk hv => h.to (fun o e => hk D o rfl e) hv) (fun pre v post H' s₆ Q' E' hxs hH X₆ S₆ hQ' => ?_) fun s₆ X₆ S₆ c₆ => ?_)
  · have hrow := rowOf_len (f1 := f1) (f2 := f2) (f3 := f3) (v := v) n6
    -- row
    refine wpAny_execs_cons (ex_assign_comp (xs := tiesOf f1 f2 m) (P := pp) (G := fun p => if (p.2 == (v : Int) && !(firstOf f3 m).any (· == (v : Int))) then [pint p.1] else []) (ρ' := [("v", pint (v : Int)), ("first", plist ((firstOf f3 m).map pint))])
      X₆ hA hsc (scOk rfl (by decide) (by decide) (by decide)) (by decide) (fun _ _ => rfl) (ev_name rfl) itb_list (SubF.le ⟨rfl, rfl, rfl, rfl, trivial⟩)
      (fun p hp => turn2 (.inl rfl) (.inl rfl) (by decide) rfl rfl _ (tests1 (ts_and (ts_cmp (ev_name rfl) (ev_name rfl) c_eq) fun _ => ts_cmp (ev_name rfl) (ev_name rfl) c_notin_list)) fun _ => ev_name rfl) ?_ (swaps_t hsc rfl rfl rfl (by rfl)) (mine_local hsc rfl) fun s₇ X₇ c₇ v₇ => ?_)
    · rw [fmf, List.length_map]
      have : (rowOf (tiesOf f1 f2 m) (firstOf f3 m) v).length ≤ 15 := hrow
      unfold rowOf at this
      rw [List.length_map] at this
      omega
    rw [fmf, show ((tiesOf f1 f2 m).filter fun p => p.2 == (v : Int) && !(firstOf f3 m).any (· == (v : Int))).map (fun p => pint p.1) = (rowOf (tiesOf f1 f2 m) (firstOf f3 m) v).map pint by unfold rowOf; rw [List.map_map]; rfl] at X₇
    generalize hr : rowOf (tiesOf f1 f2 m) (firstOf f3 m) v = row at hrow X₇
    -- turn
    refine wpAny_execs_cons (ex_assign X₇ hA hsc (ev_bin (ev_sub (ev_name rfl) ev_int (gi_list (p := pint f4) (by decide) rfl)) (ev_bin (ev_len N rfl rfl (ev_name rfl) (by rw [List.length_map]; omega)) ev_int b_add) (b_mod (by omega))) (mine_local hsc rfl) fun s₈ X₈ c₈ v₈ => ?_)
    rw [List.length_map] at X₈
    have ht0 := Int.fmod_nonneg_of_pos f4 (b := (row.length : Int) + 1) (by omega)
    have ht : f4.fmod ((row.length : Int) + 1) = ((f4.fmod ((row.length : Int) + 1)).toNat : Int) := by omega
    have htd : turned f4 row = row.drop (f4.fmod ((row.length : Int) + 1)).toNat ++ row.take (f4.fmod ((row.length : Int) + 1)).toNat := rfl
    rw [ht] at X₈
    generalize (f4.fmod ((row.length : Int) + 1)).toNat = t at X₈ htd
    -- ahead[v] = row[turn:] + row[:turn]
    have S₈ := (S₆.to (fun o e => c₇ D o hnoD e) v₇).to (fun o e => c₈ D o hnoD e) v₈
    refine wpAny_execs_cons (ex_store_item (p := plist ((turned f4 row).map pint)) (k := (v : Int)) X₈ hA hsc rfl (by decide) (hH D (.inr rfl)) hBD hnoD S₈ ?_ ?_ (ev_cast (ev_bin (ev_slice (l := some (t : Int)) (u := none) (ps := row.map pint) (qs := (row.drop t).map pint) (ev_name rfl) (ev_name rfl) trivial (fun ys hy V hV => ?_) (by rw [List.length_map]; omega))
        (ev_slice (l := none) (u := some (t : Int)) (ps := row.map pint) (qs := (row.take t).map pint) (ev_name rfl) trivial (ev_name rfl) (fun ys hy V hV => ?_) (by rw [List.length_map]; omega)) (b_lcat ?_)) (by rw [htd, List.map_append])) (ev_name rfl) fun s₉ X₉ S₉ c₉ v₉ => ?_)
    · obtain ⟨e1, e2⟩ := range_split hxs
      rw [e2, List.map_map]
      simp only [List.mem_map, List.mem_range, Function.comp]
      rintro ⟨u, hu, he⟩
      omega
    · have := congrArg List.length hxs
      simp at this
      rw [List.length_map]; omega
    · rw [slicePick_drop, List.map_drop]; exact hV.drop t
    · rw [slicePick_take, List.map_take]; exact hV.take t
    · simp only [List.length_map, List.length_drop, List.length_take]; omega
    · refine wpAny_execs_nil (hQ' s₉ (X₉.weak (Sub.le ⟨rfl, rfl, rfl, rfl, rfl, trivial⟩)) ?_ ((((c₇.mono fun b h => .inl h).trans (c₈.mono fun b h => .inl h)).trans (c₉.mono fun b h => .inr h))) ((v₇.trans v₈).trans v₉))
      rw [List.map_append, List.map_singleton, hr]; exact S₉
  · have X₇ : At (cfg w mg mb) B H env [("ahead", pahead (cfg w mg mb) (aheadOf f1 f2 f3 f4 m)), ("first", plist ((firstOf f3 m).map pint)), ("n", pint (m : Int))] s₆ := by
      refine X₆.unhide' X0.homeH (p := pahead (cfg w mg mb) (aheadOf f1 f2 f3 f4 m)) ?_ fun x p h => ?_
      · have := S₆.seen hHD hsys
        unfold pahead aheadOf
        rw [List.map_map]
        exact this
      · rw [List.lookup_cons] at h
        cases hx : x == ("ahead" : Str) with
        | true => rw [hx] at h; cases h; rw [beq_iff_eq.mp hx]; exact .inr ⟨rfl, rfl⟩
        | false => rw [hx] at h; exact .inl (Sub.le (ρ := [("ahead", pval (.ref D)), ("ties", plist ((tiesOf f1 f2 m).map pp)), ("first", plist ((firstOf f3 m).map pint)), ("n", pint (m : Int)), ("found", plist ([f0, f1, f2, f3, f4, f5].map pint))]) (ρ' := [("first", plist ((firstOf f3 m).map pint)), ("n", pint (m : Int))]) ⟨rfl, rfl, trivial⟩ x p h)
    refine wpAny_execs_cons (ex_return X₇ hA hsc (ev_tup (evs_cons (ev_name rfl) (evs_cons (ev_name rfl) (evs_cons (ev_name rfl) evs_nil))) (Nat.le_of_ble_eq_true rfl)) fun v s₈ e₈ hv => ?_)
    exact hQ v s₈ (X₇.ext.trans e₈) hv
end
end Mine
end
section
open PySem PySem.W
set_option Elab.async false
set_option maxRecDepth 100000
namespace Mine
def ent (T : List (List Int)) (k v : Nat) : Int := (T.getD k []).getD v 0
def detStep (T : List (List Int)) (k : Nat) (r : List Int × Int) : List (List Int × Int) :=
  ((List.range T.length).filter fun (v : Nat) => !r.1.any (· == (v : Int)) && ent T k v != 0).map fun (v : Nat) => (r.1 ++ [(v : Int)], r.2 * ent T k v * (-1) ^ (r.1.filter (fun x => decide ((v : Int) < x))).length)
def detRows (T : List (List Int)) : Nat → List (List Int × Int)
  | 0 => [([], 1)]
  | k + 1 => (detRows T k).flatMap (detStep T k)
def detOf (T : List (List Int)) : Int := ((detRows T T.length).map (·.2)).sum
def prow (r : List Int × Int) : VP := ptup [ptup (r.1.map pint), pint r.2]
def ptable (T : List (List Int)) : VP := plist (T.map fun r => plist (r.map pint))
structure TableOk (T : List (List Int)) : Prop where
  len : T.length ≤ 5
  rows : ∀ r ∈ T, r.length = T.length
  ents : ∀ r ∈ T, ∀ x ∈ r, x = 0 ∨ x = 1 ∨ x = -1
theorem detRows_row (T : List (List Int)) : ∀ k, ∀ r ∈ detRows T k, r.1.length = k
  | 0, r, h => by simp [detRows] at h; rw [h]; rfl
  | k + 1, r, h => by
    simp only [detRows, List.mem_flatMap, detStep, List.mem_map, List.mem_filter] at h
    obtain ⟨q, hq, v, _, rfl⟩ := h
    simp [detRows_row T k q hq]
theorem detStep_len (T : List (List Int)) (k : Nat) (r : List Int × Int) : (detStep T k r).length ≤ T.length := by
  unfold detStep
  rw [List.length_map]
  refine Nat.le_trans (List.length_filter_le _ _) ?_
  rw [List.length_range]; exact Nat.le_refl _
theorem flatMap_le {α β : Type} (f : α → List β) (m : Nat) (h : ∀ x, (f x).length ≤ m) : ∀ l : List α, (l.flatMap f).length ≤ l.length * m
  | [] => by simp
  | a :: l => by
    rw [List.flatMap_cons, List.length_append, List.length_cons, Nat.succ_mul]
    have := flatMap_le f m h l
    have := h a
    omega
theorem detRows_len (T : List (List Int)) : ∀ k, (detRows T k).length ≤ T.length ^ k
  | 0 => by simp [detRows]
  | k + 1 => by
    simp only [detRows]
    refine Nat.le_trans (flatMap_le _ _ (detStep_len T k) _) ?_
    rw [Nat.pow_succ]
    exact Nat.mul_le_mul_right _ (detRows_len T k)
theorem detRows_len' {T : List (List Int)} (h : TableOk T) {k : Nat} (hk : k ≤ T.length) : (detRows T k).length ≤ 3125 := by
  refine Nat.le_trans (detRows_len T k) ?_
  have h1 : T.length ^ k ≤ 5 ^ k := Nat.pow_le_pow_left h.len k
  have h2 : 5 ^ k ≤ 5 ^ 5 := Nat.pow_le_pow_right (by decide) (by have := h.len; omega)
  exact Nat.le_trans h1 h2
theorem TableOk.get {T : List (List Int)} (h : TableOk T) {k v : Nat} (hk : k < T.length) (hv : v < T.length) : ∃ r, T[k]? = some r ∧ r[v]? = some (ent T k v) ∧ (ent T k v = 0 ∨ ent T k v = 1 ∨ ent T k v = -1) := by
  have hr := h.rows T[k] (List.getElem_mem hk)
  have e : ent T k v = T[k][v]'(by omega) := by
    unfold ent
    rw [List.getD_eq_getElem?_getD, List.getD_eq_getElem?_getD, List.getElem?_eq_getElem hk, Option.getD_some, List.getElem?_eq_getElem (by omega), Option.getD_some]
  refine ⟨T[k], List.getElem?_eq_getElem hk, ?_, ?_⟩
  · rw [List.getElem?_eq_getElem (by omega), e]
  · rw [e]; exact h.ents _ (List.getElem_mem hk) _ (List.getElem_mem _)
section
variable {c : Cfg} {n : Nat} {sc scope : Scope} {ρ : List (Str × VP)} {elt it : Expr} {ifs : List Expr}
theorem turnV {x : Str} {px : Pos} {p q : VP} (hx : Tgt scope x) (hn : ρ.lookup x = none) (b : Bool) (ht : TestsOk c n sc ((x, p) :: ρ) ifs b) (he : b = true → Ev c n sc ((x, p) :: ρ) elt q) :
    ∃ ρ' b', Asg scope (Comprehension.mk (.Name x px) it ifs 0).target p ρ ρ' ∧ (∀ y q, ρ.lookup y = some q → ρ'.lookup y = some q) ∧ TestsOk c n sc ρ' (Comprehension.mk (.Name x px) it ifs 0).ifs b' ∧ (b' = false → (if b then [q] else []) = []) ∧
      (b' = true → Gn c n sc scope elt [] ρ' (if b then [q] else [])) := turn1 (it := it) hx hn b ht he
end
section
variable {w : World} {mg mb : Str → Option Value}
theorem run_det {n : Nat} {T : List (List Int)} (N : Names mg) (hT : TableOk T) : Run (cfg w mg mb) (n + 3) (.ref 85) [ptable T] (pint (detOf T)) := by
  have hT5 := hT.len
  refine run_fn (names := ["table"]) (body := _) rfl rfl (by rfl) rfl rfl rfl rfl (by decide) rfl (fun vs hv => ?_) (by decide) (by decide) (fun A B H env s Q E hA hsc hO X hQ => ?_)
  · match vs, hv with
    | [a], _ => rfl
  have X0 : At (cfg w mg mb) B H env [("table", ptable T)] s := X
  have htl : (T.map fun r => plist (r.map pint)).length = T.length := List.length_map ..
  -- rows = [((), 1)]
  refine wpAny_execs_cons (ex_assign (p := plist ((detRows T 0).map prow)) X0 hA hsc (ev_list (hl := Nat.le_of_ble_eq_true rfl) (evs_cons (ev_tup (evs_cons (ev_tup evs_nil) (evs_cons ev_int evs_nil)) (Nat.le_of_ble_eq_true rfl)) evs_nil)) (mine_local hsc rfl) fun s₁ X₁ c₁ v₁ => ?_)
  -- for k in range(len(table))
  refine wpAny_execs_cons (ex_for (List.range T.length) (fun k : Nat => pint (k : Int)) (fun pre => [("rows", plist ((detRows T pre.length).map prow)), ("table", ptable T)]) (fun _ _ _ => True) (fun _ => False) X₁ hA hsc
    (ev_range1 N rfl rfl (ev_len N rfl rfl (ev_name rfl) (by omega))) (by rw [htl]; exact itb_range0 (by omega)) (mine_cell hO hsc rfl) trivial (fun b hb => hb.elim) (fun b hb => hb.elim) (fun _ _ _ _ _ _ _ _ => trivial) (fun pre k post H' s₂ Q' E' hxs hH X₂ _ hQ' => ?_) fun s₂ X₂ _ c₂ => ?_)
  · obtain ⟨rfl, _⟩ := range_split hxs
    have hkl : pre.length < T.length := by have := congrArg List.length hxs; simp at this; omega
    generalize hk : pre.length = k at *
    have hdl := detRows_len' hT (k := k) (Nat.le_of_lt hkl)
    have hdl' := detRows_len' hT (k := k + 1) hkl
    refine wpAny_execs_cons (ex_assign_comp (xs := detRows T k) (P := prow) (G := fun r => (detStep T k r).map prow) (ρ' := [("k", pint (k : Int)), ("table", ptable T)]) X₂ hA hsc (scOk rfl (by decide) (by decide) (by decide)) (by decide) (fun _ _ => rfl) (ev_name rfl) itb_list
      (SubF.le ⟨rfl, rfl, rfl, rfl, trivial⟩) (fun r hr => ?_) ?_ (swaps_t hsc rfl rfl rfl (by rfl)) (mine_local hsc rfl) fun s₃ X₃ c₃ v₃ => ?_)
    · have hrl := detRows_row T k r hr
      refine ⟨("much", pint r.2) :: ("row", ptup (r.1.map pint)) :: [("k", pint (k : Int)), ("table", ptable T)], true, .inr ⟨"row", _, "much", _, _, _, ptup (r.1.map pint), pint r.2, rfl, rfl, .inl rfl, .inl rfl, rfl⟩,
        fun z q e => lookup_new (by rfl) z q (lookup_new (by rfl) z q e), tests0, fun h => (by cases h), fun _ => ?_⟩
      refine ⟨Nat, List.range T.length, fun v => pint (v : Int), fun v => if !r.1.any (· == (v : Int)) && ent T k v != 0 then [prow (r.1 ++ [(v : Int)], r.2 * ent T k v * (-1) ^ (r.1.filter (fun x => decide ((v : Int) < x))).length)] else [], _, fun _ _ => rfl,
        ev_range1 N rfl rfl (ev_len N rfl rfl (ev_name rfl) (by omega)), (by rw [htl]; exact itb_range0 (by omega)), (by rw [fmf]; unfold detStep; rw [List.map_map]; rfl), fun v hv => ?_⟩
      have hv' := List.mem_range.mp hv
      obtain ⟨row, g1, g2, g3⟩ := hT.get hkl hv'
      have gent : ∀ {m : Nat} {sc : Scope} {ρ : List (Str × VP)} {p1 p2 p3 p4 p5 : Pos}, ρ.lookup ("table" : Str) = some (ptable T) → ρ.lookup ("k" : Str) = some (pint (k : Int)) → ρ.lookup ("v" : Str) = some (pint (v : Int)) →
          Ev (cfg w mg mb) m sc ρ (.Subscript (.Subscript (.Name "table" p1) (.Name "k" p2) p3) (.Name "v" p4) p5) (pint (ent T k v)) := fun h1 h2 h3 =>
        ev_sub (ev_sub (ev_name h1) (ev_name h2) (gi_list (p := plist (row.map pint)) (by omega) (by rw [Int.toNat_natCast, List.getElem?_map, g1]; rfl))) (ev_name h3) (gi_list (by omega) (by rw [Int.toNat_natCast, List.getElem?_map, g2]; rfl))
      have hfl : (r.1.filter (fun x => decide ((v : Int) < x))).length ≤ 5 := Nat.le_trans (List.length_filter_le _ _) (by omega)
      refine turnV (.inr rfl) (by rfl) _ (tests1 (ts_and (ts_cmp (ev_name rfl) (ev_name rfl) c_notin_tup) fun _ => ts_cmp (gent rfl rfl rfl) ev_int c_ne)) fun _ => ?_
      refine ev_tup (evs_cons (ev_cast (ev_bin (ev_name rfl) (ev_tup (evs_cons (ev_name rfl) evs_nil) (Nat.le_of_ble_eq_true rfl)) (b_tcat ?_)) ?_) (evs_cons (ev_bin (ev_bin (ev_name rfl) (gent rfl rfl rfl) (b_mul (.of_right ?_))) (ev_bin (ev_neg ev_int) (ev_cast (q := pint ((r.1.filter (fun x => decide ((v : Int) < x))).length : Int)) (ev_len (ps := (r.1.filter (fun x => decide ((v : Int) < x))).map pint) N rfl rfl
        (ev_cast (ev_comp (xs := r.1) (P := pint) (G := fun x => if decide ((v : Int) < x) then [pint x] else []) (ρ' := [("v", pint (v : Int))]) (scOk rfl (by decide) (by decide) (by decide)) (by decide) (fun _ _ => rfl) (ev_name rfl) itb_tup (SubF.le ⟨rfl, rfl, trivial⟩)
          (fun x hx => turn1 (.inl rfl) rfl _ (tests1 (ts_cmp (ev_name rfl) (ev_name rfl) c_gt)) fun _ => ev_name rfl) ?_) ?_) ?_) (by rw [List.length_map])) (b_pow (k := (r.1.filter (fun x => decide ((v : Int) < x))).length) ?_)) (b_mul (.of_right ?_))) evs_nil)) (Nat.le_of_ble_eq_true rfl)
      · simp only [List.length_map, List.length_singleton]; omega
      · rw [List.map_append]; rfl
      · rcases g3 with h | h | h <;> rw [h] <;> decide
      · rw [fmf, List.length_map]; omega
      · rw [fmf]
      · rw [List.length_map]; omega
      · have : (Builtin.Int.intBits (-1) : Int) = 1 := by decide
        rw [this]; omega
      · generalize (r.1.filter (fun x => decide ((v : Int) < x))).length = j at hfl
        rcases j with _ | _ | _ | _ | _ | _ | j <;> first | decide | omega
    · rw [← List.map_flatMap, List.length_map]
      exact Nat.le_trans hdl' (by decide)
    · rw [← List.map_flatMap, show (detRows T k).flatMap (detStep T k) = detRows T (k + 1) from rfl] at X₃
      refine wpAny_execs_nil (hQ' s₃ (X₃.weak ?_) trivial (c₃.mono fun b h => .inl h) v₃)
      rw [List.length_append, hk, List.length_singleton]
      exact Sub.le ⟨rfl, rfl, trivial⟩
  · refine wpAny_execs_cons (ex_return (p := pint (detOf T)) X₂ hA hsc (ev_call (ev_boot rfl rfl (N.free _ (by decide)) boot_sum (by decide)) kept_builtin (evs_cons (ev_cast (ev_comp (xs := detRows T T.length) (P := prow) (G := fun r => [pint r.2]) (ρ' := []) (scOk rfl (by decide) (by decide) (by decide)) (by decide) (fun _ _ => rfl) (ev_name (by rw [List.length_range]; rfl)) itb_list (fun x p h => by simp at h)
      (fun r hr => turn2 (.inl rfl) (.inl rfl) (by decide) rfl rfl true tests0 fun _ => ev_name rfl) ?_) ?_) evs_nil) (run_sum (is := (detRows T T.length).map (·.2)))) fun v s₃ e₃ hv => ?_)
    · rw [fm1, List.length_map]; have := detRows_len' hT (k := T.length) (Nat.le_refl _); omega
    · rw [fm1, List.map_map]; rfl
    · exact hQ v s₃ (X₂.ext.trans e₃) hv
end
end Mine
end
section
open PySem PySem.W
set_option Elab.async false
set_option maxRecDepth 100000
namespace Mine
theorem kind_iter : builtinKind "iter" = none := by decide +kernel
theorem plain_iter : plainId "iter" = true := by decide +kernel
theorem entry_iter : entryFor table "iter" = some Builtin.«iter» := entryFor_of_tree (by kernel_rfl)
theorem args_iter1 (a : Value) : argsOk "iter" ⟨[a], []⟩ := by unfold argsOk; kernel_rfl
section
variable {prog : Program} {w : World} {A : Around} {s : Shared} {E : Value → Shared → Prop}
theorem call_iter_list {l : Addr} {items : Array Value} {Q : Value → Shared → Prop} (hl : s.heap.IsList l items)
    (hQ : Q (.ref s.heap.objs.size) { s with heap := s.heap.push { cls := .type "list_iterator", data := .fields #[.ref l, .int 0 0] } }) :
    wpAny (model prog w) A (call (.builtin "iter") [.ref l]) Q E s := by
  refine Calls.call_function_entry kind_iter plain_iter entry_iter (args_iter1 _) ?_
  unfold Builtin.«iter»
  refine wpAny_bind (m := someArgs "iter" 1 2 _) (wpAny_of_eq rfl ?_)
  refine wpAny_bind (wpAny_pyIter_list hl ?_)
  exact wpAny_pure ⟨_, rfl, hQ⟩

theorem pairs_split {knd : KeyKind prog w Int} {k : Int} {v : Value} : ∀ {es : List DictEntry} {kvs : List (Int × Value)}, Pairs knd es (kvs ++ [(k, v)]) → ∃ es' e, es = es' ++ [e] ∧ Pairs knd es' kvs ∧ knd.is k e.key = true ∧ e.val = v
  | [], [], h => by cases h
  | e :: es, [], h => by
    cases h with
    | cons h1 h2 h3 => cases h3; exact ⟨[], e, rfl, .nil, h1, h2⟩
  | [], kv :: kvs, h => by cases h
  | e :: es, kv :: kvs, h => by
    cases h with
    | cons h1 h2 h3 =>
      obtain ⟨es', e', rfl, hp, h4, h5⟩ := pairs_split h3
      exact ⟨e :: es', e', rfl, .cons h1 h2 hp, h4, h5⟩
theorem call_popitem {D : Addr} {kvs : List (Int × Value)} {k : Int} {v : Value} {Q : Value → Shared → Prop} (hD : (D == sysModules) = false) (hm : s.heap.DictOf (intKind prog w) D (kvs ++ [(k, v)])) (hsz : kvs.length ≤ 1000)
    (hQ : ∀ h' r, h'.DictOf (intKind prog w) D kvs → (∀ b o, b ≠ D → s.heap.get? b = some o → h'.get? b = some o) → Q r { s with heap := h' }) :
    wpAny (model prog w) A (call (.builtin "dict.popitem") [.ref D]) Q E s := by
  refine wpAny_call_entry PySem.F.slot_dict_popitem hm.typeIs PySem.F.entry_dict_popitem ?_ (PySem.F.args_dict_popitem_1 _)
  have hT := hm.typeIs
  obtain ⟨o, es, ep, ho, hc, hd, hk, hp, hn⟩ := hm
  obtain ⟨es', e, he, hp', hek, hev⟩ := pairs_split hp
  have hsz' : es.size = kvs.length + 1 := by have := hp.length; simp at this; exact this
  have hes : es = es'.toArray.push e := by rw [← Array.toList_inj, he, Array.toList_push]
  subst hes
  unfold Builtin.«dict.popitem»
  refine wpAny_bind ?_
  unfold Builtin.Dict.noArgs
  refine wpAny_bind (wpAny_notOrdered_dict hT ?_)
  show wpAny _ _ (pure D) _ _ s
  refine wpAny_pure ?_
  unfold Builtin.Dict.showsAll
  refine wpAny_bind ?_
  rw [if_neg (by rw [hD]; decide)]
  refine wpAny_pure ?_
  refine wpAny_bind (wpAny_dictEntries ho hd ?_)
  rw [Array.back?_push]
  dsimp only
  refine wpAny_bind (wpAny_updateDictKeys ho hd ?_ (by rw [hsz', sizeLine_eq]; omega) (by simp; omega))
  refine wpAny_bind (wpAny_newTuple ?_)
  have hd' : (Obj.mapDictKeys (·.pop) o).data = .dict es'.toArray (ep + 1) := by rw [Obj.data_mapDictKeys hd]; simp
  refine wpAny_pure ⟨_, rfl, hQ _ _ ⟨_, es'.toArray, ep + 1, Heap.get?_push_of_some _ (Heap.get?_update_self _ ho (Obj.isFreed_of_dict hd')), hc.mapDictKeys _, hd', fun x hx => hk x (by simp at hx ⊢; exact .inl hx), by simpa using hp', ?_⟩ fun b o' hb e' => ?_⟩
  · rw [List.map_append, List.nodup_append] at hn; exact hn.1
  · exact Heap.get?_push_of_some _ ((Heap.get?_update_other _ _ (Ne.symm hb)).trans e')

theorem call_pop {D : Addr} {ys : Array Value} {y : Value} {Q : Value → Shared → Prop} (hl : s.heap.PlainList D (ys.push y)) (hsz : ys.size ≤ 1000)
    (hQ : ∀ h', h'.PlainList D ys → (∀ b o, b ≠ D → s.heap.get? b = some o → h'.get? b = some o) → Q y { s with heap := h' }) :
    wpAny (model prog w) A (call (.builtin "list.pop") [.ref D]) Q E s := by
  obtain ⟨n, ho⟩ := hl
  refine call_meets PySem.F.slot_list_pop ⟨_, ho, rfl⟩ PySem.F.entry_list_pop (PySem.F.args_list_pop_1 _) (MeetsSeq.list_pop_last D (ys.push y) n y (by simp) (by rw [Array.size_push, sizeLine_eq]; omega)) ⟨ho, ?_⟩
  have e1 : (ys.push y).eraseIdxIfInBounds ((ys.push y).size - 1) = ys := by
    obtain ⟨l⟩ := ys
    simp [List.eraseIdx_append_of_length_le]
  obtain ⟨e, he⟩ : ∃ e, (s.heap.update D (Obj.mapSeq fun xs => xs.eraseIdxIfInBounds ((ys.push y).size - 1))).get? D = some (PyProof.Rows.seqObj "list" ((ys.push y).eraseIdxIfInBounds ((ys.push y).size - 1)) e) := ⟨_, PyProof.Rows.get?_update_seq ho _⟩
  rw [e1] at he
  exact hQ _ ⟨e, he⟩ fun b o hb e => (Heap.get?_update_other _ _ (Ne.symm hb)).trans e
end
end Mine
end
section
open PySem PySem.W
set_option Elab.async false
set_option maxRecDepth 100000
namespace Mine
theorem IsDict.noDict {c : Cfg} {h : Heap} {D : Addr} {kvs : List (Int × Value)} (x : h.DictOf (intKind c.prog c.w) D kvs) : ∀ a, Value.ref D = .ref a → ∃ ob, h.get? a = some ob ∧ ob.dict = none := fun a e => by
  cases e
  obtain ⟨o, es, ep, ho, hc, _⟩ := x
  exact ⟨o, ho, hc.2.1⟩
section
variable {c : Cfg} {n : Nat} {sc : Scope} {B : Shared} {H : Addr → Prop} {env : Env} {ρ ρ' : List (Str × VP)} {s : Shared} {A : Around} {E : Value → Shared → Prop}
theorem ex_popitem {y : Str} {py apos cpos pos : Pos} {D : Addr} {kvs : List (Int × Value)} {k : Int} {v : Value} {Q : Flow → Shared → Prop}
    (X : At c B H env ρ s) (hA : AC A n) (hsc : env.scope = sc) (hy : ρ.lookup y = some (pval (.ref D))) (hD : H D) (hBD : B.heap.get? D = none) (hno : ¬ Own B env D) (hsys : (D == sysModules) = false)
    (hm : s.heap.DictOf (intKind c.prog c.w) D (kvs ++ [(k, v)])) (hsz : kvs.length ≤ 1000) (hyd : (y == ("__debug__" : Str)) = false)
    (hbase : attributeBase (.Name y py) "popitem" env (eval (.Name y py) env) = eval (.Name y py) env)
    (hline : (apos.endLine == cpos.line) = true) (hi : interactive env = false) (hsw : swapsWith (.Call (.Attribute (.Name y py) "popitem" apos) [] [] cpos) none pos.line env = pure false)
    (hQ : ∀ s', At c B H env ρ s' → s'.heap.DictOf (intKind c.prog c.w) D kvs → Chg (fun b => b = D) s s' → (vw H s.heap).le (vw H s'.heap) → s'.gens = s.gens → s'.os = s.os → Q .next s') :
    wpAny c.M A (exec (.Expr (.Call (.Attribute (.Name y py) "popitem" apos) [] [] cpos) pos) env) Q E s := by
  refine wpAny_Expr_any ?_ hi hsw
  refine wpAny_Call_method0_late hbase hline ?_
  refine wpAny_Name ?_ hyd
  have fin : MethodOn c.prog c.w A "popitem" cpos (.ref D) [] (fun x => Q .next) E s := by
    refine ⟨"dict", "dict.popitem", PySem.F.plainAttrs_dict, PySem.F.slot_dict_popitem, PySem.F.type_dict_popitem, hm.typeIs, IsDict.noDict hm, ?_⟩
    refine Calls.callWith_builtin rfl (evalArgs_none ?_)
    refine call_popitem hsys hm hsz fun h' r hd' hk => ?_
    obtain ⟨o, es, ep, ho, _⟩ := id hd'
    exact hQ _ (X.touch hD hBD hno hk ⟨o, ho⟩ GE.rfl rfl) hd' (fun b o hb e => hk b o hb e) (fun b o ⟨hb, e⟩ => ⟨hb, hk b o (fun h => hb (h ▸ hD)) e⟩) rfl rfl
  rcases X.vars y _ hy with ⟨k, m, u, hn, hu, hp⟩ | ⟨k, a, u, ha, hu, hp⟩
  · obtain rfl := hp
    exact wpAny_loadName_local X.kind k hn hu fin
  · obtain rfl := hp
    rcases k with k | ⟨k, hx⟩
    · exact wpAny_loadName_cell X.kind k ha hu fin
    · exact wpAny_loadName_free X.kind k ha hu fin hx
theorem ex_pop {y : Str} {py apos cpos pos : Pos} {D : Addr} {ys : Array Value} {v : Value} {Q : Flow → Shared → Prop}
    (X : At c B H env ρ s) (hA : AC A n) (hsc : env.scope = sc) (hy : ρ.lookup y = some (pval (.ref D))) (hD : H D) (hBD : B.heap.get? D = none)
    (hm : s.heap.PlainList D (ys.push v)) (hsz : ys.size ≤ 1000) (hyd : (y == ("__debug__" : Str)) = false)
    (hbase : attributeBase (.Name y py) "pop" env (eval (.Name y py) env) = eval (.Name y py) env)
    (hline : (apos.endLine == cpos.line) = true) (hi : interactive env = false) (hsw : swapsWith (.Call (.Attribute (.Name y py) "pop" apos) [] [] cpos) none pos.line env = pure false)
    (hQ : ∀ s', At c B H env ρ s' → s'.heap.PlainList D ys → Chg (fun b => b = D) s s' → (vw H s.heap).le (vw H s'.heap) → s'.gens = s.gens → s'.os = s.os → Q .next s') :
    wpAny c.M A (exec (.Expr (.Call (.Attribute (.Name y py) "pop" apos) [] [] cpos) pos) env) Q E s := by
  refine wpAny_Expr_any ?_ hi hsw
  refine wpAny_Call_method0_late hbase hline ?_
  refine wpAny_Name ?_ hyd
  have hno := X.seq_notOwn hm
  have fin : MethodOn c.prog c.w A "pop" cpos (.ref D) [] (fun x => Q .next) E s := by
    obtain ⟨n0, ho⟩ := id hm
    refine ⟨"list", "list.pop", PySem.F.plainAttrs_list, PySem.F.slot_list_pop, PySem.F.type_list_pop, ⟨_, ho, rfl⟩, fun a e => (by cases e; exact ⟨_, ho, rfl⟩), ?_⟩
    refine Calls.callWith_builtin rfl (evalArgs_none ?_)
    refine call_pop hm hsz fun h' hd' hk => ?_
    obtain ⟨n1, ho'⟩ := id hd'
    exact hQ _ (X.touch hD hBD hno hk ⟨_, ho'⟩ GE.rfl rfl) hd' (fun b o hb e => hk b o hb e) (fun b o ⟨hb, e⟩ => ⟨hb, hk b o (fun h => hb (h ▸ hD)) e⟩) rfl rfl
  rcases X.vars y _ hy with ⟨k, m, u, hn, hu, hp⟩ | ⟨k, a, u, ha, hu, hp⟩
  · obtain rfl := hp
    exact wpAny_loadName_local X.kind k hn hu fin
  · obtain rfl := hp
    rcases k with k | ⟨k, hx⟩
    · exact wpAny_loadName_cell X.kind k ha hu fin
    · exact wpAny_loadName_free X.kind k ha hu fin hx
end
end Mine
end
section
open PySem PySem.W
set_option Elab.async false
set_option maxRecDepth 100000
namespace Mine
abbrev Fr := Int × Addr × List Int
def suf (fr : List Fr) : List Int := fr.map (·.1)
abbrev isOf (fr : List Fr) : List Addr := fr.map (·.2.1)
def HG (O : Addr → Prop) (L D1 D2 : Addr) (is : List Addr) : Addr → Prop := fun b => O b ∨ b = L ∨ b = D1 ∨ b = D2 ∨ b ∈ is
def ZG (L D1 D2 : Addr) (is : List Addr) : Addr → Prop := fun b => b = L ∨ b = D1 ∨ b = D2 ∨ b ∈ is
def kvsOf (fr : List Fr) : List (Int × Value) := (fr.map fun f => (f.1, Value.ref f.2.1)).reverse
def keysP (fr : List Fr) : List (Int × VP) := (fr.map fun f => (f.1, pval (.ref f.2.1))).reverse

section
variable {c : Cfg} {n : Nat} {sc : Scope} {B : Shared} {O H H' : Addr → Prop} {env : Env} {ρ ρ' : List (Str × VP)} {s s' : Shared} {A : Around} {E : Value → Shared → Prop} {D1 D2 : Addr} {fr : List Fr}

/-- fewer hidden -/
theorem At.shrink (X : At c B H env ρ s) (hH : ∀ b, H' b → H b) (hL : H' env.locals) : At c B H' env ρ s := by
  have vle : (vw H s.heap).le (vw H' s.heap) := fun b o ⟨hb, e⟩ => ⟨fun h => hb (hH b h), e⟩
  exact ⟨X.base, X.ext, fun b hb => X.live b (hH b hb), hL, X.homeB, X.ns, X.globals, X.builtins, X.kind, X.one, X.cells, X.has, fun x p hx => (X.vars x p hx).keeps (fun _ _ e => e) vle⟩
theorem At.seeing (X : At c B H env ρ s) (hH : ∀ b, H' b → H b) (hL : H' env.locals)
    (h : ∀ x q, ρ'.lookup x = some q → ρ.lookup x = some q ∨ (∃ D, q.is (vw H' s.heap) (.ref D) ∧ ρ.lookup x = some (pval (.ref D)))) : At c B H' env ρ' s := by
  have X' := X.shrink hH hL
  refine ⟨X.base, X.ext, X'.live, hL, X.homeB, X.ns, X.globals, X.builtins, X.kind, X.one, X.cells, X.has, fun x q hx => ?_⟩
  rcases h x q hx with h' | ⟨D, hq, h'⟩
  · exact X'.vars x q h'
  · rcases X'.vars x _ h' with ⟨k, m, v, hm, hv, hpv⟩ | ⟨k, a, v, ha, hv, hpv⟩
    · obtain rfl := hpv; exact .inl ⟨k, m, _, hm, hv, hq⟩
    · obtain rfl := hpv; exact .inr ⟨k, a, _, ha, hv, hq⟩
/-- x = e, e valued where more is seen -/
theorem ex_assign_via {x : Str} {px pos : Pos} {e : Expr} {p q : VP} {Q : Flow → Shared → Prop} (X : At c B H env ρ s) (X2 : At c B H' env ρ' s) (hA : AC A n) (hs : env.scope = sc) (he : Ev c n sc ρ' e p) (hx : Mine1 B H env x)
    (hpq : ∀ s' v, Ext s s' → p.is (vw H' s'.heap) v → q.is (vw H s'.heap) v)
    (hQ : ∀ s', At c B H env ((x, q) :: ρ) s' → Chg (Own B env) s s' → (vw H s.heap).le (vw H s'.heap) → Q .next s') (hsw : swapsWith e (some (.Name x px)) pos.line env = pure false := by rfl) :
    wpAny c.M A (exec (.Assign [.Name x px] e pos) env) Q E s :=
  wpAny_Assign_Name (he A B H' env s _ E hs hA X2 fun v s₁ e₁ hv => (X.more e₁).store hx (hpq s₁ v e₁ hv) fun s' X' hc vle _ _ => hQ s' X' ((Chg.of_ext e₁).trans hc) ((e₁.view H).trans vle)) hsw

/-- xs[::-1] as a new list -/
theorem wp_rev {value one : Expr} {sp pos : Pos} {ps : List VP} {Q : Value → Shared → Prop} (X : At c B H env ρ s) (hA : AC A n) (hsc : env.scope = sc) (hv : Ev c n sc ρ value (plist ps)) (h1 : Ev c n sc ρ one (pint (-1))) (hsz : ps.length ≤ 2 ^ 20)
    (hQ : ∀ D s' ys, Ext s s' → s.heap.get? D = none → s'.heap.PlainList D ys → All2 (vw H s'.heap) ps.reverse ys.toList → Q (.ref D) s')
    (ht : ∀ o r, letTemporaryGo value o r = pure () := by intro _ _; rfl) : wpAny c.M A (eval (.Subscript value (.Slice none none (some one) sp) pos) env) Q E s := by
  refine wpAny_Subscript_Slice_step (T := "list") list_getitem_lookup (hv A B H env s _ E hsc hA X fun v s₁ e₁ ⟨a, xs, m, e, hl, hxs⟩ => wpAny_Slice (wpAny_pure (wpAny_pure (h1 A B H env s₁ _ E hsc hA (X.more e₁) fun u s₂ e₂ hu => ?_)))) ht
  subst e
  obtain ⟨t, rfl⟩ := hu
  have X₂ := (X.more e₁).more e₂
  have hlen : ps.length = xs.size := by have := hxs.length; simpa using this
  have hl2 := (e₂.view H) _ _ hl
  have f1 : Ext s₂ { s₂ with heap := s₂.heap.push { cls := .type "slice", data := .fields #[.none, .none, .int (-1) t] } } := Ext.push _ _
  have f2 : Ext { s₂ with heap := s₂.heap.push { cls := .type "slice", data := .fields #[.none, .none, .int (-1) t] } }
      { s₂ with heap := (s₂.heap.push { cls := .type "slice", data := .fields #[.none, .none, .int (-1) t] }).push { cls := .type "list", data := .seq (slicePick xs none none (some (-1))) } } := Ext.push _ _
  refine ⟨((vw_isList hl2).push _).typeIs, wpAny_getItem_list_slice ((vw_isList hl2).push _) (Heap.IsSliceOf.new ..) .none .none (.int (-1) t) (by simp) ?_ (by rw [sizeLine_eq]; omega)⟩
  refine hQ _ _ (slicePick xs none none (some (-1))) (((e₁.trans e₂).trans f1).trans f2) ?_ ⟨0, Heap.get?_push_size _ rfl⟩ ?_
  · cases hn : s.heap.get? (s₂.heap.push { cls := .type "slice", data := .fields #[.none, .none, .int (-1) t] }).objs.size with
    | none => rfl
    | some o =>
      have := Heap.lt_size (((e₁.trans e₂).trans f1).keep _ _ hn)
      exact absurd this (Nat.lt_irrefl _)
  · rw [slicePick_rev]
    exact (hxs.mono (((e₂.trans f1).trans f2).view H)).reverse

structure GSt (c : Cfg) (B : Shared) (O : Addr → Prop) (env : Env) (ρ : List (Str × VP)) (D1 D2 : Addr) (fr : List Fr) (s : Shared) : Prop where
  at' : At c B (HG O env.locals D1 D2 (isOf fr)) env ρ s
  hst : ρ.lookup ("stack" : Str) = some (pval (.ref D1))
  hpa : ρ.lookup ("path" : Str) = some (pval (.ref D2))
  d1 : s.heap.DictOf (intKind c.prog c.w) D1 (kvsOf fr)
  sys : (D1 == sysModules) = false
  own1 : ¬ Own B env D1
  o1 : ¬ O D1
  d2 : ∃ ys, s.heap.PlainList D2 ys ∧ PyProof.Rows.IntsAre ys.toList (suf fr).reverse
  o2 : ¬ O D2
  nd : (isOf fr).Nodup
  oI : ∀ f ∈ fr, ¬ O f.2.1
  b1 : B.heap.get? D1 = none
  b2 : B.heap.get? D2 = none
  bI : ∀ f ∈ fr, B.heap.get? f.2.1 = none
def Its (O : Addr → Prop) (L D1 D2 : Addr) (fr sub : List Fr) (s : Shared) : Prop := ∀ f ∈ sub, IterOk (HG O L D1 D2 (isOf fr)) s.heap f.2.1 (f.2.2.map pint)

theorem GSt.more (G : GSt c B O env ρ D1 D2 fr s) (e : Ext s s') : GSt c B O env ρ D1 D2 fr s' :=
  ⟨G.at'.more e, G.hst, G.hpa, G.d1.keep e.keep, G.sys, G.own1, G.o1, let ⟨ys, ⟨k, h⟩, a⟩ := G.d2; ⟨ys, ⟨k, e.keep _ _ h⟩, a⟩, G.o2, G.nd, G.oI, G.b1, G.b2, G.bI⟩
theorem Its.more {L : Addr} {sub : List Fr} (I : Its O L D1 D2 fr sub s) (e : Ext s s') : Its O L D1 D2 fr sub s' := fun f hf => (I f hf).keep fun b o _ h => e.keep b o h
theorem GSt.own2 (G : GSt c B O env ρ D1 D2 fr s) : ¬ Own B env D2 := let ⟨_, h, _⟩ := G.d2; G.at'.seq_notOwn h
/-- behind a store into the frame -/
theorem GSt.after (G : GSt c B O env ρ D1 D2 fr s) (X : At c B (HG O env.locals D1 D2 (isOf fr)) env ρ' s') (hc : Chg (Own B env) s s') (h1 : ρ'.lookup ("stack" : Str) = some (pval (.ref D1))) (h2 : ρ'.lookup ("path" : Str) = some (pval (.ref D2))) : GSt c B O env ρ' D1 D2 fr s' :=
  ⟨X, h1, h2, let ⟨o, es, ep, ho, r⟩ := G.d1; ⟨o, es, ep, hc _ _ G.own1 ho, r⟩, G.sys, G.own1, G.o1, let ⟨ys, ⟨k, h⟩, a⟩ := G.d2; ⟨ys, ⟨k, hc _ _ G.own2 h⟩, a⟩, G.o2, G.nd, G.oI, G.b1, G.b2, G.bI⟩
theorem Its.after {sub : List Fr} (I : Its O env.locals D1 D2 fr sub s) (X : At c B (HG O env.locals D1 D2 (isOf fr)) env ρ s) (hc : Chg (Own B env) s s') (hv : (vw (HG O env.locals D1 D2 (isOf fr)) s.heap).le (vw (HG O env.locals D1 D2 (isOf fr)) s'.heap)) : Its O env.locals D1 D2 fr sub s' := fun f hf =>
  (I f hf).keep fun b o hb e => by
    rcases hb with rfl | hb
    · have hap := it_apart X (I f hf)
      exact hc _ _ (fun h => h.elim hap.1 fun ⟨y, hy, _⟩ => hap.2 y hy) e
    · exact (hv b o ⟨hb, e⟩).2

def pstack (c : Cfg) (fr : List Fr) : VP := pdict c (keysP fr)
def HO (O : Addr → Prop) (L : Addr) : Addr → Prop := fun b => O b ∨ b = L
theorem all2_refs {V : View} : ∀ {fr : List Fr}, All2 V (fr.map fun f => pval (.ref f.2.1)) (fr.map fun f => .ref f.2.1)
  | [] => trivial
  | _ :: fr => ⟨rfl, all2_refs⟩
theorem GSt.seen (G : GSt c B O env ρ D1 D2 fr s) (h : ∀ x q, ρ'.lookup x = some q → ρ.lookup x = some q ∨ (x = "stack" ∧ q = pstack c fr) ∨ (x = "path" ∧ q = plist ((suf fr).reverse.map pint))) : At c B (HO O env.locals) env ρ' s := by
  refine G.at'.seeing (fun b hb => hb.imp id .inl) (.inr rfl) fun x q hx => ?_
  have hL1 : D1 ≠ env.locals := fun h => G.own1 (.inl h)
  have hL2 : D2 ≠ env.locals := fun h => G.own2 (.inl h)
  rcases h x q hx with h | ⟨rfl, rfl⟩ | ⟨rfl, rfl⟩
  · exact .inl h
  · obtain ⟨o, ho, hd⟩ := dictAt G.d1
    refine .inr ⟨D1, ⟨D1, o, kvsOf fr, rfl, ⟨fun h => h.elim G.o1 hL1, ho⟩, hd, G.sys, ?_, ?_⟩, G.hst⟩
    · unfold kvsOf keysP; rw [List.map_reverse, List.map_reverse, List.map_map, List.map_map]; rfl
    · unfold kvsOf keysP; rw [List.map_reverse, List.map_reverse, List.map_map, List.map_map]; exact All2.reverse all2_refs
  · obtain ⟨ys, ⟨k, h⟩, a⟩ := G.d2
    exact .inr ⟨D2, ⟨D2, ys, k, rfl, ⟨fun h => h.elim G.o2 hL2, h⟩, intsAll a⟩, G.hpa⟩
end
end Mine
end
section
open PySem PySem.W
set_option Elab.async false
set_option maxRecDepth 100000
namespace Mine
/-- the table that is walked, what is told from each on, and a measure -/
structure Dag (ah : List (Int × List Int)) (S : Int → Bool) (UP : Int → List (List Int)) (W : Int → Nat) : Prop where
  ent : ∀ v row, ah.lookup v = some row → 0 ≤ v ∧ v < 6 ∧ ∀ u ∈ row, u < v ∧ ∃ row', ah.lookup u = some row'
  up : ∀ v row, ah.lookup v = some row → UP v = (if S v then [[v]] else []) ++ row.flatMap fun u => (UP u).map (· ++ [v])
  w : ∀ v row, ah.lookup v = some row → W v = 2 + (row.map W).sum
  src : ∀ v row, ah.lookup v = some row → S v = true → row = []
def outsT (UP : Int → List (List Int)) : List Fr → List (List Int)
  | [] => []
  | f :: fr => f.2.2.flatMap (fun u => (UP u).map (· ++ (f.1 :: suf fr))) ++ outsT UP fr
def outs (S : Int → Bool) (UP : Int → List (List Int)) : List Fr → List (List Int)
  | [] => []
  | f :: fr => (if S f.1 then [f.1 :: suf fr] else []) ++ outsT UP (f :: fr)
def meas (W : Int → Nat) : List Fr → Nat
  | [] => 0
  | f :: fr => 1 + (f.2.2.map W).sum + meas W fr
structure Fok (ah : List (Int × List Int)) (S : Int → Bool) (fr : List Fr) : Prop where
  ent : ∀ f ∈ fr, ∀ u ∈ f.2.2, u < f.1 ∧ ∃ row', ah.lookup u = some row'
  inc : (suf fr).Pairwise (· < ·)
  tail : ∀ f ∈ fr.tail, S f.1 = false
  top : ∀ f fr', fr = f :: fr' → S f.1 = true → f.2.2 = []
  len : ∀ pre f fr', fr = pre ++ f :: fr' → (fr'.length : Int) + 1 + f.1 ≤ 6 ∧ 0 ≤ f.1

section
variable {ah : List (Int × List Int)} {S : Int → Bool} {UP : Int → List (List Int)} {W : Int → Nat} {fr : List Fr} {v u : Int} {I J : Addr} {rest row : List Int}
theorem Fok.pop (h : Fok ah S ((v, I, []) :: fr)) : Fok ah S fr := by
  refine ⟨fun f hf => h.ent f (by simp [hf]), (List.pairwise_cons.mp h.inc).2, fun f hf => h.tail f (List.mem_of_mem_tail hf), fun f fr' e hs => ?_, fun pre f fr' e => h.len ((v, I, []) :: pre) f fr' (by rw [e]; rfl)⟩
  have := h.tail f (by rw [e]; simp); rw [this] at hs; cases hs
theorem Fok.push (D : Dag ah S UP W) (h : Fok ah S ((v, I, u :: rest) :: fr)) (hr : ah.lookup u = some row) : Fok ah S ((u, J, row) :: (v, I, rest) :: fr) := by
  have hu := h.ent _ List.mem_cons_self u (by simp)
  have hv := h.len [] _ _ rfl
  obtain ⟨d1, d2, d3⟩ := D.ent u row hr
  refine ⟨fun f hf => ?_, ?_, fun f hf => ?_, fun f fr' e hs => ?_, fun pre f fr' e => ?_⟩
  · rcases List.mem_cons.mp hf with rfl | hf
    · exact d3
    · rcases List.mem_cons.mp hf with rfl | hf
      · exact fun x hx => h.ent _ List.mem_cons_self x (by simp at hx ⊢; exact .inr hx)
      · exact h.ent f (by simp [hf])
  · have h1 := List.pairwise_cons.mp h.inc
    refine List.pairwise_cons.mpr ⟨fun x hx => ?_, h.inc⟩
    rcases List.mem_cons.mp hx with rfl | hx
    · exact hu.1
    · exact Int.lt_trans hu.1 (h1.1 x hx)
  · rcases List.mem_cons.mp hf with rfl | hf
    · cases hs : S v with
      | false => rfl
      | true => have := h.top _ _ rfl hs; cases this
    · exact h.tail f hf
  · cases e; exact D.src _ _ hr hs
  · cases pre with
    | nil => cases e; simp only [List.length_cons] at hv ⊢; omega
    | cons q pre =>
      rw [List.cons_append] at e
      injection e with e1 e2
      cases pre with
      | nil => cases e2; exact hv
      | cons q' pre => rw [List.cons_append] at e2; injection e2 with e3 e4; exact h.len ((v, I, u :: rest) :: pre) f fr' (by rw [e4]; rfl)
theorem outs_pop (h : Fok ah S ((v, I, []) :: fr)) : outsT UP ((v, I, []) :: fr) = outs S UP fr := by
  cases fr with
  | nil => rfl
  | cons f fr =>
    have := h.tail f (by simp)
    simp only [outsT, outs, this]
    simp
theorem outs_push (D : Dag ah S UP W) (hr : ah.lookup u = some row) : outsT UP ((v, I, u :: rest) :: fr) = outs S UP ((u, J, row) :: (v, I, rest) :: fr) := by
  simp only [outsT, outs, suf, List.flatMap_cons, List.map_cons, D.up u row hr, List.map_append, List.map_flatMap, List.append_assoc, List.map_map]
  congr 1
  · cases S u <;> simp
  · congr 1
    congr 1
    funext x
    congr 1
    funext l
    simp
theorem meas_push (D : Dag ah S UP W) (hr : ah.lookup u = some row) : meas W ((u, J, row) :: (v, I, rest) :: fr) < meas W ((v, I, u :: rest) :: fr) := by
  simp only [meas, List.map_cons, List.sum_cons, D.w u row hr]
  omega
theorem Fok.length (h : Fok ah S fr) : fr.length ≤ 6 := by
  cases fr with
  | nil => simp
  | cons f fr => have := h.len [] f fr rfl; simp only [List.length_cons]; omega
theorem Fok.not_in (h : Fok ah S ((v, I, u :: rest) :: fr)) : (((keysP ((v, I, u :: rest) :: fr)).map Prod.fst).any (· == u)) = false := by
  rw [List.any_eq_false]
  intro x hx
  simp only [keysP, List.map_reverse, List.mem_reverse, List.map_map, List.mem_map, Function.comp] at hx
  obtain ⟨f, hf, rfl⟩ := hx
  have hu := (h.ent _ List.mem_cons_self u (by simp)).1
  have : u < f.1 := by
    rcases List.mem_cons.mp hf with rfl | hf
    · exact hu
    · exact Int.lt_trans hu ((List.pairwise_cons.mp h.inc).1 f.1 (List.mem_map_of_mem (f := fun f : Fr => f.1) hf))
  simp; omega
end
end Mine
end
section
open PySem PySem.W
set_option Elab.async false
set_option maxRecDepth 100000
namespace Mine
section
variable {c : Cfg} {n : Nat} {sc : Scope} {B : Shared} {O H H' : Addr → Prop} {env : Env} {ρ ρ' : List (Str × VP)} {s s' : Shared} {A : Around} {E : Value → Shared → Prop} {D1 D2 : Addr} {fr : List Fr}
/-- a call of one argument, with what comes of it left open -/
theorem wp_call1 {x : Str} {np pos : Pos} {f : Value} {e : Expr} {p : VP} {Q : Value → Shared → Prop} (X : At c B H env ρ s) (hA : AC A n) (hs : env.scope = sc) (hf : Ev c n sc ρ (.Name x np) (pval f)) (hk : Kept c f) (he : Ev c n sc ρ e p)
    (hr : ∀ s₁ v, Ext s s₁ → p.is (vw H s₁.heap) v → wpAny c.M A (call f [v]) Q E s₁)
    (hst : ∀ (env : Env) (rest : List Expr), starEach (e :: rest) env = (false, eval e env) :: starEach rest env := by intro _ _; rfl) : wpAny c.M A (eval (.Call (.Name x np) [e] [] pos) env) Q E s := by
  refine wpAny_Call_ofName (hf A B H env s _ E hs hA X fun v s₁ e₁ hv => ?_)
  obtain rfl := hv
  have he' : starEach (e :: []) env = (false, eval e env) :: starEach [] env := hst env []
  show wpAny c.M A (callWith pos v [] (backTo pos (starEach [e] env)) []) Q E s₁
  have items := ev_items (pos := pos) (E := E) hs hA [e] [p] s₁ (fun vs s₂ => c.K.In s₂.heap ∧ wpAny c.M A (call v ([] ++ vs)) Q E s₂) (evs_cons he evs_nil hst) (X.more e₁) (fun vs s₂ e₂ hvs => by
    have X₂ := (X.more e₁).more e₂
    obtain ⟨u, rfl, hu⟩ := all1 hvs
    exact ⟨X₂.gl.k, hr s₂ u (e₁.trans e₂) hu⟩)
  rw [he'] at items ⊢
  exact callWith_of (P := c.K.In) rfl hk (Calls.evalArgs_plain items)
/-- iter(xs), xs a list -/
theorem call_iter {ps : List VP} {v : Value} {Q : Value → Shared → Prop} (hH : Live H s.heap) (hp : (plist ps).is (vw H s.heap) v)
    (hQ : ∀ I s', Ext s s' → s.heap.get? I = none → (∀ H' : Addr → Prop, (∀ a, H' a → H a ∨ s.heap.get? a = none) → IterOk H' s'.heap I ps) → Q (.ref I) s') : wpAny c.M A (call (.builtin "iter") [v]) Q E s := by
  refine Calls.call_function_entry kind_iter plain_iter entry_iter (args_iter1 _) ?_
  unfold Builtin.«iter»
  refine wpAny_bind (m := someArgs "iter" 1 2 _) (wpAny_of_eq rfl ?_)
  refine wpAny_bind (itb_list (c := c) _ H s v _ E hH hp fun I s' e h1 h2 => ?_)
  exact wpAny_pure ⟨_, rfl, hQ I s' e h1 h2⟩

def ρ0 (c : Cfg) (S : Int → Bool) (ah : List (Int × List Int)) (t : Int) (D1 D2 : Addr) : List (Str × VP) :=
  [("path", pval (.ref D2)), ("stack", pval (.ref D1)), ("sources", pset c S), ("target", pint t), ("pred", pahead c ah)]

theorem ints_snoc : ∀ {l : List Value} {a : List Int} {v : Int}, PyProof.Rows.IntsAre l (a ++ [v]) → ∃ l' t, l = l' ++ [.int v t] ∧ PyProof.Rows.IntsAre l' a
  | l, [], v, h => by
    obtain ⟨t, vs, e1, e2⟩ := PyProof.Rows.IntsAre.cons_inv (ns := []) h
    subst e1
    have e3 : vs = [] := e2.nil_inv
    subst e3
    exact ⟨[], t, rfl, .nil⟩
  | l, b :: a, v, h => by
    rw [List.cons_append] at h
    obtain ⟨t, vs, e1, e2⟩ := h.cons_inv
    subst e1
    obtain ⟨l', t', e3, h'⟩ := ints_snoc (a := a) (v := v) e2
    subst e3
    exact ⟨.int b t :: l', t', rfl, .cons b t h'⟩
theorem ints_app : ∀ {l m : List Value} {a b : List Int}, PyProof.Rows.IntsAre l a → PyProof.Rows.IntsAre m b → PyProof.Rows.IntsAre (l ++ m) (a ++ b)
  | _, _, _, _, .nil, h => h
  | _, _, _, _, .cons n t h', h => .cons n t (ints_app h' h)

variable {S : Int → Bool} {ah : List (Int × List Int)} {t v : Int} {I : Addr} {rest : List Int}
/-- the top's iterator is at its end: it is let go -/
theorem GSt.dropTop {h' : Heap} (G : GSt c B O env ρ D1 D2 ((v, I, rest) :: fr) s) (hI : IterOk (HG O env.locals D1 D2 (I :: isOf fr)) s.heap I (rest.map pint)) (he : Heap.ExtBut I s.heap h') :
    At c B (HG O env.locals D1 D2 (isOf fr)) env ρ { s with heap := h' } ∧ I ≠ D1 ∧ I ≠ D2 ∧ I ≠ env.locals ∧ (vw (HG O env.locals D1 D2 (I :: isOf fr)) s.heap).le (vw (HG O env.locals D1 D2 (isOf fr)) h') := by
  have hap := it_apart G.at' hI
  have hI1 : I ≠ D1 := fun h => by
    obtain ⟨o, vs, ho, hd, _⟩ := hI.get
    obtain ⟨o', es, ep, ho', _, hd', _⟩ := G.d1
    rw [← h, ho] at ho'; cases ho'; rw [hd] at hd'; cases hd'
  have hI2 : I ≠ D2 := fun h => by
    obtain ⟨o, vs, ho, hd, _⟩ := hI.get
    obtain ⟨ys, ⟨k, ho'⟩, _⟩ := G.d2
    rw [← h, ho] at ho'; cases ho'; cases hd
  have hnd : I ∉ isOf fr := (List.nodup_cons.mp G.nd).1
  have hne : ∀ b, HG O env.locals D1 D2 (isOf fr) b → b ≠ I := fun b hb h => by
    subst h
    rcases hb with h | h | h | h | h
    · exact G.oI _ List.mem_cons_self h
    · exact hap.1 h
    · exact hI1 h
    · exact hI2 h
    · exact hnd h
  have hsub : ∀ b, HG O env.locals D1 D2 (isOf fr) b → HG O env.locals D1 D2 (I :: isOf fr) b := fun b hb => hb.imp id (Or.imp id (Or.imp id (Or.imp id (List.mem_cons_of_mem _))))
  have vle : (vw (HG O env.locals D1 D2 (I :: isOf fr)) s.heap).le (vw (HG O env.locals D1 D2 (isOf fr)) h') := fun b o ⟨hb, e⟩ => ⟨fun h => hb (hsub b h), he b o (fun h => hb (by rw [h]; exact .inr (.inr (.inr (.inr List.mem_cons_self))))) e⟩
  have hB : ∀ b o, B.heap.get? b = some o → b ≠ I := fun b o e h => by rw [h, G.bI _ List.mem_cons_self] at e; cases e
  refine ⟨G.at'.to vle (fun o h => he _ o (Ne.symm hap.1) h) (fun y a o hy h => he a o (fun h' => hap.2 y (h' ▸ hy)) h) (fun b o hb h => he b o (hB b o hb) h) (fun b hb => ?_) (.inr (.inl rfl)) GE.rfl rfl, hI1, hI2, hap.1, vle⟩
  obtain ⟨o, e⟩ := G.at'.live b (hsub b hb)
  exact ⟨o, he b o (hne b hb) e⟩

/-- stack.popitem(); path.pop() -/
theorem pop_run {f1 f2 f3 f4 g1 g2 g3 g4 : Pos} {Q : Flow → Shared → Prop} (X : At c B (HG O env.locals D1 D2 (isOf fr)) env ρ s) (hA : AC A n) (hsc : env.scope = sc)
    (h1 : ρ.lookup ("stack" : Str) = some (pval (.ref D1))) (h2 : ρ.lookup ("path" : Str) = some (pval (.ref D2))) (own1 : ¬ Own B env D1) (b1 : B.heap.get? D1 = none) (b2 : B.heap.get? D2 = none) (sys : (D1 == sysModules) = false)
    (d1 : s.heap.DictOf (intKind c.prog c.w) D1 (kvsOf ((v, I, rest) :: fr))) {ys : Array Value} (d2 : s.heap.PlainList D2 ys) (a2 : PyProof.Rows.IntsAre ys.toList (suf ((v, I, rest) :: fr)).reverse) (hl : fr.length ≤ 100)
    (hf : (f2.endLine == f3.line) = true) (hg : (g2.endLine == g3.line) = true)
    (hQ : ∀ s', At c B (HG O env.locals D1 D2 (isOf fr)) env ρ s' → s'.heap.DictOf (intKind c.prog c.w) D1 (kvsOf fr) → (∃ ys, s'.heap.PlainList D2 ys ∧ PyProof.Rows.IntsAre ys.toList (suf fr).reverse) → Chg (fun b => b = D1 ∨ b = D2) s s' → (vw (HG O env.locals D1 D2 (isOf fr)) s.heap).le (vw (HG O env.locals D1 D2 (isOf fr)) s'.heap) → Q .next s') :
    wpAny c.M A (execs [.Expr (.Call (.Attribute (.Name "stack" f1) "popitem" f2) [] [] f3) f4, .Expr (.Call (.Attribute (.Name "path" g1) "pop" g2) [] [] g3) g4] env) Q E s := by
  have hne : D1 ≠ D2 := fun h => by
    obtain ⟨o, es, ep, ho, hc, hd, _⟩ := d1
    obtain ⟨k, ho'⟩ := d2
    rw [h, ho'] at ho; cases ho; cases hd
  have hk : kvsOf ((v, I, rest) :: fr) = kvsOf fr ++ [(v, .ref I)] := by unfold kvsOf; rw [List.map_cons, List.reverse_cons]
  have hs : (suf ((v, I, rest) :: fr)).reverse = (suf fr).reverse ++ [v] := by unfold suf; rw [List.map_cons, List.reverse_cons]
  rw [hk] at d1
  rw [hs] at a2
  obtain ⟨l', tk, e1, a2'⟩ := ints_snoc a2
  have e2 : ys = l'.toArray.push (.int v tk) := by rw [← Array.toList_inj, e1, Array.toList_push]
  subst e2
  have hlen : l'.length = fr.length := by have := a2'.length; rw [List.length_reverse] at this; unfold suf at this; rw [List.length_map] at this; exact this
  refine wpAny_execs_cons (ex_popitem X hA hsc h1 (.inr (.inr (.inl rfl))) b1 own1 sys d1 (by unfold kvsOf; rw [List.length_reverse, List.length_map]; omega) (by decide) rfl hf X.quiet rfl fun s₁ X₁ d1' c₁ v₁ _ _ => ?_)
  have d2' : s₁.heap.PlainList D2 (l'.toArray.push (.int v tk)) := let ⟨k, e⟩ := d2; ⟨k, c₁ _ _ (Ne.symm hne) e⟩
  refine wpAny_execs_cons (ex_pop X₁ hA hsc h2 (.inr (.inr (.inr (.inl rfl)))) b2 d2' (by simp; omega) (by decide) rfl hg X.quiet rfl fun s₂ X₂ d2'' c₂ v₂ _ _ => ?_)
  refine wpAny_execs_nil (hQ s₂ X₂ ?_ ⟨_, d2'', by simpa using a2'⟩ ((c₁.mono fun b h => .inl h).trans (c₂.mono fun b h => .inr h)) (v₁.trans v₂))
  obtain ⟨o, es, ep, ho, r⟩ := d1'
  exact ⟨o, es, ep, c₂ _ _ hne ho, r⟩
end
end Mine
end
section
open PySem PySem.W
set_option Elab.async false
set_option maxRecDepth 100000
namespace Mine
section
variable {c : Cfg} {n : Nat} {sc : Scope} {B : Shared} {O : Addr → Prop} {env : Env} {s : Shared} {A : Around} {E : Value → Shared → Prop} {D1 D2 : Addr} {fr : List Fr}
variable {S : Int → Bool} {ah : List (Int × List Int)} {UP : Int → List (List Int)} {W : Int → Nat} {t v : Int} {I : Addr} {rest : List Int}

theorem lookup_last {l : List (Int × VP)} {k : Int} {p : VP} (h : ∀ x ∈ l, x.1 ≠ k) : (l ++ [(k, p)]).lookup k = some p := by
  induction l with
  | nil => simp
  | cons x l ih =>
    rw [List.cons_append, List.lookup_cons]
    have : (k == x.1) = false := by simpa using fun e : k = x.1 => h x List.mem_cons_self e.symm
    rw [this]
    exact ih fun y hy => h y (List.mem_cons_of_mem _ hy)
theorem lookup_pl {ah : List (Int × List Int)} {u : Int} {row : List Int} (h : ah.lookup u = some row) : (ah.map fun x => (x.1, plist (x.2.map pint))).lookup u = some (plist (row.map pint)) := by
  induction ah with
  | nil => cases h
  | cons x l ih =>
    rw [List.lookup_cons] at h
    rw [List.map_cons, List.lookup_cons]
    cases hx : u == x.1 with
    | true => rw [hx] at h; cases h; rfl
    | false => rw [hx] at h; exact ih h
theorem IterOk.to {H H' : Addr → Prop} {h h' : Heap} {J : Addr} {ps : List VP} (x : IterOk H h J ps) (hJ : ∀ o, h.get? J = some o → h'.get? J = some o) (hv : (vw H h).le (vw H' h')) : IterOk H' h' J ps := by
  rcases x with ⟨l, i, xs, ⟨o, a1, a2⟩, b, d, ⟨o', c1, c2⟩, e⟩ | ⟨l, i, xs, ⟨o, a1, a2⟩, b, d, ⟨o', c1, c2⟩, e⟩ | ⟨a, m, r, e⟩
  · obtain ⟨h1, h2⟩ := hv l o' ⟨b, c1⟩
    exact .inl ⟨l, i, xs, ⟨o, hJ _ a1, a2⟩, h1, d, ⟨o', h2, c2⟩, e.mono hv⟩
  · obtain ⟨h1, h2⟩ := hv l o' ⟨b, c1⟩
    exact .inr (.inl ⟨l, i, xs, ⟨o, hJ _ a1, a2⟩, h1, d, ⟨o', h2, c2⟩, e.mono hv⟩)
  · exact .inr (.inr ⟨a, m, hJ _ r, e⟩)
theorem GSt.iter_ne {ρ : List (Str × VP)} {H : Addr → Prop} {J : Addr} {ps : List VP} (G : GSt c B O env ρ D1 D2 fr s) (hI : IterOk H s.heap J ps) : J ≠ D1 ∧ J ≠ D2 ∧ J ≠ env.locals := by
  refine ⟨fun h => ?_, fun h => ?_, fun h => ?_⟩
  · obtain ⟨o, vs, ho, hd, _⟩ := hI.get
    obtain ⟨o', es, ep, ho', _, hd', _⟩ := G.d1
    rw [← h, ho] at ho'; cases ho'; rw [hd] at hd'; cases hd'
  · obtain ⟨o, vs, ho, hd, _⟩ := hI.get
    obtain ⟨ys, ⟨k, ho'⟩, _⟩ := G.d2
    rw [← h, ho] at ho'; cases ho'; cases hd
  · obtain ⟨o, vs, ho, hd, _⟩ := hI.get
    obtain ⟨m, o', es, ep, ho', hd', _⟩ := G.at'.ns
    rw [← h, ho] at ho'; cases ho'; rw [hd] at hd'; cases hd'

theorem for_step {ip a1 a2 a3 a4 a5 b1 b2 b3 b4 b5 b6 b7 b8 b9 d1 d2 d3 d4 d5 d6 f1 f2 f3 f4 g1 g2 g3 g4 p1 p2 p3 pos : Pos} {Q : Flow → Shared → Prop}
    (G : GSt c B O env (("node", pint v) :: ρ0 c S ah t D1 D2) D1 D2 ((v, I, rest) :: fr) s) (hI : Its O env.locals D1 D2 ((v, I, rest) :: fr) ((v, I, rest) :: fr) s) (F : Fok ah S ((v, I, rest) :: fr)) (D : Dag ah S UP W) (hA : AC A n) (hsc : env.scope = sc)
    (hcells : ∀ x, env.cells.lookup x = none) (hk : sc.kind = .function) (hear : sc.names.lookup ("earlier" : Str) = some .local) (hiter : sc.names.lookup ("iter" : Str) = some .globalImplicit) (hmi : c.mg "iter" = none)
    (hd : (d2.endLine == d4.line) = true) (hf : (f2.endLine == f3.line) = true) (hg : (g2.endLine == g3.line) = true)
    (hnil : rest = [] → ∀ s', GSt c B O env (ρ0 c S ah t D1 D2) D1 D2 fr s' → Its O env.locals D1 D2 fr fr s' → Chg (ZG env.locals D1 D2 (isOf ((v, I, rest) :: fr))) s s' → Q .next s')
    (hcons : ∀ u rest' row J, rest = u :: rest' → ah.lookup u = some row → ∀ s', GSt c B O env (ρ0 c S ah t D1 D2) D1 D2 ((u, J, row) :: (v, I, rest') :: fr) s' → Its O env.locals D1 D2 ((u, J, row) :: (v, I, rest') :: fr) ((u, J, row) :: (v, I, rest') :: fr) s' →
      Chg (ZG env.locals D1 D2 (isOf ((v, I, rest) :: fr))) s s' → s.heap.get? J = none → Q .next s') :
    wpAny c.M A (exec (.For (.Name "earlier" ip) (.Subscript (.Name "stack" p1) (.Name "node" p2) p3)
      [.If (.Compare (.Name "earlier" a1) [.In] [.Name "stack" a2] a3) [.Continue a4] [] a5,
       .Assign [.Subscript (.Name "stack" b1) (.Name "earlier" b2) b3] (.Call (.Name "iter" b4) [.Subscript (.Name "pred" b5) (.Name "earlier" b6) b7] [] b8) b9,
       .Expr (.Call (.Attribute (.Name "path" d1) "append" d2) [.Name "earlier" d3] [] d4) d5, .Break d6]
      [.Expr (.Call (.Attribute (.Name "stack" f1) "popitem" f2) [] [] f3) f4, .Expr (.Call (.Attribute (.Name "path" g1) "pop" g2) [] [] g3) g4] pos) env) Q E s := by
  have hlen := F.length
  simp only [List.length_cons] at hlen
  have Xs : At c B (HO O env.locals) env [("stack", pstack c ((v, I, rest) :: fr)), ("node", pint v)] s := G.seen fun x q h => by
    rw [List.lookup_cons] at h
    cases hx : x == ("stack" : Str) with
    | true => rw [hx] at h; cases h; exact .inr (.inl ⟨beq_iff_eq.mp hx, rfl⟩)
    | false => rw [hx] at h; exact .inl (Sub.le (ρ' := [("node", pint v)]) ⟨rfl, trivial⟩ x q h)
  have hkey : (keysP ((v, I, rest) :: fr)).lookup v = some (pval (.ref I)) := by
    unfold keysP; rw [List.map_cons, List.reverse_cons]
    refine lookup_last fun x hx => ?_
    simp only [List.mem_reverse, List.mem_map] at hx
    obtain ⟨f, hf, rfl⟩ := hx
    have := (List.pairwise_cons.mp F.inc).1 f.1 (List.mem_map_of_mem (f := fun f : Fr => f.1) hf)
    intro h; rw [h] at this; exact Int.lt_irrefl _ this
  refine wpAny_For (Ev.go (ev_sub (ev_name rfl) (ev_name rfl) (gi_dict hkey)) hsc hA Xs fun w s₁ e₁ hw => ?_) (fun _ => rfl)
  obtain rfl := hw
  have G₁ := G.more e₁
  have I₁ := hI.more e₁
  have itop := I₁ _ List.mem_cons_self
  refine iter_self itop ?_
  refine codeAny_forLoop (fun _ s' => s' = s₁) (fun _ s' hs => ?_) 0 rfl
  subst hs
  have hap := it_apart G₁.at' itop
  cases rest with
  | nil =>
    refine iter_done hA.handled itop fun h' he => ?_
    obtain ⟨X₂, hI1, hI2, hIL, v₂⟩ := G₁.dropTop itop he
    have d1 : h'.DictOf (intKind c.prog c.w) D1 (kvsOf ((v, I, []) :: fr)) := G₁.d1.extBut he (Ne.symm hI1)
    obtain ⟨ys, ⟨k, hys⟩, hall⟩ := G₁.d2
    refine pop_run (rest := []) X₂ hA hsc rfl rfl G.own1 G.b1 G.b2 G.sys d1 (ys := ys) ⟨k, he _ _ (Ne.symm hI2) hys⟩ hall (by omega) hf hg fun s₃ X₃ d1' d2' c₃ v₃ => ?_
    refine hnil rfl s₃ ⟨X₃.weak (Sub.le ⟨rfl, rfl, rfl, rfl, rfl, trivial⟩), rfl, rfl, d1', G.sys, G.own1, G.o1, d2', G.o2, (List.nodup_cons.mp G.nd).2, fun f hf => G.oI f (List.mem_cons_of_mem _ hf), G.b1, G.b2, fun f hf => G.bI f (List.mem_cons_of_mem _ hf)⟩ (fun f hf => ?_) (fun b o hb e => ?_)
    · have i1 := I₁ f (List.mem_cons_of_mem _ hf)
      obtain ⟨j1, j2, j3⟩ := G₁.iter_ne i1
      have jI : f.2.1 ≠ I := fun h => (List.nodup_cons.mp G.nd).1 (by have hm : f.2.1 ∈ isOf fr := List.mem_map_of_mem (f := fun f : Fr => f.2.1) hf; rw [h] at hm; exact hm)
      exact (i1.to (fun o e => he _ o jI e) v₂).to (fun o e => c₃ _ o (fun h => h.elim j1 j2) e) v₃
    · have hbI : b ≠ I := fun h => hb (.inr (.inr (.inr (by rw [h]; exact List.mem_cons_self))))
      exact c₃ b o (fun h => hb (h.elim (fun h => .inr (.inl h)) fun h => .inr (.inr (.inl h)))) (he b o hbI (e₁.keep b o e))
  | cons u rest =>
    obtain ⟨hu, row, hrow⟩ := F.ent _ List.mem_cons_self u List.mem_cons_self
    have hHI : HG O env.locals D1 D2 (isOf ((v, I, rest) :: fr)) I := .inr (.inr (.inr (.inr List.mem_cons_self)))
    obtain ⟨hI1, hI2, hIL⟩ := G₁.iter_ne itop
    have hnoI : ¬ Own B env I := fun h => h.elim hap.1 fun ⟨y, hy, _⟩ => hap.2 y hy
    refine iter_next hHI itop fun w h' tk hs hw it₂ => ?_
    have k₂ : ∀ b o, b ≠ I → s'.heap.get? b = some o → h'.get? b = some o := fun b o hb e => hs.extBut b o hb e
    have X₂ : At c B (HG O env.locals D1 D2 (isOf ((v, I, rest) :: fr))) env _ { s' with heap := h', toks := tk } := G₁.at'.touch hHI (G.bI _ List.mem_cons_self) hnoI (fun b o hb e => k₂ b o hb e) (let ⟨o, _, ho, _⟩ := it₂.get; ⟨o, ho⟩) GE.rfl rfl
    have v₂ : (vw (HG O env.locals D1 D2 (isOf ((v, I, rest) :: fr))) s'.heap).le (vw (HG O env.locals D1 D2 (isOf ((v, I, rest) :: fr))) h') := fun b o ⟨hb, e⟩ => ⟨hb, k₂ b o (fun h => hb (h ▸ hHI)) e⟩
    have G₂ : GSt c B O env (("node", pint v) :: ρ0 c S ah t D1 D2) D1 D2 ((v, I, rest) :: fr) { s' with heap := h', toks := tk } :=
      ⟨X₂, rfl, rfl, G₁.d1.extBut hs.extBut (Ne.symm hI1), G.sys, G.own1, G.o1, let ⟨ys, ⟨k, h⟩, a⟩ := G₁.d2; ⟨ys, ⟨k, k₂ _ _ (Ne.symm hI2) h⟩, a⟩, G.o2, G.nd, fun f hf => (by rcases List.mem_cons.mp hf with rfl | hf; exact G.oI (v, I, u :: rest) List.mem_cons_self; exact G.oI f (List.mem_cons_of_mem _ hf)), G.b1, G.b2,
        fun f hf => (by rcases List.mem_cons.mp hf with rfl | hf; exact G.bI (v, I, u :: rest) List.mem_cons_self; exact G.bI f (List.mem_cons_of_mem _ hf))⟩
    have I₂ : Its O env.locals D1 D2 ((v, I, rest) :: fr) ((v, I, rest) :: fr) { s' with heap := h', toks := tk } := fun f hf => by
      rcases List.mem_cons.mp hf with rfl | hf
      · exact it₂
      · refine (I₁ f (List.mem_cons_of_mem _ hf)).to (fun o e => k₂ _ o (fun h => ?_) e) v₂
        have hm : f.2.1 ∈ isOf fr := List.mem_map_of_mem (f := fun f : Fr => f.2.1) hf
        rw [h] at hm
        exact (List.nodup_cons.mp G.nd).1 hm
    -- earlier = …
    refine wpAny_assign_Name (X₂.store (mine_local hsc hear) hw fun s₃ X₃ c₃ v₃ g₃ o₃ => ?_)
    have G₃ := G₂.after X₃ c₃ rfl rfl
    have I₃ := I₂.after X₂ c₃ v₃
    have Xs₃ : At c B (HO O env.locals) env [("stack", pstack c ((v, I, rest) :: fr)), ("earlier", pint u), ("pred", pahead c ah)] s₃ := G₃.seen fun x q h => by
      rw [List.lookup_cons] at h
      cases hx : x == ("stack" : Str) with
      | true => rw [hx] at h; cases h; exact .inr (.inl ⟨beq_iff_eq.mp hx, rfl⟩)
      | false => rw [hx] at h; exact .inl (Sub.le (ρ' := [("earlier", pint u), ("pred", pahead c ah)]) ⟨rfl, rfl, trivial⟩ x q h)
    -- if earlier in stack
    have F₂ : Fok ah S ((v, I, u :: rest) :: fr) := F
    refine wpAny_execs_cons (wpAny_If (Ts.go (b := false) (ts_cast (ts_cmp (ev_name rfl) (ev_name rfl) c_in_dict) F₂.not_in) hsc hA Xs₃ fun s₄ e₄ => ?_))
    show wpAny c.M A (execs [] env) _ _ s₄
    refine wpAny_execs_nil ?_
    have G₄ := G₃.more e₄
    have I₄ := I₃.more e₄
    have Xs₄ := Xs₃.more e₄
    -- stack[earlier] = iter(pred[earlier])
    have hown : ∀ b, Own B env b → b = env.locals := fun b h => h.elim id fun ⟨x, hx, _⟩ => (by rw [hcells x] at hx; cases hx)
    have X₄ := G₄.at'
    refine wpAny_execs_cons (wpAny_Assign_Subscript (wp_call1 X₄ hA hsc (ev_boot hk hiter hmi boot_iter (by decide)) kept_builtin (ev_sub (p := pahead c ah) (ev_name rfl) (ev_name (p := pint u) rfl) (gi_dict (p := plist (row.map pint)) (lookup_pl hrow))) fun s₅ w₅ e₅ hw₅ => ?_) rfl)
    refine call_iter (X₄.more e₅).live hw₅ fun J s₆ e₆ hJ itJ => ?_
    have J₆ : IterOk (HG O env.locals D1 D2 (J :: I :: isOf fr)) s₆.heap J (row.map pint) := itJ _ fun a ha => by
      rcases ha with h | h | h | h | h
      · exact .inl (.inl h)
      · exact .inl (.inr (.inl h))
      · exact .inl (.inr (.inr (.inl h)))
      · exact .inl (.inr (.inr (.inr (.inl h))))
      · rcases List.mem_cons.mp h with rfl | h
        · exact .inr hJ
        · exact .inl (.inr (.inr (.inr (.inr h))))
    obtain ⟨oJ, _, hoJ, _⟩ := J₆.get
    have X₆ : At c B (HG O env.locals D1 D2 (J :: I :: isOf fr)) env (("earlier", pint u) :: ("node", pint v) :: ρ0 c S ah t D1 D2) s₆ := ((X₄.more e₅).hide e₆ hJ ⟨oJ, hoJ⟩).shrink (fun b hb => by
      rcases hb with h | h | h | h | h
      · exact .inl (.inl h)
      · exact .inl (.inr (.inl h))
      · exact .inl (.inr (.inr (.inl h)))
      · exact .inl (.inr (.inr (.inr (.inl h))))
      · rcases List.mem_cons.mp h with rfl | h
        · exact .inr rfl
        · exact .inl (.inr (.inr (.inr (.inr h))))) (.inr (.inl rfl))
    have hBJ : B.heap.get? J = none := (X₄.more e₅).base_none hJ
    refine Ev.go (p := pval (.ref D1)) (ev_name rfl) hsc hA X₆ fun ov s₇ e₇ hov => ?_
    obtain rfl := hov
    refine Ev.go (p := pint u) (ev_name rfl) hsc hA (X₆.more e₇) fun iv s₈ e₈ hiv => ?_
    obtain ⟨tu, rfl⟩ := hiv
    have e48 := ((e₅.trans e₆).trans e₇).trans e₈
    have X₈ := (X₆.more e₇).more e₈
    have G₈ := G₄.more e48
    have hfl : (kvsOf ((v, I, rest) :: fr)).length ≤ 100 := by unfold kvsOf; rw [List.length_reverse, List.length_map, List.length_cons]; omega
    have hnk : u ∉ (kvsOf ((v, I, rest) :: fr)).map Prod.fst := fun hm => by
      have := F₂.not_in
      rw [List.any_eq_false] at this
      refine this u ?_ (by simp)
      unfold kvsOf at hm; unfold keysP
      rw [List.map_reverse, List.map_map] at hm ⊢
      exact hm
    refine wpAny_setItem_pairs (knd := intKind c.prog c.w) (k := u) (intKind_is _ _ _ _) G₈.d1 (fun h₉ hd₉ hs₉ => ?_) (by rw [sizeLine_eq]; omega)
    rw [stored_new hnk] at hd₉
    have hd₉' : h₉.DictOf (intKind c.prog c.w) D1 (kvsOf ((u, J, row) :: (v, I, rest) :: fr)) := by
      have e : kvsOf ((u, J, row) :: (v, I, rest) :: fr) = kvsOf ((v, I, rest) :: fr) ++ [(u, .ref J)] := by unfold kvsOf; rw [List.map_cons, List.reverse_cons]
      rw [e]; exact hd₉
    obtain ⟨o₉, ho₉, _⟩ := dictAt hd₉
    have hH1 : HG O env.locals D1 D2 (J :: I :: isOf fr) D1 := .inr (.inr (.inl rfl))
    have k₉ : ∀ b o, b ≠ D1 → s₈.heap.get? b = some o → h₉.get? b = some o := fun b o hb e => hs₉.extBut b o hb e
    have X₉ : At c B (HG O env.locals D1 D2 (J :: I :: isOf fr)) env (("earlier", pint u) :: ("node", pint v) :: ρ0 c S ah t D1 D2) { s₈ with heap := h₉, toks := s₈.toks + 1 } := X₈.touch hH1 G.b1 G.own1 (fun b o hb e => k₉ b o hb e) ⟨o₉, ho₉⟩ GE.rfl rfl
    have v₉ : (vw (HG O env.locals D1 D2 (J :: I :: isOf fr)) s₈.heap).le (vw (HG O env.locals D1 D2 (J :: I :: isOf fr)) h₉) := fun b o ⟨hb, e⟩ => ⟨hb, k₉ b o (fun h => hb (h ▸ hH1)) e⟩
    -- path.append(earlier)
    obtain ⟨ys, ⟨ky, hys⟩, hall⟩ := G₈.d2
    have hne : D2 ≠ D1 := fun h => by
      obtain ⟨o, es, ep, ho, hc, hd, _⟩ := G₈.d1
      rw [← h, hys] at ho; cases ho; cases hd
    refine wpAny_execs_cons (ex_append (ps := (suf ((v, I, rest) :: fr)).reverse.map pint) X₉ hA hsc rfl (.inr (.inr (.inr (.inl rfl)))) G.b2 ⟨ky, k₉ _ _ hne hys⟩ (intsAll hall) (by rw [List.length_map, List.length_reverse]; unfold suf; rw [List.length_map, List.length_cons]; omega)
      (ev_name (p := pint u) rfl) (by decide) rfl rfl hd rfl X₉.quiet rfl fun s₁₀ ys' X₁₀ hys' hall' c₁₀ v₁₀ => ?_)
    refine wpAny_execs_cons (wpAny_Break ?_)
    show Q .next s₁₀
    have hJn := (X₄.more e₅).not_hid hJ
    have hJ1 : J ≠ D1 := fun h => hJn (.inr (.inr (.inl h)))
    have hJ2 : J ≠ D2 := fun h => hJn (.inr (.inr (.inr (.inl h))))
    have hJo : ¬ O J := fun h => hJn (.inl h)
    have hJi : J ∉ I :: isOf fr := fun h => hJn (.inr (.inr (.inr (.inr h))))
    have v05 : (vw (HG O env.locals D1 D2 (I :: isOf fr)) s.heap).le (vw (HG O env.locals D1 D2 (I :: isOf fr)) s₅.heap) :=
      ((((e₁.view _).trans v₂).trans v₃).trans (e₄.view _)).trans (e₅.view _)
    have hsuf : (suf ((u, J, row) :: (v, I, rest) :: fr)).reverse = (suf ((v, I, rest) :: fr)).reverse ++ [u] := by unfold suf; rw [List.map_cons, List.reverse_cons]
    have v46 : (vw (HG O env.locals D1 D2 (I :: isOf fr)) s₄.heap).le (vw (HG O env.locals D1 D2 (J :: I :: isOf fr)) s₆.heap) := fun b o ⟨hb, e⟩ => by
      refine ⟨fun h => ?_, (e₅.trans e₆).keep b o e⟩
      rcases h with h | h | h | h | h
      · exact hb (.inl h)
      · exact hb (.inr (.inl h))
      · exact hb (.inr (.inr (.inl h)))
      · exact hb (.inr (.inr (.inr (.inl h))))
      · rcases List.mem_cons.mp h with h | h
        · have := e₅.keep b o e; rw [h, hJ] at this; cases this
        · exact hb (.inr (.inr (.inr (.inr h))))
    have tail : ∀ {K : Addr} {ps : List VP}, K ≠ D1 → K ≠ D2 → IterOk (HG O env.locals D1 D2 (J :: I :: isOf fr)) s₆.heap K ps → IterOk (HG O env.locals D1 D2 (J :: I :: isOf fr)) s₁₀.heap K ps := fun h1 h2 x =>
      (((x.to (fun o e => (e₇.trans e₈).keep _ o e) ((e₇.trans e₈).view _)).to (fun o e => k₉ _ o h1 e) v₉).to (fun o e => c₁₀ _ o h2 e) v₁₀)
    refine hcons u rest row J rfl hrow s₁₀ ⟨X₁₀.weak (Sub.le ⟨rfl, rfl, rfl, rfl, rfl, trivial⟩), rfl, rfl, ?_, G.sys, G.own1, G.o1, ⟨ys', hys', ?_⟩, G.o2, List.nodup_cons.mpr ⟨hJi, G.nd⟩, ?_, G.b1, G.b2, ?_⟩ ?_ ?_ ?_
    · obtain ⟨o, es, ep, ho, r⟩ := hd₉'
      exact ⟨o, es, ep, c₁₀ _ _ (Ne.symm hne) ho, r⟩
    · rw [hsuf]
      exact intsAre (V := vw (HG O env.locals D1 D2 (J :: I :: isOf fr)) s₁₀.heap) (by rw [List.map_append]; exact hall')
    · intro f hf
      rcases List.mem_cons.mp hf with rfl | hf
      · exact hJo
      · rcases List.mem_cons.mp hf with rfl | hf
        · exact G.oI (v, I, u :: rest) List.mem_cons_self
        · exact G.oI f (List.mem_cons_of_mem _ hf)
    · intro f hf
      rcases List.mem_cons.mp hf with rfl | hf
      · exact hBJ
      · rcases List.mem_cons.mp hf with rfl | hf
        · exact G.bI (v, I, u :: rest) List.mem_cons_self
        · exact G.bI f (List.mem_cons_of_mem _ hf)
    · intro f hf
      rcases List.mem_cons.mp hf with rfl | hf
      · exact tail hJ1 hJ2 J₆
      · have i4 := I₄ f hf
        obtain ⟨j1, j2, j3⟩ := G₄.iter_ne i4
        exact tail j1 j2 (i4.to (fun o e => (e₅.trans e₆).keep _ o e) v46)
    · intro b o hb e
      have b1 : b ≠ D1 := fun h => hb (.inr (.inl h))
      have b2 : b ≠ D2 := fun h => hb (.inr (.inr (.inl h)))
      have b3 : b ≠ I := fun h => hb (.inr (.inr (.inr (by rw [h]; exact List.mem_cons_self))))
      have b4 : ¬ Own B env b := fun h => hb (.inl (hown b h))
      exact c₁₀ b o b2 (k₉ b o b1 (e48.keep b o (e₄.keep b o (c₃ b o b4 (k₂ b o b3 (e₁.keep b o e))))))
    · cases hq : s.heap.get? J with
      | none => rfl
      | some o =>
        have := (v05 J o ⟨hJn, hq⟩).2
        rw [hJ] at this; cases this
end
end Mine
end
section
open PySem PySem.W
set_option Elab.async false
set_option maxRecDepth 100000
namespace Mine
/-- a set that holds what the generator may turn -/
def ZR (c : Cfg) (L : Addr) (h : Heap) (Zs : Addr → Prop) : Prop :=
  Zs L ∧ ∀ m, h.Ns L m → (∀ D1, m "stack" = some (.ref D1) → Zs D1 ∧ ∀ kvs, h.DictOf (intKind c.prog c.w) D1 kvs → ∀ J, Value.ref J ∈ kvs.map Prod.snd → Zs J) ∧ (∀ D2, m "path" = some (.ref D2) → Zs D2)
theorem ZR.mono {c : Cfg} {L : Addr} {h : Heap} {Z Z' : Addr → Prop} (x : ZR c L h Z) (hz : ∀ b, Z b → Z' b) : ZR c L h Z' :=
  ⟨hz _ x.1, fun m hm => ⟨fun D1 h1 => ⟨hz _ ((x.2 m hm).1 D1 h1).1, fun kvs hk J hJ => hz _ (((x.2 m hm).1 D1 h1).2 kvs hk J hJ)⟩, fun D2 h2 => hz _ ((x.2 m hm).2 D2 h2)⟩⟩
theorem pairs_vals {knd : KeyKind prog w Int} {es : List DictEntry} {kvs : List (Int × Value)} (h : Pairs knd es kvs) : kvs.map Prod.snd = es.map (·.val) := by
  induction h with
  | nil => rfl
  | cons h1 h2 h3 ih => rw [List.map_cons, List.map_cons, ih, h2]
theorem dictOf_vals {c : Cfg} {h : Heap} {D : Addr} {k1 k2 : List (Int × Value)} (x : h.DictOf (intKind c.prog c.w) D k1) (y : h.DictOf (intKind c.prog c.w) D k2) : k1.map Prod.snd = k2.map Prod.snd := by
  obtain ⟨o, es, ep, ho, _, hd, _, hp, _⟩ := x
  obtain ⟨o', es', ep', ho', _, hd', _, hp', _⟩ := y
  rw [ho] at ho'; cases ho'; rw [hd] at hd'; cases hd'
  rw [pairs_vals hp, pairs_vals hp']
section
variable {c : Cfg} {n : Nat} {sc : Scope} {B : Shared} {O : Addr → Prop} {env : Env} {ρ : List (Str × VP)} {s s' s₀ : Shared} {A : Around} {E : Value → Shared → Prop} {D1 D2 : Addr} {fr : List Fr}
theorem GSt.name (G : GSt c B O env ρ D1 D2 fr s) (hcells : ∀ x, env.cells.lookup x = none) : ∃ m, s.heap.Ns env.locals m ∧ m "stack" = some (.ref D1) ∧ m "path" = some (.ref D2) := by
  rcases G.at'.vars _ _ G.hst with ⟨_, m, v, hm, hv, hp⟩ | ⟨_, a, v, ha, _⟩
  · obtain rfl := hp
    rcases G.at'.vars _ _ G.hpa with ⟨_, m', v', hm', hv', hp'⟩ | ⟨_, a, v, ha, _⟩
    · obtain rfl := hp'
      obtain rfl := ns_unique hm hm'
      exact ⟨m, hm, hv, hv'⟩
    · rw [hcells] at ha; cases ha
  · rw [hcells] at ha; cases ha
theorem GSt.zr (G : GSt c B O env ρ D1 D2 fr s) (hcells : ∀ x, env.cells.lookup x = none) {Zs : Addr → Prop} (h : ZR c env.locals s.heap Zs) : ∀ b, ZG env.locals D1 D2 (isOf fr) b → Zs b := by
  obtain ⟨m, hm, h1, h2⟩ := G.name hcells
  obtain ⟨a1, a2⟩ := h.2 m hm
  rintro b (rfl | rfl | rfl | hb)
  · exact h.1
  · exact (a1 _ h1).1
  · exact a2 _ h2
  · refine (a1 _ h1).2 _ G.d1 b ?_
    unfold kvsOf
    rw [List.map_reverse, List.mem_reverse, List.map_map]
    obtain ⟨f, hf, rfl⟩ := List.mem_map.mp hb
    exact List.mem_map.mpr ⟨f, hf, rfl⟩
theorem GSt.zr_mk (G : GSt c B O env ρ D1 D2 fr s) (hcells : ∀ x, env.cells.lookup x = none) : ZR c env.locals s.heap (ZG env.locals D1 D2 (isOf fr)) := by
  obtain ⟨m, hm, h1, h2⟩ := G.name hcells
  refine ⟨.inl rfl, fun m' hm' => ?_⟩
  obtain rfl := ns_unique hm hm'
  refine ⟨fun D hD => ?_, fun D hD => ?_⟩
  · rw [h1] at hD; cases hD
    refine ⟨.inr (.inl rfl), fun kvs hk J hJ => ?_⟩
    rw [dictOf_vals hk G.d1] at hJ
    unfold kvsOf at hJ
    rw [List.map_reverse, List.mem_reverse, List.map_map] at hJ
    obtain ⟨f, hf, e⟩ := List.mem_map.mp hJ
    have e' : f.2.1 = J := by simpa using e
    exact .inr (.inr (.inr (List.mem_map.mpr ⟨f, hf, e'⟩)))
  · rw [h2] at hD; cases hD
    exact .inr (.inr (.inl rfl))

/-- what was turned since s₀ -/
def Track (c : Cfg) (L : Addr) (s₀ s : Shared) (Z : Addr → Prop) : Prop := ∀ Zs, ZR c L s₀.heap Zs → Chg Zs s₀ s ∧ ∀ b, Z b → Zs b ∨ s₀.heap.get? b = none
theorem Track.step {L : Addr} {Z Z' : Addr → Prop} (x : Track c L s₀ s Z) (hc : Chg Z s s') (hn : ∀ b, Z' b → Z b ∨ s.heap.get? b = none) : Track c L s₀ s' Z' := fun Zs hZ => by
  obtain ⟨h1, h2⟩ := x Zs hZ
  refine ⟨fun b o hb e => hc b o (fun hz => ?_) (h1 b o hb e), fun b hb => ?_⟩
  · rcases h2 b hz with h | h
    · exact hb h
    · rw [h] at e; cases e
  · rcases hn b hb with h | h
    · exact h2 b h
    · by_cases hz : Zs b
      · exact .inl hz
      · refine .inr ?_
        cases e : s₀.heap.get? b with
        | none => rfl
        | some o => rw [h1 b o hz e] at h; cases h
theorem Track.start (G : GSt c B O env ρ D1 D2 fr s) (hcells : ∀ x, env.cells.lookup x = none) : Track c env.locals s s (ZG env.locals D1 D2 (isOf fr)) :=
  fun _ hZ => ⟨Chg.rfl, fun b hb => .inl (G.zr hcells hZ b hb)⟩

def GY (c : Cfg) (L : Addr) (O Oc : Addr → Prop) (all : List (List Int)) : Protocol := fun n s₀ v s' kap =>
  (∃ path D ys, all[all.length - 1 - n]? = some path ∧ n < all.length ∧ v = .ref D ∧ ¬ O D ∧ s'.heap.PlainList D ys ∧ PyProof.Rows.IntsAre ys.toList path ∧
    (∀ Zs, ZR c L s₀.heap Zs → Chg Zs s₀ s' ∧ ∃ Z', ZR c L s'.heap Z' ∧ (∀ b, Z' b → Zs b ∨ s₀.heap.get? b = none) ∧ Live Z' s'.heap ∧ ¬ Z' D)) ∧
  GE s₀.gens s'.gens ∧ s'.os = s₀.os ∧ ∀ s'', Chg Oc s' s'' → Live O s''.heap → kap (.send .none) s''
def GR (c : Cfg) (L : Addr) : GenEnd := fun n s₀ r s₁ => r = .ok (.ret .none) ∧ n = 0 ∧ GE s₀.gens s₁.gens ∧ s₁.os = s₀.os ∧ ∀ Zs, ZR c L s₀.heap Zs → Chg Zs s₀ s₁

def Bs (B s₀ : Shared) : Shared := { B with gens := s₀.gens, os := s₀.os }

/-- woken again: what others may turn has turned -/
theorem GSt.resume {Oc : Addr → Prop} (G : GSt c (Bs B s₀) O env ρ D1 D2 fr s) (hcells : ∀ x, env.cells.lookup x = none) (hcO : Chg Oc s s') (hsub : ∀ b, Oc b → O b) (hL : Live O s'.heap) (hOB : ∀ b, Oc b → B.heap.get? b = none) (hOL : ¬ O env.locals) : GSt c (Bs B s') O env ρ D1 D2 fr s' := by
  have hc : Chg O s s' := hcO.mono hsub
  have vle : (vw (HG O env.locals D1 D2 (isOf fr)) s.heap).le (vw (HG O env.locals D1 D2 (isOf fr)) s'.heap) := fun b o ⟨hb, e⟩ => ⟨hb, hc b o (fun h => hb (.inl h)) e⟩
  obtain ⟨m, o, es, ep, ho, r⟩ := G.at'.ns
  have hLk : ∀ o, s.heap.get? env.locals = some o → s'.heap.get? env.locals = some o := fun o e => hc _ o hOL e
  refine ⟨⟨G.at'.base, ⟨fun b o e => hcO b o (fun h => by have := hOB b h; rw [show (Bs B s').heap.get? b = B.heap.get? b from rfl, this] at e; cases e) (G.at'.ext.keep b o e), GE.rfl, rfl⟩, fun b hb => ?_, G.at'.homeH, G.at'.homeB, ⟨m, o, es, ep, hLk o ho, r⟩, G.at'.globals, G.at'.builtins, G.at'.kind, G.at'.one,
      fun x a h => (by rw [hcells] at h; cases h), G.at'.has, fun x p hx => ?_⟩, G.hst, G.hpa, ?_, G.sys, G.own1, G.o1, ?_, G.o2, G.nd, G.oI, G.b1, G.b2, G.bI⟩
  · by_cases h : O b
    · exact hL b h
    · obtain ⟨o, e⟩ := G.at'.live b hb
      exact ⟨o, hc b o h e⟩
  · rcases G.at'.vars x p hx with ⟨k, m, v, ⟨o, es, ep, e, r⟩, hv, hp⟩ | ⟨k, a, v, ha, _⟩
    · exact .inl ⟨k, m, v, ⟨o, es, ep, hLk o e, r⟩, hv, p.mono vle hp⟩
    · rw [hcells] at ha; cases ha
  · obtain ⟨o, es, ep, ho, r⟩ := G.d1
    exact ⟨o, es, ep, hc _ _ G.o1 ho, r⟩
  · obtain ⟨ys, ⟨k, h⟩, a⟩ := G.d2
    exact ⟨ys, ⟨k, hc _ _ G.o2 h⟩, a⟩
theorem Its.resume {L : Addr} {sub : List Fr} (I : Its O L D1 D2 fr sub s) (hc : Chg O s s') (hO : ∀ f ∈ sub, ¬ O f.2.1) : Its O L D1 D2 fr sub s' := fun f hf =>
  (I f hf).keep fun b o hb e => hc b o (fun h => hb.elim (fun h' => hO f hf (h' ▸ h)) fun h' => h' (.inl h)) e

theorem seg_If {M : Model} {R : GenEnd} {Y : Protocol} {k : Nat} {cd : Code} {fs : List Frame} {test : Expr} {body orelse : List Stmt} {pos : Pos} {K : Flow → Sem Fin} {Hh : Value → Sem Fin} {gd : Bool → Bool} {lv : List Value → List Value}
    (h : wpAny M (A.over cd fs) (isTrue test env (eval test env)) (fun b s' => Seg M A R Y k s₀ cd ((if b = true then execs body env else execs orelse env).wrap K Hh gd lv) fs s') (fun x s' => Seg M A R Y k s₀ cd (Hh x) fs s') s) :
    Seg M A R Y k s₀ cd ((exec (.If test body orelse pos) env).wrap K Hh gd lv) fs s := by
  rw [exec_If]
  show Seg M A R Y k s₀ cd (.at pos fun _ => ((isTrue test env (eval test env)) >>= fun b => if b = true then execs body env else execs orelse env).wrap K Hh gd lv) fs s
  refine seg_at ?_
  rw [Sem.bind_eq_wrap', Sem.wrap_wrap]
  exact seg_wrap h
end
end Mine
end
section
open PySem PySem.W
set_option Elab.async false
set_option maxRecDepth 100000
namespace Mine
section
variable {c : Cfg} {n : Nat} {sc : Scope} {B : Shared} {O Oc : Addr → Prop} {env : Env} {A : Around} {D1 D2 : Addr}
variable {S : Int → Bool} {ah : List (Int × List Int)} {UP : Int → List (List Int)} {W : Int → Nat} {t : Int}

theorem while_seg {test : Expr} {body : List Stmt} {t1 n1 n2 n3 n4 n5 n6 i1 i2 i3 i4 y1 y3 y4 y5 y6 y7 y8 ip a1 a2 a3 a4 a5 b1 b2 b3 b4 b5 b6 b7 b8 b9 d1 d2 d3 d4 d5 d6 f1 f2 f3 f4 g1 g2 g3 g4 p1 p2 p3 pos : Pos} {k1 y2 : Nat}
    (htest : test = .Name "stack" t1)
    (hbody : body = [.Assign [.Name "node" n1] (.Subscript (.Name "path" n2) (.UnaryOp .USub (.Constant (.int 1) k1 n3) n4) n5) n6,
      .If (.Compare (.Name "node" i1) [.In] [.Name "sources" i2] i3) [.Expr (.Yield (some (.Subscript (.Name "path" y1) (.Slice none none (some (.UnaryOp .USub (.Constant (.int 1) y2 y3) y4)) y5) y6)) y7) y8] [] i4,
      .For (.Name "earlier" ip) (.Subscript (.Name "stack" p1) (.Name "node" p2) p3)
      [.If (.Compare (.Name "earlier" a1) [.In] [.Name "stack" a2] a3) [.Continue a4] [] a5,
       .Assign [.Subscript (.Name "stack" b1) (.Name "earlier" b2) b3] (.Call (.Name "iter" b4) [.Subscript (.Name "pred" b5) (.Name "earlier" b6) b7] [] b8) b9,
       .Expr (.Call (.Attribute (.Name "path" d1) "append" d2) [.Name "earlier" d3] [] d4) d5, .Break d6]
      [.Expr (.Call (.Attribute (.Name "stack" f1) "popitem" f2) [] [] f3) f4, .Expr (.Call (.Attribute (.Name "path" g1) "pop" g2) [] [] g3) g4] pos])
    (D : Dag ah S UP W) (hsc : env.scope = sc) (hcells : ∀ x, env.cells.lookup x = none) (hk : sc.kind = .function) (hco : sc.isCoroutine = false) (hear : sc.names.lookup ("earlier" : Str) = some .local) (hnode : sc.names.lookup ("node" : Str) = some .local)
    (hiter : sc.names.lookup ("iter" : Str) = some .globalImplicit) (hmi : c.mg "iter" = none)
    (hd : (d2.endLine == d4.line) = true) (hf : (f2.endLine == f3.line) = true) (hg : (g2.endLine == g3.line) = true)
    (hsub : ∀ b, Oc b → O b) (hOB : ∀ b, Oc b → B.heap.get? b = none) (hOL : ¬ O env.locals) (all : List (List Int))
    {kk : Result → Sem Fin} {lv : List Value} {c₁ : Code} {pp : Pos} (hA : AC (A.over (.whileLoop test body [] env) [.ret kk none false lv c₁ pp []]) n)
    (hend : ∀ s₀ s, GR c env.locals 0 s₀ (.ok (.ret .none)) s → Seg c.M A (GR c env.locals) (GY c env.locals O Oc all) 0 s₀ c₁ (kk (.ok .next)) [] s) :
    ∀ (m : Nat) (fr : List Fr) (s s₀ : Shared) (done : List (List Int)), meas W fr = m → GSt c (Bs B s₀) O env (ρ0 c S ah t D1 D2) D1 D2 fr s → Its O env.locals D1 D2 fr fr s → Fok ah S fr → all = done ++ outs S UP fr →
      Track c env.locals s₀ s (ZG env.locals D1 D2 (isOf fr)) →
      Seg c.M A (GR c env.locals) (GY c env.locals O Oc all) (outs S UP fr).length s₀ (.whileLoop test body [] env) (c.M.den (.whileLoop test body [] env)) [.ret kk none false lv c₁ pp []] s := by
  intro m
  induction m using Nat.strongRecOn with
  | _ m ih =>
  intro fr s s₀ done hm G I F hall T
  have hlen := F.length
  have hkl : (kvsOf fr).length = fr.length := by unfold kvsOf; rw [List.length_reverse, List.length_map]
  refine seg_whileLoop ?_
  rw [htest]
  refine wpAny_isTrue_value (Ev.go (p := pval (.ref D1)) (ev_name rfl) hsc (htest ▸ hA) G.at' fun v s₁ e₁ hv => ?_)
  obtain rfl := hv
  have G₁ := G.more e₁
  have I₁ := I.more e₁
  rw [← htest]
  refine wpAny_truthy_dict (knd := intKind c.prog c.w) G.sys G₁.d1 (by rw [hkl]; omega) ?_
  have e₁' : Ext s { s₁ with toks := s₁.toks + 1 + 1 } := e₁.trans (.toks _)
  have G₂ := G.more e₁'
  have I₂ := I.more e₁'
  have T₂ : Track c env.locals s₀ { s₁ with toks := s₁.toks + 1 + 1 } (ZG env.locals D1 D2 (isOf fr)) := T.step (Chg.of_ext e₁') fun b hb => .inl hb
  generalize ({ s₁ with toks := s₁.toks + 1 + 1 } : Shared) = s₂ at G₂ I₂ T₂ ⊢
  clear G₁ I₁ e₁'
  cases fr with
  | nil =>
    show Seg c.M A (GR c env.locals) (GY c env.locals O Oc all) 0 s₀ _ ((execs [] env).wrap _ _ id id) _ s₂
    refine seg_execs_nil ?_
    refine seg_leaf (.ok .next) (hend s₀ s₂ ⟨rfl, rfl, G₂.at'.ext.gens, G₂.at'.ext.os, fun Zs hZ => (T₂ Zs hZ).1⟩)
  | cons f fr =>
  obtain ⟨v, I0, rest⟩ := f
  have hne : (!(kvsOf ((v, I0, rest) :: fr)).isEmpty) = true := by
    have : (kvsOf ((v, I0, rest) :: fr)).length ≠ 0 := by rw [hkl]; simp
    cases hq : kvsOf ((v, I0, rest) :: fr) with
    | nil => rw [hq] at this; exact absurd rfl this
    | cons _ _ => rfl
  rw [if_pos hne]
  -- behind the yield: the for
  have cont : ∀ (s₀ s : Shared) (done : List (List Int)), GSt c (Bs B s₀) O env (("node", pint v) :: ρ0 c S ah t D1 D2) D1 D2 ((v, I0, rest) :: fr) s → Its O env.locals D1 D2 ((v, I0, rest) :: fr) ((v, I0, rest) :: fr) s →
      all = done ++ outsT UP ((v, I0, rest) :: fr) → Track c env.locals s₀ s (ZG env.locals D1 D2 (isOf ((v, I0, rest) :: fr))) →
      Seg c.M A (GR c env.locals) (GY c env.locals O Oc all) (outsT UP ((v, I0, rest) :: fr)).length s₀ (.whileLoop test body [] env) ((execs [.For (.Name "earlier" ip) (.Subscript (.Name "stack" p1) (.Name "node" p2) p3)
      [.If (.Compare (.Name "earlier" a1) [.In] [.Name "stack" a2] a3) [.Continue a4] [] a5,
       .Assign [.Subscript (.Name "stack" b1) (.Name "earlier" b2) b3] (.Call (.Name "iter" b4) [.Subscript (.Name "pred" b5) (.Name "earlier" b6) b7] [] b8) b9,
       .Expr (.Call (.Attribute (.Name "path" d1) "append" d2) [.Name "earlier" d3] [] d4) d5, .Break d6]
      [.Expr (.Call (.Attribute (.Name "stack" f1) "popitem" f2) [] [] f3) f4, .Expr (.Call (.Attribute (.Name "path" g1) "pop" g2) [] [] g3) g4] pos] env).wrap (fun f => match f with
            | .next | .cont => .pure (.again (.whileLoop test body [] env))
            | .brk => .pure (.done .next)
            | .ret v => .pure (.done (.ret v))) (fun e => (do noteFrame e env; theTreesLotGoes e : Sem Unit).wrap (fun _ => .raise e) .raise id id) id id) [.ret kk none false lv c₁ pp []] s := by
    intro s₀ s done G I hall T
    refine seg_execs_cons (seg_wrap (for_step G I F D hA hsc hcells hk hear hiter hmi hd hf hg (fun hr s' G' I' hc => ?_) (fun u rest' row J hr hrow s' G' I' hc hJ => ?_)))
    · subst hr
      refine seg_execs_nil (seg_again rfl ?_)
      rw [outs_pop (S := S) F] at hall ⊢
      refine ih (meas W fr) (by rw [← hm]; simp only [meas]; omega) fr s' s₀ done rfl G' I' F.pop hall (T.step hc fun b hb => .inl ?_)
      exact hb.imp id (Or.imp id (Or.imp id fun h => List.mem_cons_of_mem _ h))
    · subst hr
      refine seg_execs_nil (seg_again rfl ?_)
      rw [outs_push (I := I0) (J := J) (rest := rest') (fr := fr) (v := v) D hrow] at hall ⊢
      refine ih (meas W ((u, J, row) :: (v, I0, rest') :: fr)) (by rw [← hm]; exact meas_push D hrow) _ s' s₀ done rfl G' I' (F.push D hrow) hall (T.step hc fun b hb => ?_)
      rcases hb with h | h | h | h
      · exact .inl (.inl h)
      · exact .inl (.inr (.inl h))
      · exact .inl (.inr (.inr (.inl h)))
      · rcases List.mem_cons.mp h with rfl | h
        · exact .inr hJ
        · exact .inl (.inr (.inr (.inr h)))
  have hb := congrArg (fun b => execs b env) hbody
  rw [hb]
  clear hb
  -- node = path[-1]
  have Xs : At c (Bs B s₀) (HO O env.locals) env [("path", plist ((suf ((v, I0, rest) :: fr)).reverse.map pint))] s₂ := G₂.seen fun x q h => by
    rw [List.lookup_cons] at h
    cases hx : x == ("path" : Str) with
    | true => rw [hx] at h; cases h; exact .inr (.inr ⟨beq_iff_eq.mp hx, rfl⟩)
    | false => rw [hx] at h; cases h
  have hsl : ((suf ((v, I0, rest) :: fr)).reverse.map pint).length = fr.length + 1 := by unfold suf; simp
  refine seg_execs_cons (seg_wrap (ex_assign_via (p := pint v) (q := pint v) G₂.at' Xs hA hsc (ev_sub (ev_name rfl) (ev_neg ev_int) (gi_list_neg (k := -1) (by decide) (by rw [hsl]; omega) ?_ (by decide))) (mine_local hsc hnode) (fun _ _ _ h => h) fun s₃ X₃ c₃ v₃ => ?_))
  · rw [hsl, show ((-1 : Int) + ((fr.length + 1 : Nat) : Int)).toNat = fr.length by omega]
    unfold suf
    rw [List.map_cons, List.reverse_cons, List.map_append, List.getElem?_append_right (by simp)]
    simp
  have G₃ := G₂.after X₃ c₃ rfl rfl
  have I₃ := I₂.after G₂.at' c₃ v₃
  have hown : ∀ b, Own (Bs B s₀) env b → b = env.locals := fun b h => h.elim id fun ⟨x, hx, _⟩ => (by rw [hcells x] at hx; cases hx)
  have T₃ : Track c env.locals s₀ s₃ (ZG env.locals D1 D2 (isOf ((v, I0, rest) :: fr))) := T₂.step (c₃.mono fun b h => .inl (hown b h)) fun b hb => .inl hb
  -- if node in sources
  refine seg_execs_cons (seg_If (Ts.go (b := S v) (ts_cmp (q := pset c S) (ev_name (p := pint v) rfl) (ev_name rfl) c_in_set) hsc hA G₃.at' fun s₄ e₄ => ?_))
  have G₄ := G₃.more e₄
  have I₄ := I₃.more e₄
  have T₄ : Track c env.locals s₀ s₄ (ZG env.locals D1 D2 (isOf ((v, I0, rest) :: fr))) := T₃.step (Chg.of_ext e₄) fun b hb => .inl hb
  cases hS : S v with
  | false =>
    rw [if_neg (by decide)]
    refine seg_execs_nil ?_
    have ho : outs S UP ((v, I0, rest) :: fr) = outsT UP ((v, I0, rest) :: fr) := by simp only [outs, hS]; simp
    rw [ho] at hall ⊢
    exact cont s₀ s₄ done G₄ I₄ hall T₄
  | true =>
    rw [if_pos rfl]
    have ho : outs S UP ((v, I0, rest) :: fr) = [suf ((v, I0, rest) :: fr)] ++ outsT UP ((v, I0, rest) :: fr) := by simp only [outs, hS]; rfl
    rw [ho] at hall ⊢
    rw [List.length_append, List.length_singleton, Nat.add_comm 1]
    have Xs₄ : At c (Bs B s₀) (HO O env.locals) env [("path", plist ((suf ((v, I0, rest) :: fr)).reverse.map pint))] s₄ := G₄.seen fun x q h => by
      rw [List.lookup_cons] at h
      cases hx : x == ("path" : Str) with
      | true => rw [hx] at h; cases h; exact .inr (.inr ⟨beq_iff_eq.mp hx, rfl⟩)
      | false => rw [hx] at h; cases h
    refine seg_execs_cons (seg_Expr_Yield rfl rfl rfl (wp_rev Xs₄ hA hsc (ev_name rfl) (ev_neg ev_int) (by rw [hsl]; simp only [List.length_cons] at hlen; omega) fun DD s₅ ys e₅ hDD hys hyall => ?_) (by rw [hsc]; exact hco) G₄.at'.quiet)
    intro kap hkap
    have G₅ := G₄.more e₅
    have I₅ := I₄.more e₅
    have T₅ : Track c env.locals s₀ s₅ (ZG env.locals D1 D2 (isOf ((v, I0, rest) :: fr))) := T₄.step (Chg.of_ext e₅) fun b hb => .inl hb
    have hal : all.length = done.length + 1 + (outsT UP ((v, I0, rest) :: fr)).length := by rw [hall]; simp; omega
    have hDn := G₄.at'.not_hid hDD
    refine ⟨⟨suf ((v, I0, rest) :: fr), DD, ys, ?_, by omega, rfl, ?_, hys, ?_, fun Zs hZ => ⟨(T₅ Zs hZ).1, ZG env.locals D1 D2 (isOf ((v, I0, rest) :: fr)), G₅.zr_mk hcells, (T₅ Zs hZ).2, fun b hb => G₅.at'.live b (.inr hb), fun h => hDn (.inr h)⟩⟩, G₅.at'.ext.gens, G₅.at'.ext.os, fun s₆ hc hL => ?_⟩
    · rw [hal, show done.length + 1 + (outsT UP ((v, I0, rest) :: fr)).length - 1 - (outsT UP ((v, I0, rest) :: fr)).length = done.length by omega, hall, List.getElem?_append_right (Nat.le_refl _), Nat.sub_self]
      rfl
    · exact fun h => hDn (.inl h)
    · rw [← List.map_reverse, List.reverse_reverse] at hyall
      exact intsAre hyall
    · have G₆ := G₅.resume hcells hc hsub hL hOB hOL
      have I₆ := I₅.resume (hc.mono hsub) G₅.oI
      refine hkap .none s₆ ?_
      show Seg c.M A _ _ (outsT UP ((v, I0, rest) :: fr)).length s₆ _ ((execs [] env).wrap _ _ id id) _ s₆
      refine seg_execs_nil ?_
      refine cont s₆ s₆ (done ++ [suf ((v, I0, rest) :: fr)]) G₆ I₆ (by rw [hall]; simp) (Track.start G₆ hcells)
end
end Mine
end
section
open PySem PySem.W
set_option Elab.async false
set_option maxRecDepth 100000
namespace Mine
theorem ac_func {A : Around} {n : Nat} {body : List Stmt} {env : Env} (h : AC A (n + 1)) : AC (A.over (.func body env) []) n :=
  ⟨h.handled, by have := h.depth; show A.depth + 0 + 1 + n ≤ 600; omega, by have := h.units; show A.units + 0 + 3 + 30 * n ≤ 3000; omega, h.guards⟩
theorem ac_while {A : Around} {n : Nat} {body b o : List Stmt} {t : Expr} {env env' : Env} {kk : Result → Sem Fin} {lv : List Value} {p : Pos} (h : AC A (n + 1)) : AC (A.over (.whileLoop t b o env') [.ret kk none false lv (.func body env) p []]) n :=
  ⟨h.handled, by have := h.depth; show A.depth + 1 + 0 + n ≤ 600; omega, by have := h.units; show A.units + 3 + 0 + 30 * n ≤ 3000; omega, h.guards⟩
def ρg (c : Cfg) (S : Int → Bool) (ah : List (Int × List Int)) (t : Int) : List (Str × VP) := [("sources", pset c S), ("target", pint t), ("pred", pahead c ah)]
theorem keys_in {ah : List (Int × List Int)} {t : Int} {row : List Int} (h : ah.lookup t = some row) : ((ah.map fun x => (x.1, plist (x.2.map pint))).map Prod.fst).any (· == t) = true := by
  rw [List.any_eq_true]
  rw [List.lookup_eq_some_iff] at h
  obtain ⟨l, r, rfl, _⟩ := h
  exact ⟨t, by simp, by simp⟩
section
variable {c : Cfg} {n : Nat} {sc : Scope} {B : Shared} {O Oc : Addr → Prop} {env : Env} {A : Around}
variable {S : Int → Bool} {ah : List (Int × List Int)} {UP : Int → List (List Int)} {W : Int → Nat} {t : Int} {row : List Int}

theorem gen_seg {gbody rs wbody : List Stmt} {test : Expr} {s₀ : Shared} {h1 h2 h3 h4 q1 q2 q3 q4 q5 q6 q7 q8 q9 r1 r2 r3 r4 w1 : Pos} {t1 n1 n2 n3 n4 n5 n6 i1 i2 i3 i4 y1 y3 y4 y5 y6 y7 y8 ip a1 a2 a3 a4 a5 b1 b2 b3 b4 b5 b6 b7 b8 b9 d1 d2 d3 d4 d5 d6 f1 f2 f3 f4 g1 g2 g3 g4 p1 p2 p3 pos : Pos} {k1 y2 : Nat}
    (hgb : gbody = [.If (.Compare (.Name "target" h1) [.NotIn] [.Name "pred" h2] h3) rs [] h4,
      .Assign [.Name "stack" q1] (.Dict [some (.Name "target" q2)] [.Call (.Name "iter" q3) [.Subscript (.Name "pred" q4) (.Name "target" q5) q6] [] q7] q8) q9,
      .Assign [.Name "path" r1] (.List [.Name "target" r2] r3) r4,
      .While test wbody [] w1])
    (htest : test = .Name "stack" t1)
    (hbody : wbody = [.Assign [.Name "node" n1] (.Subscript (.Name "path" n2) (.UnaryOp .USub (.Constant (.int 1) k1 n3) n4) n5) n6,
      .If (.Compare (.Name "node" i1) [.In] [.Name "sources" i2] i3) [.Expr (.Yield (some (.Subscript (.Name "path" y1) (.Slice none none (some (.UnaryOp .USub (.Constant (.int 1) y2 y3) y4)) y5) y6)) y7) y8] [] i4,
      .For (.Name "earlier" ip) (.Subscript (.Name "stack" p1) (.Name "node" p2) p3)
      [.If (.Compare (.Name "earlier" a1) [.In] [.Name "stack" a2] a3) [.Continue a4] [] a5,
       .Assign [.Subscript (.Name "stack" b1) (.Name "earlier" b2) b3] (.Call (.Name "iter" b4) [.Subscript (.Name "pred" b5) (.Name "earlier" b6) b7] [] b8) b9,
       .Expr (.Call (.Attribute (.Name "path" d1) "append" d2) [.Name "earlier" d3] [] d4) d5, .Break d6]
      [.Expr (.Call (.Attribute (.Name "stack" f1) "popitem" f2) [] [] f3) f4, .Expr (.Call (.Attribute (.Name "path" g1) "pop" g2) [] [] g3) g4] pos])
    (D : Dag ah S UP W) (hsc : env.scope = sc) (hcells : ∀ x, env.cells.lookup x = none) (hk : sc.kind = .function) (hco : sc.isCoroutine = false) (hear : sc.names.lookup ("earlier" : Str) = some .local) (hnode : sc.names.lookup ("node" : Str) = some .local)
    (hstack : sc.names.lookup ("stack" : Str) = some .local) (hpath : sc.names.lookup ("path" : Str) = some .local)
    (hiter : sc.names.lookup ("iter" : Str) = some .globalImplicit) (hmi : c.mg "iter" = none)
    (hd : (d2.endLine == d4.line) = true) (hf : (f2.endLine == f3.line) = true) (hg : (g2.endLine == g3.line) = true)
    (hsub : ∀ b, Oc b → O b) (hOB : ∀ b, Oc b → B.heap.get? b = none) (hOL : ¬ O env.locals) (hA : AC A (n + 1)) (ht : ah.lookup t = some row)
    (X : At c (Bs B s₀) (HO O env.locals) env (ρg c S ah t) s₀) :
    Seg c.M A (GR c env.locals) (GY c env.locals O Oc (UP t)) (UP t).length s₀ (.func gbody env) (c.M.den (.func gbody env)) [] s₀ := by
  have hA1 : AC (A.over (.func gbody env) []) n := ac_func hA
  refine seg_func ?_
  have hb := congrArg (fun b => execs b env) hgb
  rw [hb]
  clear hb
  -- if target not in pred
  refine seg_execs_cons (seg_If (Ts.go (b := false) (ts_cast (ts_cmp (q := pahead c ah) (ev_name (p := pint t) rfl) (ev_name rfl) c_notin_dict) (by rw [keys_in ht]; rfl)) hsc hA1 X fun s₁ e₁ => ?_))
  rw [if_neg (by decide)]
  refine seg_execs_nil ?_
  have X₁ := X.more e₁
  -- stack = {target: iter(pred[target])}
  refine seg_execs_cons (seg_wrap (wpAny_Assign_Name (wpAny_Dict_pairs (knd := intKind c.prog c.w) (pairs := [(eval (.Name "target" q2) env, do let x ← eval (.Call (.Name "iter" q3) [.Subscript (.Name "pred" q4) (.Name "target" q5) q6] [] q7) env; standAt q8; pure x)]) rfl (by simp) (by simp) (evalPairs_cons ?_)) rfl))
  have f1 : Ext s₁ { s₁ with heap := s₁.heap.push { cls := .type "dict", data := .dict #[] } } := Ext.push _ s₁.toks
  have hD1n := get_size s₁.heap
  generalize hD1 : s₁.heap.objs.size = D1 at hD1n ⊢
  have hdn : (s₁.heap.push { cls := .type "dict", data := .dict #[] }).DictOf (intKind c.prog c.w) D1 [] := hD1 ▸ Heap.DictOf.new _
  generalize hs2 : ({ s₁ with heap := s₁.heap.push { cls := .type "dict", data := .dict #[] } } : Shared) = s₂ at f1 ⊢
  have hdn : s₂.heap.DictOf (intKind c.prog c.w) D1 [] := hs2 ▸ hdn
  have X₂ : At c (Bs B s₀) (fun b => HO O env.locals b ∨ b = D1) env (ρg c S ah t) s₂ := X₁.hide f1 hD1n (let ⟨o, es, ep, ho, _⟩ := hdn; ⟨o, ho⟩)
  refine Ev.go (p := pint t) (ev_name rfl) hsc hA1 X₂ fun vt s₃ e₃ hvt => ?_
  obtain ⟨tk, rfl⟩ := hvt
  have X₃ := X₂.more e₃
  refine wpAny_bind (wp_call1 X₃ hA1 hsc (ev_boot hk hiter hmi boot_iter (by decide)) kept_builtin (ev_sub (p := pahead c ah) (ev_name rfl) (ev_name (p := pint t) rfl) (gi_dict (p := plist (row.map pint)) (lookup_pl ht))) fun s₄ w₄ e₄ hw₄ => ?_)
  have X₄ := X₃.more e₄
  refine call_iter X₄.live hw₄ fun I s₅ e₅ hI itI => ?_
  refine wpAny_bind (wpAny_standAt (wpAny_pure (evalPairs_nil ⟨[(t, .ref I)], ⟨intKind_is _ _ _ _, rfl, trivial⟩, ?_, fun h₆ hd₆ hs₆ => ?_⟩)))
  · exact ((hdn.keep e₃.keep).keep e₄.keep).keep e₅.keep
  have hd₆' : h₆.DictOf (intKind c.prog c.w) D1 [(t, .ref I)] := hd₆
  have hno1 : ¬ Own (Bs B s₀) env D1 := X₁.fresh_notOwn hD1n
  have hb1 : B.heap.get? D1 = none := X₁.base_none (c := c) hD1n
  have hO1 : ¬ O D1 := fun h => X₁.not_hid hD1n (.inl h)
  have hsys : (D1 == sysModules) = false := by
    have h3 := X₁.gl.big
    rw [← hD1]
    exact beq_eq_false_iff_ne.mpr (Nat.ne_of_gt (Nat.lt_trans (by decide) h3))
  obtain ⟨oI, _, hoI, _⟩ := (itI (fun b => HO O env.locals b ∨ b = D1) fun a ha => .inl ha).get
  have hOI : ¬ O I := fun h => X₄.not_hid hI (.inl (.inl h))
  have hbI : B.heap.get? I = none := X₄.base_none hI
  have hd4 : ∃ o, s₄.heap.get? D1 = some o := let ⟨o, es, ep, ho, _⟩ := (hdn.keep e₃.keep).keep e₄.keep; ⟨o, ho⟩
  have hID : I ≠ D1 := fun h => by obtain ⟨o, e⟩ := hd4; rw [← h, hI] at e; cases e
  have Y₄ : At c (Bs B s₀) (fun b => HO O env.locals b ∨ b = D1) env (ρg c S ah t) s₄ := X₄
  have Y₅ : At c (Bs B s₀) (fun b => (HO O env.locals b ∨ b = D1) ∨ b = I) env (ρg c S ah t) s₅ := Y₄.hide e₅ hI ⟨oI, hoI⟩
  have k₆ : ∀ b o, b ≠ D1 → s₅.heap.get? b = some o → h₆.get? b = some o := fun b o hb e => hs₆.extBut b o hb e
  have Y₆ : At c (Bs B s₀) (fun b => (HO O env.locals b ∨ b = D1) ∨ b = I) env (ρg c S ah t) { s₅ with heap := h₆, toks := s₅.toks + 1 } := Y₅.touch (.inl (.inr rfl)) hb1 hno1 (fun b o hb e => k₆ b o hb e) (let ⟨o, es, ep, ho, _⟩ := hd₆'; ⟨o, ho⟩) GE.rfl rfl
  refine Y₆.store (p := pval (.ref D1)) (mine_local hsc hstack) rfl fun s₇ X₇ c₇ v₇ _ _ => ?_
  have hown : ∀ b, Own (Bs B s₀) env b → b = env.locals := fun b h => h.elim id fun ⟨x, hx, _⟩ => (by rw [hcells x] at hx; cases hx)
  have it₅ : IterOk (fun b => (HO O env.locals b ∨ b = D1) ∨ b = I) s₅.heap I (row.map pint) := itI _ fun a ha => by
    rcases ha with h | h
    · exact .inl h
    · exact .inr (h ▸ hI)
  have v₆ : (vw (fun b => (HO O env.locals b ∨ b = D1) ∨ b = I) s₅.heap).le (vw (fun b => (HO O env.locals b ∨ b = D1) ∨ b = I) h₆) := fun b o ⟨hb, e⟩ => ⟨hb, k₆ b o (fun h => hb (.inl (.inr h))) e⟩
  have apI := it_apart Y₅ it₅
  have hnoI : ¬ Own (Bs B s₀) env I := fun h => h.elim apI.1 fun ⟨y, hy, _⟩ => apI.2 y hy
  have it₇ : IterOk (fun b => (HO O env.locals b ∨ b = D1) ∨ b = I) s₇.heap I (row.map pint) := (it₅.to (fun o e => k₆ I o hID e) v₆).to (fun o e => c₇ I o hnoI e) v₇
  have hd₇ : s₇.heap.DictOf (intKind c.prog c.w) D1 [(t, .ref I)] := let ⟨o, es, ep, ho, r⟩ := hd₆'; ⟨o, es, ep, c₇ _ _ hno1 ho, r⟩
  -- path = [target]
  refine seg_execs_cons (seg_wrap (wpAny_Assign_Name (wpAny_List (ev_items hsc hA1 [.Name "target" r2] [pint t] s₇ _ (evs_cons (ev_name rfl) evs_nil) X₇ fun vs s₈ e₈ hvs => ?_)) rfl))
  obtain ⟨vt, rfl, tk2, rfl⟩ := all1 hvs
  refine ⟨by rw [sizeLine_eq]; simp, ?_⟩
  have X₈ := X₇.more e₈
  have hD2n := get_size s₈.heap
  generalize hD2 : s₈.heap.objs.size = D2 at hD2n ⊢
  have f8 : Ext s₈ { s₈ with heap := s₈.heap.push { cls := .type "list", data := .seq [Value.int t tk2].toArray } } := Ext.push _ s₈.toks
  have hl8 : (s₈.heap.push { cls := .type "list", data := .seq [Value.int t tk2].toArray }).PlainList D2 #[.int t tk2] := ⟨0, hD2 ▸ Heap.get?_push_size _ rfl⟩
  have hno2 := X₈.fresh_notOwn hD2n
  have hb2 : B.heap.get? D2 = none := X₈.base_none (c := c) hD2n
  have hn2 := X₈.not_hid hD2n
  have X₉ := X₈.hide f8 hD2n (let ⟨k, e⟩ := hl8; ⟨_, e⟩)
  refine X₉.store (p := pval (.ref D2)) (mine_local hsc hpath) rfl fun s₁₀ X₁₀ c₁₀ v₁₀ _ _ => ?_
  have hsub' : ∀ b, HG O env.locals D1 D2 (isOf [(t, I, row)]) b → (((HO O env.locals b ∨ b = D1) ∨ b = I) ∨ b = D2) := fun b hb => by
    rcases hb with h | h | h | h | h
    · exact .inl (.inl (.inl (.inl h)))
    · exact .inl (.inl (.inl (.inr h)))
    · exact .inl (.inl (.inr h))
    · exact .inr h
    · have : b = I := by simpa using h
      exact .inl (.inr this)
  have hsup : ∀ b, (((HO O env.locals b ∨ b = D1) ∨ b = I) ∨ b = D2) → HG O env.locals D1 D2 (isOf [(t, I, row)]) b := fun b hb => by
    rcases hb with (((h | h) | h) | h) | h
    · exact .inl h
    · exact .inr (.inl h)
    · exact .inr (.inr (.inl h))
    · exact .inr (.inr (.inr (.inr (by simp [h]))))
    · exact .inr (.inr (.inr (.inl h)))
  have it₁₀ : IterOk (HG O env.locals D1 D2 (isOf [(t, I, row)])) s₁₀.heap I (row.map pint) := by
    have hI2 : I ≠ D2 := fun h => by
      obtain ⟨o, _, e, _⟩ := it₇.get
      have := e₈.keep _ _ e
      rw [h, hD2n] at this; cases this
    have v1 : (vw (fun b => (HO O env.locals b ∨ b = D1) ∨ b = I) s₇.heap).le (vw (fun b => ((HO O env.locals b ∨ b = D1) ∨ b = I) ∨ b = D2) (s₈.heap.push { cls := .type "list", data := .seq [Value.int t tk2].toArray })) := fun b o ⟨hb, e⟩ => ⟨fun h => h.elim hb fun h => (by have := e₈.keep _ _ e; rw [h, hD2n] at this; cases this), (e₈.trans f8).keep b o e⟩
    have v2 : (vw (fun b => ((HO O env.locals b ∨ b = D1) ∨ b = I) ∨ b = D2) s₁₀.heap).le (vw (HG O env.locals D1 D2 (isOf [(t, I, row)])) s₁₀.heap) := fun b o ⟨hb, e⟩ => ⟨fun h => hb (hsub' b h), e⟩
    exact (it₇.to (fun o e => (e₈.trans f8).keep I o e) v1).to (fun o e => c₁₀ I o hnoI e) (v₁₀.trans v2)
  have G : GSt c (Bs B s₀) O env (ρ0 c S ah t D1 D2) D1 D2 [(t, I, row)] s₁₀ := by
    refine ⟨(X₁₀.shrink hsub' (.inr (.inl rfl))).weak (Sub.le ⟨rfl, rfl, rfl, rfl, rfl, trivial⟩), rfl, rfl, ?_, hsys, hno1, hO1, ⟨#[.int t tk2], ?_, .cons t tk2 .nil⟩, fun h => hn2 (.inl (.inl (.inl h))), by simp, ?_, hb1, hb2, ?_⟩
    · obtain ⟨o, es, ep, ho, r⟩ := hd₇
      exact ⟨o, es, ep, c₁₀ _ _ hno1 (f8.keep _ _ (e₈.keep _ _ ho)), r⟩
    · obtain ⟨k, e⟩ := hl8
      exact ⟨k, c₁₀ _ _ hno2 e⟩
    · intro f hf
      simp at hf
      subst hf
      exact hOI
    · intro f hf
      simp at hf
      subst hf
      exact hbI
  have hup : outs S UP [(t, I, row)] = UP t := by
    rw [D.up t row ht]
    simp only [outs, outsT, suf, List.map_nil, List.append_nil]
  have F : Fok ah S [(t, I, row)] := by
    obtain ⟨z1, z2, z3⟩ := D.ent t row ht
    refine ⟨fun f hf => ?_, by simp [suf], fun f hf => by simp at hf, fun f fr' e hs => ?_, fun pre f fr' e => ?_⟩
    · simp at hf; subst hf; exact z3
    · cases e; exact D.src _ _ ht hs
    · have hl := congrArg List.length e
      simp at hl
      have hp : pre = [] := List.eq_nil_of_length_eq_zero (by omega)
      subst hp
      cases e
      simp; omega
  have T : Track c env.locals s₀ s₁₀ (ZG env.locals D1 D2 (isOf [(t, I, row)])) := fun Zs hZ => by
    have nL : ∀ b, ¬ Zs b → ¬ Own (Bs B s₀) env b := fun b hb h => hb (hown b h ▸ hZ.1)
    have n1 : ∀ b o, s₀.heap.get? b = some o → b ≠ D1 := fun b o e h => by
      have := e₁.keep _ _ e
      rw [h, hD1n] at this; cases this
    have c5 : ∀ b o, s₀.heap.get? b = some o → s₅.heap.get? b = some o := fun b o e => e₅.keep _ _ (e₄.keep _ _ (e₃.keep _ _ (f1.keep _ _ (e₁.keep _ _ e))))
    have c8 : ∀ b o, ¬ Zs b → s₀.heap.get? b = some o → s₈.heap.get? b = some o := fun b o hb e => e₈.keep _ _ (c₇ _ _ (nL b hb) (k₆ _ _ (n1 b o e) (c5 b o e)))
    refine ⟨fun b o hb e => c₁₀ _ _ (nL b hb) (f8.keep _ _ (c8 b o hb e)), fun b hb => ?_⟩
    by_cases hz : Zs b
    · exact .inl hz
    · refine .inr ?_
      cases e : s₀.heap.get? b with
      | none => rfl
      | some o =>
        exfalso
        rcases hb with h | h | h | h
        · exact hz (h ▸ hZ.1)
        · exact n1 b o e h
        · have := c8 b o hz e
          rw [h, hD2n] at this; cases this
        · have h' : b = I := by simpa using h
          have := e₄.keep _ _ (e₃.keep _ _ (f1.keep _ _ (e₁.keep _ _ e)))
          rw [h', hI] at this; cases this
  -- while stack
  rw [← hup]
  refine seg_execs_cons (seg_While fun pp => ?_)
  refine while_seg (c := c) (O := O) (B := B) htest hbody D hsc hcells hk hco hear hnode hiter hmi hd hf hg hsub hOB hOL _ (ac_while hA) (fun s₁ s₂ hr => ?_) _ [(t, I, row)] s₁₀ s₀ [] rfl G (fun f hf => ?_) F rfl T
  · exact seg_end _ hr
  · simp at hf
    subst hf
    exact it₁₀
end
end Mine
end
section
open PySem PySem.W
set_option Elab.async false
set_option maxRecDepth 100000
namespace Mine
section
variable {c : Cfg} {n : Nat} {A : Around} {H : Addr → Prop} {s : Shared} {E : Value → Shared → Prop}
theorem call_gen {f : Addr} {o : Obj} {fd : FuncData} {body : List Stmt} {names : List Str} {ps : List VP} {vs : List Value} {Q : Value → Shared → Prop}
    (ho : c.K.lookup f = some o) (hd : o.data = .func fd) (hcd : codeIn c.K fd.code fd.qualname = true) (hbody : fd.body = .stmts body) (hclo : fd.closure = [])
    (hgl : fd.globals = mainGlobals) (hbi : fd.builtins = builtinsNs) (hnd : names.Nodup) (hlen : names.length = ps.length)
    (hbind : ∀ vs : List Value, vs.length = ps.length → bindArgs fd ⟨vs, []⟩ = pure (names.zip vs))
    (hkind : ∀ x ∈ names, fd.scope.names.lookup x = some .local) (hfree : ∀ y ∈ fd.scope.names, y.2 ≠ .free ∧ y.2 ≠ .cell)
    (hA : AC A n) (G : Gl c s.heap) (hH : Live H s.heap) (hv : All2 (vw H s.heap) ps vs)
    (hQ : ∀ (a : Addr) (env : Env) (s' : Shared), env.scope = fd.scope → (∀ x, env.cells.lookup x = none) → At c s (fun b => H b ∨ b = env.locals) env (names.zip ps) s' → s.heap.get? env.locals = none → s.heap.get? a = none → a ≠ env.locals →
      s'.heap.IsGen a s.gens.size → s'.gens = s.gens.push (.fresh (.func body env)) → s'.os = s.os → (∀ b o, s.heap.get? b = some o → s'.heap.get? b = some o) → s'.heap.Ns env.locals (fun x => (names.zip vs).reverse.lookup x) → env.frame = some env.locals → Q (.ref a) s')
    (hco : fd.scope.isCoroutine = false := by rfl) (hgen : fd.scope.isGenerator = true := by rfl) (hk : fd.scope.kind = .function := by rfl) :
    wpAny c.M A (call (.ref f) vs) Q E s := by
  have hvl : vs.length = ps.length := hv.length.symm
  have hzip : (names.zip vs).map (·.1) = names := zip_fst (hlen.trans hvl.symm)
  refine wpAny_call (codeAny_call_generator hA.room (G.k _ _ ho) hd hco hgen hbody (codeRec_of G.k hcd) ?_)
  rw [hbind vs hvl, hclo]
  refine wpAny_pure (wpAny_newFunctionEnv (fun x hx => (hfree x hx).2) (fun x hx => ?_) (fun h' hn hs => ?_) hk)
  · have hx' : x.1 ∈ names := by rw [← hzip]; exact List.mem_map_of_mem hx
    exact hkind _ hx'
  generalize henv : newEnv fd.scope s.heap.objs.size fd.globals [] (fd.qualname ++ ".<locals>.") (some f) fd.code none fd.builtins = env
  have eL : env.locals = s.heap.objs.size := by rw [← henv]; rfl
  have esc : env.scope = fd.scope := by rw [← henv]; rfl
  have ecells : env.cells = [] := by rw [← henv]; rfl
  have eg : env.globals = mainGlobals := by rw [← henv, ← hgl]; rfl
  have eb : env.builtins = builtinsNs := by rw [← henv, ← hbi]; rfl
  have hcells : ∀ x, env.cells.lookup x = none := fun x => by rw [ecells]; rfl
  have k1 : ∀ b o, s.heap.get? b = some o → h'.get? b = some o := fun b o e => hs.extBut b o (Nat.ne_of_lt (Heap.lt_size e)) (Heap.get?_push_of_some _ e)
  have hsz : h'.objs.size = s.heap.objs.size + 1 := by rw [hs.1, Heap.size_push]
  have hL0 : s.heap.get? env.locals = none := by rw [eL]; exact get_size _
  have ha0 : s.heap.get? h'.objs.size = none := by
    cases e : s.heap.get? h'.objs.size with
    | none => rfl
    | some o => have := Heap.lt_size e; rw [hsz] at this; exact absurd this (Nat.not_lt.mpr (Nat.le_succ _))
  refine ⟨G.nolimit.keeps k1, ?_⟩
  generalize hgo : ({ cls := .type "generator", data := .fields #[.int s.gens.size 0, .str fd.name (s.toks + (names.zip vs).length), .str fd.qualname (s.toks + (names.zip vs).length + 1)] } : Obj) = go
  have hfr : go.isFreed = false := by rw [← hgo]; rfl
  have e2 : Ext s ⟨h'.push go, s.gens.push (.fresh (.func body env)), s.drawn, s.toks + (names.zip vs).length + 1 + 1, s.os⟩ :=
    ⟨fun b o e => Heap.get?_push_of_some _ (k1 b o e), ⟨fun h x hx => (by
        rcases Array.mem_push.mp hx with h' | rfl
        · exact h x h'
        · rfl), fun i x e => (by
        rw [Array.getElem?_push]; split
        · rename_i h; rw [h] at e; simp at e
        · exact e)⟩, rfl⟩
  have vle : (vw H s.heap).le (vw (fun b => H b ∨ b = env.locals) (h'.push go)) :=
    vw_more e2.keep fun b hb => hb.imp id fun (h : b = env.locals) => by rw [h]; exact hL0
  refine hQ _ env _ esc hcells ⟨G, e2, ?_, .inr rfl, hL0, ⟨_, by rw [eL]; exact hn.push _⟩, eg, eb, by rw [esc]; exact hk, fun x y a hx => (by rw [hcells] at hx; cases hx), fun x a hx => (by rw [hcells] at hx; cases hx), fun x hx => ?_, fun x p hx => ?_⟩ hL0 ha0 (by show h'.objs.size ≠ _; rw [eL, hsz]; exact Nat.succ_ne_self _) ⟨go, _, _, Heap.get?_push_size _ hfr, by rw [← hgo], by rw [← hgo], by rw [← hgo]⟩ rfl rfl e2.keep (by rw [eL]; exact hn.push _) (by rw [eL, ← henv]; rfl)
  · rintro b (hb | hb)
    · exact hH.keeps e2.keep b hb
    · obtain ⟨o', _, _, e, _⟩ := hn
      refine ⟨o', ?_⟩
      rw [show b = s.heap.objs.size from hb.trans eL]
      exact Heap.get?_push_of_some _ e
  · exfalso
    have hk' : env.kindOf x = fd.scope.names.lookup x := by rw [← esc]; rfl
    rw [hk'] at hx
    rcases hx with hx | hx
    · exact (hfree _ (mem_of_lookup hx)).2 rfl
    · exact (hfree _ (mem_of_lookup hx)).1 rfl
  · obtain ⟨v, hxv, hp⟩ := zip_lookup hv hx
    have hx' : x ∈ names := by
      have := mem_of_lookup hxv
      rw [← hzip]; exact List.mem_map_of_mem (f := (·.1)) this
    have hk' : env.kindOf x = fd.scope.names.lookup x := by rw [← esc]; rfl
    refine .inl ⟨hk'.trans (hkind _ hx'), _, v, by rw [eL]; exact hn.push _, ?_, p.mono vle hp⟩
    refine lookup_of_mem ?_ (List.mem_reverse.mpr (mem_of_lookup hxv))
    rw [List.map_reverse, hzip]
    exact (List.reverse_perm names).nodup_iff.mpr hnd
end
end Mine
end
section
open PySem PySem.W
set_option Elab.async false
set_option maxRecDepth 100000
namespace Mine
section
variable {prog : Program} {w : World} {A : Around} {E : Value → Shared → Prop} {s : Shared}
theorem next_genQ {a : Addr} {g n : Nat} {gs : GenState} {P : Nat → Shared → Shared → Prop} {Y : Protocol} {Q : Option Value → Shared → Prop} (hh : A.handled = none)
    (hl : s.heap.NoLimit) (hroom : A.depth < recursionLimit)
    (hg : s.heap.IsGen a g) (hgs : s.gens[g]? = some gs)
    (hgo : gs.Goes (model prog w) A.in1 (fun n s₀ r s₁ => r = .ok (.ret .none) ∧ P n s₀ s₁) Y n (.send .none) (s.setGen g .running))
    (hY : ∀ v s₁ gs', gs'.bare = true → Y (n - 1) (s.setGen g .running) v s₁ (fun r' s'' => match n with
        | 0 => False
        | m + 1 => gs'.Goes (model prog w) A.in1 (fun n s₀ r s₁ => r = .ok (.ret .none) ∧ P n s₀ s₁) Y m r' s'') → Q (some v) (s₁.setGen g gs'))
    (hP : ∀ s₁, P n (s.setGen g .running) s₁ → ∀ h', (∀ b o, s₁.heap.get? b = some o → h'.get? b = some o) → Q none { s₁.setGen g .finished with heap := h' }) :
    wpAny (model prog w) A (pyNext (.ref a)) Q E s := by
  unfold pyNext
  refine wpAny_bind (wpAny_attempt (wpAny_callSpecial?_slot (name := Str.ofString "__next__") hg.typeIs slot_gen_next
    (wpAny_call_entry slot_gen_next hg.typeIs entry_gen_next ?_ (args_gen_next _))))
  show wpAny _ A.in1 (Builtin.Generator.genWake (.ref a) (.send .none)) _ _ s
  unfold Builtin.Generator.genWake
  refine wpAny_bind (wpAny_holding (wpAny_genNumber hg (wpAny_bind (wpAny_genState hgs ?_))))
  cases gs with
  | running => exact hgo.elim
  | finished => exact hgo.elim
  | _ =>
    refine wpAny_bind (wpAny_roomToWake hl hroom ?_)
    show wpAny _ A.in1 (.resume g (.send .none) [] _) _ _ s
    refine wpAny_resumeQ hgs hgo (fun x s₁ hx => ?_) (fun v s₁ gs' hb hv => ?_)
    · obtain ⟨rfl, hp⟩ := hx
      show wpAny _ A.in1 (newExc (.type "StopIteration") [] >>= _) _ _ _
      refine wpAny_bind ?_
      simp only [newExc, newTuple]
      refine wpAny_bind (wpAny_newObj_type ?_ (by size_fits))
      refine wpAny_bind (m := firstArgMember _ _) (wpAny_of_eq (a := Value.none) (by first | rfl | (simp only [firstArgMember]; rfl)) ?_)
      refine wpAny_newObj_type ?_ (by size_fits)
      simp only [raiseNew]
      refine wpAny_bind (wpAny_bind (wpAny_handled ?_))
      rw [show A.in1.handled = none from hh]
      refine wpAny_throw ?_
      refine wpAny_bind (wpAny_isInstance (T := "StopIteration") (b := true) ⟨_, Heap.get?_push_size _ rfl, rfl⟩ isSubtype_stop ?_)
      exact wpAny_pure (hP s₁ hp _ fun b o hb => Heap.get?_push_of_some _ (Heap.get?_push_of_some _ hb))
    · exact wpAny_pure ⟨v, rfl, wpAny_pure (hY v s₁ gs' hb hv)⟩
end
end Mine
end
section
open PySem PySem.W
set_option Elab.async false
set_option maxRecDepth 100000
namespace Mine
section
variable {c : Cfg} {n : Nat} {sc scope : Scope} {B : Shared} {H H' : Addr → Prop} {env : Env} {ρ : List (Str × VP)} {s s' : Shared} {A : Around} {E : Value → Shared → Prop}
theorem run_list {ps : List VP} (h : ps.length ≤ 2 ^ 20) : Run c n (.type "list") [plist ps] (plist ps) := by
  intro A H s vs Q E hA G hH hv hQ
  obtain ⟨v, rfl, l, xs, m, e, hl, hxs⟩ := all1 hv
  subst e
  have hlen : ps.length = xs.size := by have := hxs.length; simpa using this
  refine call_list_seq l (.inl rfl) hl.2 rfl rfl (fun h' c' hk hD => ?_) (by rw [sizeLine_eq]; omega)
  have e2 : Ext s { s with heap := h' } := Ext.heap (t := s.toks) hk
  exact hQ _ _ e2 ⟨_, xs, c', rfl, ⟨fun h => Nat.lt_irrefl _ (hH.lt h), hD⟩, hxs.mono (e2.view H)⟩

/-- a call of some arguments, with what comes of it left open -/
theorem wp_calls {x : Str} {np pos : Pos} {f : Value} {e : Expr} {es : List Expr} {ps : List VP} {Q : Value → Shared → Prop} (X : At c B H env ρ s) (hA : AC A n) (hs : env.scope = sc) (hf : Ev c n sc ρ (.Name x np) (pval f)) (hk : Kept c f) (ha : Evs c n sc ρ (e :: es) ps)
    (hr : ∀ s₁ vs, Ext s s₁ → All2 (vw H s₁.heap) ps vs → wpAny c.M A (call f vs) Q E s₁)
    (hp : ∀ env, (backTo pos (starEach es env)).any (·.1) = false := by intro _; rfl) : wpAny c.M A (eval (.Call (.Name x np) (e :: es) [] pos) env) Q E s := by
  refine wpAny_Call_ofName (hf A B H env s _ E hs hA X fun v s₁ e₁ hv => ?_)
  obtain rfl := hv
  have he : starEach (e :: es) env = (false, eval e env) :: starEach es env := by
    cases ps with
    | nil => exact ha.elim
    | cons p ps => exact ha.1.2 env es
  have hp' := hp env
  show wpAny c.M A (callWith pos v [] (backTo pos (starEach (e :: es) env)) []) Q E s₁
  have items := ev_items (pos := pos) (E := E) hs hA (e :: es) ps s₁ (fun vs s₂ => c.K.In s₂.heap ∧ wpAny c.M A (call v ([] ++ vs)) Q E s₂) ha (X.more e₁) (fun vs s₂ e₂ hvs => by
    have X₂ := (X.more e₁).more e₂
    exact ⟨X₂.gl.k, hr s₂ vs (e₁.trans e₂) hvs⟩)
  rw [he] at items ⊢
  exact callWith_of (P := c.K.In) (by show ((false || (backTo pos (starEach es env)).any (·.1)) || false) = false; rw [hp']; rfl) hk (Calls.evalArgs_plain items)

theorem At.to2 (X : At c B H env ρ s) (hv : (vw H s.heap).le (vw H' s'.heap)) (hL : ∀ o, s.heap.get? env.locals = some o → s'.heap.get? env.locals = some o)
    (hC : ∀ x a o, env.cells.lookup x = some a → s.heap.get? a = some o → s'.heap.get? a = some o) (hE : Ext B s') (hl : Live H' s'.heap) (hH : H' env.locals) : At c B H' env ρ s' where
  base := X.base
  ext := hE
  live := hl
  homeH := hH
  homeB := X.homeB
  ns := let ⟨m, o, es, ep, e, r⟩ := X.ns; ⟨m, o, es, ep, hL o e, r⟩
  globals := X.globals
  builtins := X.builtins
  kind := X.kind
  one := X.one
  cells := fun x a h => let ⟨v, o, e, d⟩ := X.cells x a h; ⟨v, o, hC x a o h e, d⟩
  has := X.has
  vars := fun x p h => by
    rcases X.vars x p h with ⟨k, m, v, ⟨o, es, ep, e, r⟩, hu, hp⟩ | ⟨k, a, v, ha, ⟨o, e, d⟩, hp⟩
    · exact .inl ⟨k, m, v, ⟨o, es, ep, hL o e, r⟩, hu, p.mono hv hp⟩
    · exact .inr ⟨k, a, v, ha, ⟨o, hC x a o ha e, d⟩, p.mono hv hp⟩

theorem pushCells_none : ∀ (names : List (Str × NameKind)) (h : Heap), (∀ x ∈ names, x.2 ≠ .cell) → pushCells h names = h
  | [], _, _ => rfl
  | (x, k) :: r, h, hn => by
    unfold pushCells
    have : (k == NameKind.cell) = false := by
      have := hn (x, k) List.mem_cons_self
      cases k <;> first | rfl | exact absurd rfl this
    rw [if_neg (by rw [this]; decide)]
    exact pushCells_none r h fun y hy => hn y (List.mem_cons_of_mem _ hy)
theorem cellsFrom_none : ∀ (names : List (Str × NameKind)) (k : Nat) (acc : List (Str × Addr)), (∀ x ∈ names, x.2 ≠ .cell) → cellsFrom k names acc = acc
  | [], _, _, _ => rfl
  | (x, kd) :: r, k, acc, hn => by
    unfold cellsFrom
    have : (kd == NameKind.cell) = false := by
      have := hn (x, kd) List.mem_cons_self
      cases kd <;> first | rfl | exact absurd rfl this
    rw [if_neg (by rw [this]; decide)]
    exact cellsFrom_none r k acc fun y hy => hn y (List.mem_cons_of_mem _ hy)
end
end Mine
end
section
open PySem PySem.W
set_option Elab.async false
set_option maxRecDepth 100000
namespace Mine
theorem clFun_none {env : Env} : ∀ (names : List (Str × NameKind)) (acc : List (Str × Addr)), (∀ x ∈ names, x.2 ≠ .free) → clFun env names acc = acc
  | [], _, _ => rfl
  | (x, kd) :: r, acc, hn => by
    unfold clFun
    have : (kd == NameKind.free) = false := by
      have := hn (x, kd) List.mem_cons_self
      cases kd <;> first | rfl | exact absurd rfl this
    rw [if_neg (by rw [this]; decide)]
    exact clFun_none r acc fun y hy => hn y (List.mem_cons_of_mem _ hy)
/-- the frame of a comprehension over a generator, at its start -/
structure COpen (c : Cfg) (env : Env) (scope : Scope) (D C : Addr) (cenv : Env) (s₁ s₂ : Shared) : Prop where
  loc : cenv.locals = C
  sc : cenv.scope = relS scope env.scope
  cells : ∀ x, cenv.cells.lookup x = none
  gl : cenv.globals = env.globals
  bi : cenv.builtins = env.builtins
  fr : cenv.frame = env.frame
  gens : s₂.gens = s₁.gens
  os : s₂.os = s₁.os
  keep : ∀ b o, s₁.heap.get? b = some o → s₂.heap.get? b = some o
  d0 : s₁.heap.get? D = none
  c0 : s₁.heap.get? C = none
  ne : D ≠ C
  d1 : s₂.heap.PlainList D #[]
  c1 : s₂.heap.Ns C fun _ => none
section
variable {c : Cfg} {n : Nat} {scope : Scope} {env : Env} {s : Shared} {A : Around} {E : Value → Shared → Prop} {elt iter target : Expr} {pos : Pos}
theorem comp_gen_open {Q : Value → Shared → Prop} (hk : scope.kind = .function) (hloc : ∀ x ∈ scope.names, x.2 = .local → scope.names.lookup x.1 = some .local) (hnf : ∀ x ∈ scope.names, x.2 ≠ .free ∧ x.2 ≠ .cell)
    (hf : ∀ env x, foldedSetIterable iter env x = pure x)
    (h : wpAny c.M A (eval iter env) (fun v s₁ => ∃ a g, v = .ref a ∧ s₁.heap.IsGen a g ∧
      ∀ D C cenv s₂, COpen c env scope D C cenv s₁ s₂ → codeAny c.M A (.compLoop (.ListComp elt [⟨target, iter, [], 0⟩] scope pos) 0 (.ref a) (.ref D) cenv) (compPost c.M A E none Q (.ref D) C) s₂) E s) :
    wpAny c.M A (eval (.ListComp elt [⟨target, iter, [], 0⟩] scope pos) env) Q E s := by
  rw [eval_comp rfl]
  have hcl : closureFor scope env = pure [] := by
    rw [closure_ok (fun x hx => absurd rfl (hnf _ hx).1)]
    rw [clFun_none _ _ fun x hx => (hnf x hx).1]
  refine wpAny_comprehension_free (cl := []) rfl (hf env) hcl hk hloc ?_
  refine wpAny_mono h (fun v s₁ ⟨a, g, hv, hg, hloop⟩ => ?_) fun _ _ e => e
  subst hv
  refine wpAny_pyIter_gen hg ?_
  refine wpAny_newObj_type (wpAny_newEnv_comp ?_)
  dsimp only
  rw [pushCells_none _ _ fun x hx => (hnf x hx).2, cellsFrom_none _ _ _ fun x hx => (hnf x hx).2]
  generalize hD : s₁.heap.objs.size = D
  generalize hh3 : s₁.heap.push { cls := .type "list", dict := none, data := .seq ([] : List Value).toArray } = h3
  have sz3 : h3.objs.size = D + 1 := by rw [← hh3, Heap.size_push, hD]
  rw [sz3]
  have keep : ∀ b o, s₁.heap.get? b = some o → (h3.push { cls := .type "dict", data := .dict #[] }).get? b = some o := fun b o e => Heap.get?_push_of_some _ (hh3 ▸ Heap.get?_push_of_some _ e)
  have no : ∀ b, D ≤ b → s₁.heap.get? b = none := fun b hb => by
    cases e : s₁.heap.get? b with
    | none => rfl
    | some o => exact absurd (Heap.lt_size e) (by rw [hD]; exact Nat.not_lt.mpr hb)
  have gD : (h3.push { cls := .type "dict", data := .dict #[] }).PlainList D #[] := ⟨0, Heap.get?_push_of_some _ (by rw [← hh3, ← hD]; exact Heap.get?_push_size _ rfl)⟩
  have gC : (h3.push { cls := .type "dict", data := .dict #[] }).Ns (D + 1) fun _ => none := by
    have h0 := Heap.Ns.new h3 (.type "dict")
    rw [sz3] at h0
    exact h0
  have CO : ∀ cenv, cenv = { newEnv scope (D + 1) env.globals [] env.qual none .none (some env) builtinsNs with scope := relabel scope env } →
      COpen c env scope D (D + 1) cenv s₁ { s₁ with heap := h3.push { cls := .type "dict", data := .dict #[] } } := fun cenv hc => by
    subst hc
    exact ⟨rfl, rfl, fun _ => rfl, rfl, rfl, rfl, rfl, rfl, keep, no D (Nat.le_refl _), no _ (Nat.le_succ _), Nat.ne_of_lt (Nat.lt_succ_self D), gD, gC⟩
  have loop := hloop D (D + 1) _ _ (CO _ rfl)
  exact compStart_any (by rfl) loop fun E' => wpAny_pyIter_gen (hg.keeps keep) loop
end
end Mine
end
section
open PySem PySem.W
set_option Elab.async false
set_option maxRecDepth 100000
namespace Mine
def ppath (p : List Int) : VP := plist (p.map pint)
section
variable {c : Cfg} {n : Nat} {scope : Scope} {B : Shared} {H1 Oc : Addr → Prop} {cenv : Env} {A : Around} {D C L a g : Addr} {all : List (List Int)}
/-- a state at the head of the loop, m still to come -/
structure LG (c : Cfg) (A : Around) (B : Shared) (H1 Oc : Addr → Prop) (cenv : Env) (D L a g : Addr) (all : List (List Int)) (m : Nat) (s : Shared) : Prop where
  le : m ≤ all.length
  st : ∃ Z, CSt c B (fun b => H1 b ∨ Z b) cenv [] D ((all.take (all.length - m)).map ppath) s ∧ ZR c L s.heap Z ∧ (∀ b, Z b → ¬ H1 b ∧ B.heap.get? b = none ∧ b ≠ a)
  isg : s.heap.IsGen a g
  gen : ∃ gs, s.gens[g]? = some gs ∧ ∀ s'', Chg Oc s s'' → Live H1 s''.heap → gs.Goes c.M A.in1 (GR c L) (GY c L H1 Oc all) m (.send .none) s''
  gle : B.gens.size ≤ g

theorem setGen_heap (s : Shared) (g : Nat) (x : GenState) : (s.setGen g x).heap = s.heap := rfl
theorem setGen_ge {B s : Shared} {g : Nat} {x : GenState} (hg : B.gens.size ≤ g) (hb : x.bare = true) (h : GE B.gens s.gens) : GE B.gens (s.setGen g x).gens := by
  have hO := (GenOnly.setGen s g x).2
  refine ⟨fun ha y hy => ?_, fun i y e => ?_⟩
  · obtain ⟨i, hi, e⟩ := Array.mem_iff_getElem.mp hy
    by_cases hig : i = g
    · subst hig
      have hi' : i < s.gens.size := by simpa [Shared.setGen] using hi
      have h1 := setGen_self (x := x) (Array.getElem?_eq_getElem hi')
      rw [Array.getElem?_eq_getElem hi, e] at h1
      cases h1; exact hb
    · have h1 := hO i hig
      rw [Array.getElem?_eq_getElem hi, e] at h1
      exact h.1 ha y (Array.mem_of_getElem? h1.symm)
  · have hig : i ≠ g := fun h' => by
      subst h'
      rw [Array.getElem?_eq_none hg] at e; cases e
    rw [hO i hig]
    exact h.2 i y e
theorem ZR.keep {h h' : Heap} {Z : Addr → Prop} (x : ZR c L h Z) (hl : Live Z h) (hk : ∀ b o, Z b → h.get? b = some o → h'.get? b = some o) : ZR c L h' Z := by
  refine ⟨x.1, fun m hm => ?_⟩
  have hback : ∀ b, Z b → ∀ o, h'.get? b = some o → h.get? b = some o := fun b hb o e => by
    obtain ⟨o', e'⟩ := hl b hb
    have := hk b o' hb e'
    rw [e] at this; cases this; exact e'
  have hm' : h.Ns L m := let ⟨o, es, ep, e, r⟩ := hm; ⟨o, es, ep, hback L x.1 o e, r⟩
  obtain ⟨h1, h2⟩ := x.2 m hm'
  refine ⟨fun D1 hD => ⟨(h1 D1 hD).1, fun kvs hkv => (h1 D1 hD).2 kvs ?_⟩, h2⟩
  obtain ⟨o, es, ep, e, r⟩ := hkv
  exact ⟨o, es, ep, hback D1 (h1 D1 hD).1 o e, r⟩
theorem comp_loop {elt iter : Expr} {pos tp : Pos} (hA : AC A n) (hnc : ∀ x, scope.names.lookup x ≠ some .cell) (hloc : H1 cenv.locals) (hHD : H1 D) (hOc : ∀ b, Oc b ↔ b = cenv.locals ∨ b = D) (hcells : ∀ x, cenv.cells.lookup x = none)
    (hbC : B.heap.get? cenv.locals = none) (hrow : scope.names.lookup ("row" : Str) = some .local) (hcrow : cenv.scope = scope) (haO : ∀ b, H1 b → b ≠ a) (hlen : all.length ≤ 10000) (hpl : ∀ p ∈ all, p.length ≤ 10000)
    (helt : ∀ p, p.length ≤ 10000 → Ev c n cenv.scope [("row", ppath p)] elt (ppath p)) {R : Result → Shared → Prop}
    (hR : ∀ (s' : Shared) (Z : Addr → Prop), CSt c B (fun b => H1 b ∨ Z b) cenv [] D (all.map ppath) s' → R (.ok .next) s') :
    ∀ (m : Nat) (s : Shared), LG c A B H1 Oc cenv D L a g all m s → codeAny c.M A (.compLoop (.ListComp elt [⟨.Name "row" tp, iter, [], 0⟩] scope pos) 0 (.ref a) (.ref D) cenv) R s := by
  intro m s hs
  refine codeAny_loop rfl (fun k s' => LG c A B H1 Oc cenv D L a g all k s') (fun k s' hk => ?_) m hs
  show wpAny c.M A ((compTurn (.ListComp elt [⟨.Name "row" tp, iter, [], 0⟩] scope pos) 0 (.ref a) (.ref D) cenv).onRaise (fun x => do noteFrame x cenv; theTreesLotGoes x)) _ _ s'
  refine wpAny_noted ?_
  rw [compTurn_eq (by rfl) (fun g' h => by simp at h)]
  refine wpAny_bind (wpAny_standAt (wpAny_bind ?_))
  obtain ⟨Z, CS, hZR, hZ⟩ := hk.st
  obtain ⟨gs, hgs, hgo⟩ := hk.gen
  have hgo' := hgo (s'.setGen g .running) (fun b o _ e => e) (fun b hb => CS.at'.live b (.inl hb))
  refine next_genQ (n := k) (Y := GY c L H1 Oc all) (P := fun n s₀ s₁ => n = 0 ∧ GE s₀.gens s₁.gens ∧ s₁.os = s₀.os ∧ ∀ Zs, ZR c L s₀.heap Zs → Chg Zs s₀ s₁) hA.handled CS.at'.gl.nolimit hA.room hk.isg hgs hgo' (fun v s₁ gs' hb hY => ?_) (fun s₁ hP h' hkeep => ?_)
  · obtain ⟨⟨path, D', ys, hidx, hlt, hv, hO', ⟨ky, hys⟩, hints, hZs⟩, hge, hos, hkap⟩ := hY
    obtain ⟨hc, Z', hZR', hZ', hZl', hZD⟩ := hZs Z hZR
    have hc : Chg Z s' s₁ := hc
    have hZ'' : ∀ b, Z' b → Z b ∨ s'.heap.get? b = none := hZ'
    have hl1 : Live H1 s₁.heap := fun b hb => by
      obtain ⟨o, e⟩ := CS.at'.live b (.inl hb)
      exact ⟨o, hc b o (fun h => (hZ b h).1 hb) e⟩
    cases k with
    | zero => exact (hkap s₁ (fun b o _ e => e) hl1).elim
    | succ m =>
    have hrun : (s'.setGen g .running).gens[g]? = some .running := setGen_self hgs
    have hrun1 : s₁.gens[g]? = some .running := hge.2 g _ hrun
    have hZn : ∀ b, Z' b → ¬ H1 b ∧ B.heap.get? b = none ∧ b ≠ a := fun b hb => by
      rcases hZ'' b hb with h | h
      · exact hZ b h
      · refine ⟨fun h1 => ?_, ?_, fun h1 => ?_⟩
        · obtain ⟨o, e⟩ := CS.at'.live b (.inl h1); rw [h] at e; cases e
        · cases e : B.heap.get? b with
          | none => rfl
          | some o => have := CS.at'.ext.keep b o e; rw [h] at this; cases this
        · obtain ⟨o, _, _, e, _⟩ := hk.isg; rw [← h1, h] at e; cases e
    have vle : (vw (fun b => H1 b ∨ Z b) s'.heap).le (vw (fun b => H1 b ∨ Z' b) s₁.heap) := fun b o ⟨hb, e⟩ => by
      refine ⟨fun h => h.elim (fun h => hb (.inl h)) fun h => ?_, hc b o (fun h => hb (.inr h)) e⟩
      rcases hZ'' b h with h | h
      · exact hb (.inr h)
      · rw [h] at e; cases e
    have kH : ∀ b o, H1 b → s'.heap.get? b = some o → s₁.heap.get? b = some o := fun b o hb e => hc b o (fun h => (hZ b h).1 hb) e
    have C5 : CSt c B (fun b => H1 b ∨ Z' b) cenv [] D ((all.take (all.length - (m + 1))).map ppath) (s₁.setGen g gs') := by
      refine ⟨CS.at'.to2 vle (fun o e => kH _ o hloc e) (fun x a o hx => (by rw [hcells] at hx; cases hx)) ⟨fun b o e => hc b o (fun h => by rw [(hZ b h).2.1] at e; cases e) (CS.at'.ext.keep b o e), setGen_ge hk.gle hb ((setGen_ge hk.gle rfl CS.at'.ext.gens).trans hge), hos.trans CS.at'.ext.os⟩ (fun b hb => hb.elim (hl1 b) (hZl' b)) (.inl hloc), .inl hHD, CS.bD, ?_⟩
      obtain ⟨zs, ⟨kz, hzs⟩, hall⟩ := CS.acc
      exact ⟨zs, ⟨kz, kH _ _ hHD hzs⟩, hall.mono vle⟩
    have hM : ∀ x, Tgt scope x → Mine1 B (fun b => H1 b ∨ Z' b) cenv x := fun x hx => by
      rcases hx with hx | hx
      · exact .inl (by show cenv.scope.names.lookup x = _; rw [hcrow]; exact hx)
      · exact absurd hx (hnc x)
    have hpv : (ppath path).is (vw (fun b => H1 b ∨ Z' b) (s₁.setGen g gs').heap) v := by
      rw [hv]
      exact ⟨D', ys, ky, rfl, ⟨fun h => h.elim hO' hZD, hys⟩, intsAll hints⟩
    have hpm : path ∈ all := List.mem_of_getElem? hidx
    have hown : ∀ b, Own B cenv b → Oc b := fun b h => (hOc b).mpr (.inl (h.elim id fun ⟨x, hx, _⟩ => (by rw [hcells x] at hx; cases hx)))
    refine wpAny_bind (wpAny_of_eq rfl (wpAny_bind ?_))
    refine asg_run (scope := scope) (ρ' := [("row", ppath path)]) hA.handled C5 hM (.inl ⟨"row", tp, rfl, .inl hrow, rfl⟩) hpv fun s₆ C6 c₆ v₆ g₆ o₆ => wpAny_bind ?_
    refine tests_run C6.at' hA rfl (b := true) (.inl ⟨rfl, rfl⟩) fun s₇ e₇ => ?_
    simp only [if_true]
    have C7 := C6.more e₇
    refine inner_spec (gens := [⟨.Name "row" tp, iter, [], 0⟩]) (fun g' hg' => by simp at hg'; rw [hg']) [] 0 rfl [("row", ppath path)] [ppath path] _ A _ s₇ _ _ _ ⟨_, rfl, helt path (hpl path hpm)⟩ hA C7 ?_ hM fun s₈ C8 c₈ v₈ g₈ o₈ => ?_
    · simp only [List.length_map, List.length_take, List.length_singleton]; omega
    have c18 : Chg Oc s₁ s₈ := fun b o hb e => c₈ b o (fun h => hb (h.elim (fun h => (hOc b).mpr (.inr h)) (hown b))) (e₇.keep b o (c₆ b o (fun h => hb (hown b h)) e))
    refine wpAny_pure ⟨rfl, m, Nat.lt_succ_self m, ?_⟩
    have hml := hk.le
    refine ⟨by omega, ⟨Z', ?_, hZR'.keep hZl' (fun b o hz e => c18 b o (fun h => ?_) e), hZn⟩, ?_, ⟨gs', ?_, fun s'' hcc hLL => ?_⟩, hk.gle⟩
    · have : (all.take (all.length - m)).map ppath = (all.take (all.length - (m + 1))).map ppath ++ [ppath path] := by
        have e1 : all.length - m = (all.length - (m + 1)) + 1 := by omega
        have e2 : all[all.length - (m + 1)]? = some path := by rw [← hidx]; congr 1; omega
        rw [e1, List.take_succ, List.map_append, e2]
        rfl
      rw [this]
      exact C8.weak fun x p h => by cases h
    · exact (hZn b hz).1 (by rcases (hOc b).mp h with rfl | rfl; exact hloc; exact hHD)
    · obtain ⟨o, nm, qn, ho, r⟩ := hk.isg
      have hna : ¬ (H1 a ∨ Z a) := fun h => h.elim (fun h => haO a h rfl) fun h => (hZ a h).2.2 rfl
      have h1 := (((vle.trans v₆).trans (e₇.view _)).trans v₈) a o ⟨hna, ho⟩
      exact ⟨o, nm, qn, h1.2, r⟩
    · exact g₈.2 g _ (e₇.gens.2 g _ (g₆.2 g _ (setGen_self hrun1)))
    · exact hkap s'' (c18.trans hcc) hLL
  · obtain ⟨rfl, hge, hos, hZs⟩ := hP
    have hc : Chg Z s' s₁ := hZs Z hZR
    have vle : (vw (fun b => H1 b ∨ Z b) s'.heap).le (vw (fun b => H1 b ∨ (Z b ∧ ∃ o, h'.get? b = some o)) h') := fun b o ⟨hb, e⟩ =>
      ⟨fun h => h.elim (fun h => hb (.inl h)) fun h => hb (.inr h.1), hkeep b o (hc b o (fun h => hb (.inr h)) e)⟩
    have kH : ∀ b o, H1 b → s'.heap.get? b = some o → h'.get? b = some o := fun b o hb e => hkeep b o (hc b o (fun h => (hZ b h).1 hb) e)
    refine wpAny_pure (hR _ (fun b => Z b ∧ ∃ o, h'.get? b = some o) ?_)
    have hlen0 : (all.take (all.length - 0)).map ppath = all.map ppath := by rw [Nat.sub_zero, List.take_length]
    rw [← hlen0]
    refine ⟨CS.at'.to2 vle (fun o e => kH _ o hloc e) (fun x a o hx => (by rw [hcells] at hx; cases hx)) ⟨fun b o e => hkeep b o (hc b o (fun h => by rw [(hZ b h).2.1] at e; cases e) (CS.at'.ext.keep b o e)), setGen_ge hk.gle rfl ((setGen_ge hk.gle rfl CS.at'.ext.gens).trans hge), hos.trans CS.at'.ext.os⟩ (fun b hb => ?_) (.inl hloc), .inl hHD, CS.bD, ?_⟩
    · rcases hb with hb | hb
      · obtain ⟨o, e⟩ := CS.at'.live b (.inl hb); exact ⟨o, kH b o hb e⟩
      · exact hb.2
    · obtain ⟨zs, ⟨kz, hzs⟩, hall⟩ := CS.acc
      exact ⟨zs, ⟨kz, kH _ _ hHD hzs⟩, hall.mono vle⟩
end
end Mine
end
section
open PySem PySem.W
set_option Elab.async false
set_option maxRecDepth 100000
namespace Mine
theorem At.rebase {c : Cfg} {B : Shared} {H H' : Addr → Prop} {env : Env} {ρ : List (Str × VP)} {s s' : Shared} (X : At c B H env ρ s) (hcells : ∀ x, env.cells.lookup x = none) (hv : (vw H s.heap).le (vw H' s'.heap)) (hL : ∀ o, s.heap.get? env.locals = some o → s'.heap.get? env.locals = some o)
    (hB : ∀ b o, B.heap.get? b = some o → s'.heap.get? b = some o) (hl : Live H' s'.heap) (hH : H' env.locals) : At c (Bs B s') H' env ρ s' where
  base := X.base
  ext := ⟨hB, GE.rfl, rfl⟩
  live := hl
  homeH := hH
  homeB := X.homeB
  ns := let ⟨m, o, es, ep, e, r⟩ := X.ns; ⟨m, o, es, ep, hL o e, r⟩
  globals := X.globals
  builtins := X.builtins
  kind := X.kind
  one := X.one
  cells := fun x a h => by rw [hcells] at h; cases h
  has := X.has
  vars := fun x p h => by
    rcases X.vars x p h with ⟨k, m, v, ⟨o, es, ep, e, r⟩, hu, hp⟩ | ⟨k, a, v, ha, ⟨o, e, d⟩, hp⟩
    · exact .inl ⟨k, m, v, ⟨o, es, ep, hL o e, r⟩, hu, p.mono hv hp⟩
    · rw [hcells] at ha; cases ha
section
variable {w : World} {mg mb : Str → Option Value} {S : Int → Bool} {ah : List (Int × List Int)} {UP : Int → List (List Int)} {W : Int → Nat} {t : Int} {row : List Int}
theorem run_told {n : Nat} (N : Names mg) (D : Dag ah S UP W) (ht : ah.lookup t = some row) (hlen : (UP t).length ≤ 10000) (hpl : ∀ p ∈ UP t, p.length ≤ 10000) :
    Run (cfg w mg mb) (n + 4) (.ref 90) [pset (cfg w mg mb) S, pint t, pahead (cfg w mg mb) ah] (plist ((UP t).map ppath)) := by
  refine run_fn (names := ["first", "goal", "ahead"]) (body := _) rfl rfl (by rfl) rfl rfl rfl rfl (by decide) rfl (fun vs hv => ?_) (by decide) (by decide) (fun A B H env s Q E hA hsc hO X hQ => ?_)
  · match vs, hv with
    | [a, b, d], _ => rfl
  have X0 : At (cfg w mg mb) B H env [("first", pset (cfg w mg mb) S), ("goal", pint t), ("ahead", pahead (cfg w mg mb) ah)] s := X
  refine wpAny_execs_cons ?_
  rw [arm_exec_Try]
  refine wpAny_bind (wpAny_standAt (wpAny_tryStmt_except ?_))
  refine wpAny_execs_cons (wpAny_Return_some ?_)
  refine comp_gen_open rfl (by decide) (by decide) (fun _ _ => rfl) ?_
  refine wp_calls X0 hA hsc (ev_global rfl rfl N.gen (by decide)) (kept_ref (by rfl)) (evs_cons (ev_name rfl) (evs_cons (ev_name rfl) (evs_cons (ev_name rfl) evs_nil))) fun s₁ vs e₁ hvs => ?_
  have X₁ := X0.more e₁
  refine call_gen (names := ["sources", "target", "pred"]) (body := _) rfl rfl (by rfl) rfl rfl rfl rfl (by decide) rfl (fun vs hv => ?_) (by decide) (by decide) hA X₁.gl X₁.live hvs fun a genv s₂ gsc gcells XG hL0 ha0 haL hisg hgens hos hkeep hns _ => ?_
  · match vs, hv with
    | [a, b, d], _ => rfl
  refine ⟨a, s₁.gens.size, rfl, hisg, fun Dl C cenv s₃ CO => ?_⟩
  have hloc := CO.loc
  subst hloc
  have hk13 : ∀ b o, s₁.heap.get? b = some o → s₃.heap.get? b = some o := fun b o e => CO.keep b o (hkeep b o e)
  have back : ∀ b, s₂.heap.get? b = none → s₁.heap.get? b = none := fun b h => by
    cases e : s₁.heap.get? b with
    | none => rfl
    | some o => rw [hkeep b o e] at h; cases h
  have hC0 := back _ CO.c0
  have hD0 := back _ CO.d0
  have hcs : cenv.scope = _ := CO.sc.trans rfl
  obtain ⟨oL, _, _, hoL, _⟩ := id hns
  have hLC : genv.locals ≠ cenv.locals := fun h => by have := CO.c0; rw [← h, hoL] at this; cases this
  have hLD : genv.locals ≠ Dl := fun h => by have := CO.d0; rw [← h, hoL] at this; cases this
  obtain ⟨oa, _, _, hoa, _⟩ := id hisg
  have hHL : ¬ H genv.locals := fun h => by obtain ⟨o, e⟩ := X₁.live _ h; rw [hL0] at e; cases e
  have E13 : Ext s₁ s₃ := ⟨hk13, by rw [CO.gens]; exact XG.ext.gens, CO.os.trans hos⟩
  have liveH : ∀ b, (H b ∨ b = cenv.locals ∨ b = Dl) → ∃ o, s₃.heap.get? b = some o := fun b hb => by
    rcases hb with h | h | h
    · obtain ⟨o, e⟩ := X₁.live b h; exact ⟨o, hk13 b o e⟩
    · obtain ⟨o, _, _, e, _⟩ := CO.c1; exact ⟨o, h ▸ e⟩
    · obtain ⟨k, e⟩ := CO.d1; exact ⟨_, h ▸ e⟩
  have hgs := (congrArg (fun x : Array GenState => x[s₁.gens.size]?) (CO.gens.trans hgens)).trans Array.getElem?_push_size
  refine comp_loop (n := n + 2) (B := s₁) (H1 := fun b => H b ∨ b = cenv.locals ∨ b = Dl) (Oc := fun b => b = cenv.locals ∨ b = Dl) (L := genv.locals) (g := s₁.gens.size) (all := UP t) (hA.less (by omega)) (fun x h => ?_) (.inr (.inl rfl)) (.inr (.inr rfl)) (fun b => Iff.rfl) CO.cells hC0 rfl hcs
    (fun b hb h => ?_) hlen hpl (fun p hp => ?_) (fun s' Z CS => ?_) (UP t).length s₃ ⟨Nat.le_refl _, ⟨fun b => b = genv.locals, ?_, ?_, ?_⟩, hisg.keeps CO.keep, ⟨_, hgs, fun s'' hc hl => ⟨rfl, ?_⟩⟩, Nat.le_refl _⟩
  · exact (by decide : ∀ y ∈ ([(".0", NameKind.local), ("row", NameKind.local), ("list", NameKind.globalImplicit)] : List (Str × NameKind)), y.2 ≠ .cell) _ (mem_of_lookup h) rfl
  · subst h
    rcases hb with h | h | h
    · obtain ⟨o, e⟩ := X₁.live _ h; rw [ha0] at e; cases e
    · have := CO.c0; rw [← h, hoa] at this; cases this
    · have := CO.d0; rw [← h, hoa] at this; cases this
  · rw [hcs]
    exact ev_call (ev_boot rfl rfl (N.free _ (by decide)) boot_list (by decide)) kept_type (evs_cons (ev_name rfl) evs_nil) (run_list (by rw [List.length_map]; omega))
  · refine ⟨_, CS.at'.ns.choose_spec, fun h' hs => ?_⟩
    obtain ⟨ys, ⟨k, hys⟩, hall⟩ := CS.acc
    have hDC : Dl ≠ cenv.locals := CO.ne
    have hEB : Ext B { s' with heap := h' } := (X₁.ext.trans CS.at'.ext).trans' (t := s'.toks) fun b o hb e => hs.extBut b o (fun h => by
      have := X₁.ext.keep b o hb
      rw [h, hC0] at this; cases this) e
    have hHD : ¬ H Dl := fun h => by obtain ⟨o, e⟩ := X₁.live _ h; rw [hD0] at e; cases e
    exact hQ _ _ hEB ⟨Dl, ys, k, rfl, ⟨hHD, hs.extBut _ _ hDC hys⟩, hall.mono fun b o ⟨hb, e⟩ => ⟨fun h => hb (.inl (.inl h)), hs.extBut b o (fun h => hb (.inl (.inr (.inl h)))) e⟩⟩
  · refine ⟨⟨X₁.gl, E13, fun b hb => ?_, .inl (.inr (.inl rfl)), hC0, ⟨_, CO.c1⟩, CO.gl.trans X0.globals, CO.bi.trans X0.builtins, by rw [hcs]; rfl, fun x y a hx => (by rw [CO.cells] at hx; cases hx), fun x a hx => (by rw [CO.cells] at hx; cases hx), fun x hx => ?_, fun x p h => (by cases h)⟩, .inl (.inr (.inr rfl)), hD0, ⟨#[], CO.d1, ?_⟩⟩
    · rcases hb with hb | hb
      · exact liveH b hb
      · exact ⟨oL, by rw [hb]; exact CO.keep _ _ hoL⟩
    · exfalso
      have hx' : cenv.scope.names.lookup x = some .cell ∨ cenv.scope.names.lookup x = some .free := hx
      rw [hcs] at hx'
      have hall : ∀ y ∈ ([(".0", NameKind.local), ("row", NameKind.local), ("list", NameKind.globalImplicit)] : List (Str × NameKind)), y.2 ≠ .cell ∧ y.2 ≠ .free := by decide
      rcases hx' with h | h
      · exact (hall _ (mem_of_lookup h)).1 rfl
      · exact (hall _ (mem_of_lookup h)).2 rfl
    · rw [Nat.sub_self, List.take_zero]; trivial
  · refine ⟨rfl, fun m hm => ?_⟩
    have hns3 : s₃.heap.Ns genv.locals _ := hns.keeps CO.keep
    obtain rfl := ns_unique hns3 hm
    match vs, hvs.length with
    | [v1, v2, v3], _ => exact ⟨fun D1 h => (by cases h), fun D2 h => (by cases h)⟩
  · intro b hb
    subst hb
    refine ⟨fun h => ?_, hL0, Ne.symm haL⟩
    rcases h with h | h | h
    · exact hHL h
    · exact hLC h
    · exact hLD h
  · have hk3 : ∀ b o, ¬ (b = cenv.locals ∨ b = Dl) → s₂.heap.get? b = some o → s''.heap.get? b = some o := fun b o hb e => hc b o hb (CO.keep b o e)
    have hno : ∀ b o, s₂.heap.get? b = some o → ¬ (b = cenv.locals ∨ b = Dl) := fun b o e h => by
      rcases h with h | h
      · rw [h, CO.c0] at e; cases e
      · rw [h, CO.d0] at e; cases e
    have XG0 : At (cfg w mg mb) s₁ (fun b => H b ∨ b = genv.locals) genv (ρg (cfg w mg mb) S ah t) s₂ := XG
    have vle : (vw (fun b => H b ∨ b = genv.locals) s₂.heap).le (vw (HO (fun b => H b ∨ b = cenv.locals ∨ b = Dl) genv.locals) s''.heap) := fun b o ⟨hb, e⟩ => by
      refine ⟨fun h => ?_, hk3 b o (hno b o e) e⟩
      rcases h with (h | h | h) | h
      · exact hb (.inl h)
      · exact hno b o e (.inl h)
      · exact hno b o e (.inr h)
      · exact hb (.inr h)
    have keep1 : ∀ b o, s₁.heap.get? b = some o → s''.heap.get? b = some o := fun b o e => hk3 b o (hno b o (hkeep b o e)) (hkeep b o e)
    have XG1 := XG0.rebase (s' := s'') gcells vle (fun o e => hk3 _ o (hno _ o e) e) keep1 (fun b hb => by
      rcases hb with h | h
      · exact hl b h
      · exact ⟨oL, by rw [h]; exact hk3 _ _ (hno _ _ hoL) hoL⟩) (.inr rfl)
    exact gen_seg (n := n + 1) rfl rfl rfl D gsc gcells rfl rfl rfl rfl rfl rfl rfl (N.free _ (by decide)) rfl rfl rfl (fun b hb => hb.elim (fun h => .inr (.inl h)) fun h => .inr (.inr h)) (fun b hb => by
      rcases hb with h | h
      · rw [h]; exact hC0
      · rw [h]; exact hD0) (fun h => by
      rcases h with h | h | h
      · exact hHL h
      · exact hLC h
      · exact hLD h) (AC.in1 hA) ht XG1
end
end Mine
end
section
open PySem PySem.W
set_option Elab.async false
set_option maxRecDepth 100000
namespace Mine
section
variable {c : Cfg} {n : Nat}
/-- a call of a def of the text, in the very frame -/
theorem call_fn {a : Addr} {o : Obj} {fd : FuncData} {body : List Stmt} {names : List Str} {ps : List VP}
    (ho : c.K.lookup a = some o) (hd : o.data = .func fd) (hcd : codeIn c.K fd.code fd.qualname = true) (hbody : fd.body = .stmts body) (hclo : fd.closure = [])
    (hgl : fd.globals = mainGlobals) (hbi : fd.builtins = builtinsNs) (hnd : names.Nodup) (hlen : names.length = ps.length)
    (hbind : ∀ vs : List Value, vs.length = ps.length → bindArgs fd ⟨vs, []⟩ = pure (names.zip vs))
    (hkind : ∀ x ∈ names, fd.scope.names.lookup x = some .local ∨ fd.scope.names.lookup x = some .cell) (hfree : ∀ y ∈ fd.scope.names, y.2 ≠ .free)
    {A : Around} {H : Addr → Prop} {s : Shared} {vs : List Value} {Q : Value → Shared → Prop} {E : Value → Shared → Prop} (hA : AC A (n + 1)) (G : Gl c s.heap) (hH : Live H s.heap) (hv : All2 (vw H s.heap) ps vs)
    (h : ∀ (H' : Addr → Prop) (env : Env) (s₁ : Shared), AC (A.deeper env) n → env.scope = fd.scope → Owns s H' env → At c s H' env (names.zip ps) s₁ → env.frame = some env.locals → (∀ b, H b → H' b) → s₁.gens = s.gens → s₁.os = s.os →
      ∀ E', wpAny c.M (A.deeper env) (execs body env) (fun fl s' => Q (match fl with | .ret v => v | _ => .none) s') E' s₁)
    (hco : fd.scope.isCoroutine = false := by rfl) (hgen : fd.scope.isGenerator = false := by rfl) (hk : fd.scope.kind = .function := by rfl) : wpAny c.M A (call (.ref a) vs) Q E s := by
  have hvl : vs.length = ps.length := hv.length.symm
  have hzip : (names.zip vs).map (·.1) = names := zip_fst (hlen.trans hvl.symm)
  refine wpAny_call (codeAny_call_cells hA.room (G.k _ _ ho) hd G.nolimit (codeRec_of G.k hcd) hbody (hbind vs hvl) hclo (fun x hx => ?_) (fun s₁ X => ?_) hco hgen hk)
  · have hx' : x.1 ∈ names := by rw [← hzip]; exact List.mem_map_of_mem hx
    rcases hkind _ hx' with e | e
    · exact .inl e
    · exact .inr ⟨e, cellsFrom_mem _ _ _ (.inl (mem_of_lookup e))⟩
  · generalize henv : callEnvC fd s.heap.objs.size a = env at X ⊢
    have esc : env.scope = fd.scope := by rw [← henv]; rfl
    have eL : env.locals = s.heap.objs.size := by rw [← henv]; rfl
    have ecells : env.cells = cellsFrom (s.heap.objs.size + 1) fd.scope.names [] := by rw [← henv]; rfl
    have hnone : ∀ b, s.heap.objs.size ≤ b → s.heap.get? b = none := fun b hb => by
      cases e : s.heap.get? b with
      | none => rfl
      | some o => exact absurd (Heap.lt_size e) (Nat.not_lt.mpr hb)
    have habove : ∀ x b, env.cells.lookup x = some b → s.heap.objs.size ≤ b := fun x b hb => Nat.le_of_lt (by rw [← eL]; exact X.above x b (mem_of_lookup hb))
    let H' : Addr → Prop := fun b => H b ∨ b = env.locals ∨ ∃ x, env.cells.lookup x = some b
    have e1 : Ext s s₁ := by
      obtain ⟨h', tk, rfl⟩ := X.toInCall.same
      exact Ext.heap X.toInCall.keep
    have vle : (vw H s.heap).le (vw H' s₁.heap) := fun b o ⟨hb, e⟩ => by
      refine ⟨fun hx => ?_, e1.keep b o e⟩
      rcases hx with hx | hx | ⟨x, hx⟩
      · exact hb hx
      · rw [hx, eL, hnone _ (Nat.le_refl _)] at e; cases e
      · rw [hnone _ (habove x b hx)] at e; cases e
    have hAt : At c s H' env (names.zip ps) s₁ := by
      refine ⟨G, e1, ?_, .inr (.inl rfl), by rw [eL]; exact hnone _ (Nat.le_refl _), ⟨_, X.toInCall.ns⟩, by rw [← henv]; exact hgl, by rw [← henv]; exact hbi, by rw [esc]; exact hk, ?_, fun x b hb => ⟨_, X.cell x b hb⟩, ?_, ?_⟩
      · intro b hb
        rcases hb with hb | hb | ⟨x, hb⟩
        · exact (hH.keeps e1.keep) b hb
        · subst hb; obtain ⟨o', _, _, e, _⟩ := X.toInCall.ns; exact ⟨o', e⟩
        · obtain ⟨o', e, _⟩ := X.cell x b hb; exact ⟨o', e⟩
      · intro x y b hx hy
        exact name_of_addr X.apart (mem_of_lookup hx) (mem_of_lookup hy)
      · intro x hx
        have hk' : env.kindOf x = fd.scope.names.lookup x := by rw [← esc]; rfl
        rw [hk'] at hx
        rcases hx with hx | hx
        · rw [ecells]; exact Option.isSome_iff_exists.mp (cellsFrom_mem fd.scope.names (s.heap.objs.size + 1) [] (.inl (mem_of_lookup hx)))
        · exact absurd rfl (hfree _ (mem_of_lookup hx))
      · intro x p hx
        obtain ⟨v, hxv, hp⟩ := zip_lookup hv hx
        have hx' : x ∈ names := by
          have := mem_of_lookup hxv
          rw [← hzip]; exact List.mem_map_of_mem (f := (·.1)) this
        have hk' : env.kindOf x = fd.scope.names.lookup x := by rw [← esc]; rfl
        rcases hkind _ hx' with e | e
        · exact .inl ⟨hk'.trans e, _, v, X.toInCall.ns, bindL_get (hk'.trans e) (by rw [hzip]; exact hnd) hxv, p.mono vle hp⟩
        · obtain ⟨b, hb⟩ := Option.isSome_iff_exists.mp (cellsFrom_mem fd.scope.names (s.heap.objs.size + 1) [] (.inl (mem_of_lookup e)))
          rw [← ecells] at hb
          have hbc := X.cell x b hb
          rw [bindC_get (by rw [hk', e]; simp) (by rw [hzip]; exact hnd) hxv] at hbc
          exact .inr ⟨.inl (hk'.trans e), b, v, hb, hbc, p.mono vle hp⟩
    have hO : Owns s H' env := fun x hx => by
      have hx2 : fd.scope.names.lookup x = some .cell := by rw [← esc]; exact hx
      obtain ⟨b, hb⟩ := Option.isSome_iff_exists.mp (cellsFrom_mem fd.scope.names (s.heap.objs.size + 1) [] (.inl (mem_of_lookup hx2)))
      rw [← ecells] at hb
      exact ⟨b, hb, .inr (.inr ⟨x, hb⟩), hnone _ (habove x b hb)⟩
    have hfrm : env.frame = some env.locals := by rw [eL, ← henv]; rfl
    obtain ⟨hh', tk, hsame⟩ := X.toInCall.same
    exact h H' env s₁ hA.deeper esc hO hAt hfrm (fun b hb => .inl hb) (by rw [hsame]) (by rw [hsame]) _
end
end Mine
end
section
open PySem PySem.W
set_option Elab.async false
set_option maxRecDepth 100000
namespace Mine
theorem keys_out {ah : List (Int × List Int)} {t : Int} (h : ah.lookup t = none) : ((ah.map fun x => (x.1, plist (x.2.map pint))).map Prod.fst).any (· == t) = false := by
  rw [List.any_eq_false]
  intro x hx
  simp only [List.map_map, List.mem_map, Function.comp] at hx
  obtain ⟨y, hy, rfl⟩ := hx
  intro e
  have e' : y.1 = t := by simpa using e
  rw [List.lookup_eq_none_iff] at h
  have := h y hy
  simp [e'] at this
section
variable {c : Cfg} {n : Nat} {sc : Scope} {B : Shared} {O : Addr → Prop} {env : Env} {A : Around}
variable {S : Int → Bool} {ah : List (Int × List Int)} {t : Int}
/-- the end of a generator whose goal is not there -/
def GM (fs : List Addr) (outer : List Env) (C : Addr) : GenEnd := fun _ s₀ r s₁ => ∃ bs e a0, r = .error (.ref e) ∧ (∀ b o, b ∉ fs → s₀.heap.get? b = some o → bs.get? b = some o) ∧ Heap.FlyingW bs outer e (.ref C) a0 s₁.heap ∧ GE s₀.gens s₁.gens ∧ s₁.os = s₀.os
theorem gen_miss {gbody more : List Stmt} {s₀ : Shared} {base : Heap} {outer : List Env} {C : Addr} {Bn newId initId : String} {bmB : List Value} {m1 m2 : Str} {h1 h2 h3 h4 r1 r2 r3 r4 r5 r6 r7 r8 : Pos} {z1 z2 : Nat}
    (hgb : gbody = .If (.Compare (.Name "target" h1) [.NotIn] [.Name "pred" h2] h3) [.Raise (some (.Call (.Name "NetworkXNoPath" r1) [.JoinedStr [.Constant (.str m1) z1 r2, .FormattedValue (.Name "target" r3) (-1) none r4, .Constant (.str m2) z2 r5] r6] [] r7)) none r8] [] h4 :: more)
    (hsc : env.scope = sc) (hk : sc.kind = .function) (hcls : sc.names.lookup ("NetworkXNoPath" : Str) = some .globalImplicit) (hA : AC A (n + 1)) (hfr : A.frames = some outer)
    (hbs : base.StaysIn s₀.heap) (hff : s₀.heap.FunFrames base outer) (hL : base.get? env.locals = none) (hfe : env.frame = some env.locals)
    (OQ : PyProof.Rows.OwnClsQ "NetworkXNoPath" C bmB newId c.mg base) (F : ExcBaseFacts Bn newId initId bmB)
    (ht : ah.lookup t = none) (htl : t.natAbs.log2 < 1920) (hz : ((Str.empty ++ m1) ++ (toString t : Str)).length + m2.length ≤ sizeLine)
    (X : At c (Bs B s₀) (HO O env.locals) env (ρg c S ah t) s₀) :
    Seg c.M A (GM ((env :: outer).filterMap (·.frame)) outer C) (fun _ _ _ _ _ => False) 0 s₀ (.func gbody env) (c.M.den (.func gbody env)) [] s₀ := by
  have hA1 : AC (A.over (.func gbody env) []) n := ac_func hA
  have hfr1 : (A.over (.func gbody env) []).frames = some (env :: outer) := by
    show pushEnvs (Code.envs (.func gbody env)) (pushEnvs [] A.frames) = _
    rw [hfr]; rfl
  refine seg_func ?_
  have hb := congrArg (fun b => execs b env) hgb
  rw [hb]
  clear hb
  refine seg_execs_cons (seg_If (Ts.go (b := true) (ts_cast (ts_cmp (q := pahead c ah) (ev_name (p := pint t) rfl) (ev_name rfl) c_notin_dict) (by rw [keys_out ht]; rfl)) hsc hA1 X fun s₁ e₁ => ?_))
  rw [if_pos rfl]
  have X₁ := X.more e₁
  obtain ⟨bm, N, nm, q, bs, hdct, sn, sub, ab, col, dd, k0, k1, k2, k3, k5, mN, hC, hN, hq, T⟩ := OQ.obj
  refine seg_execs_cons (seg_wrap (wpAny_Raise_call_subT (C := C) (nm := nm) (q := q) (N := N) (bs := bs) (bm := bm) (hdct := hdct) (sn := sn) (sub := sub) (ab := ab) (col := col) (dd := dd) (k0 := k0) (k1 := k1) (k2 := k2) (k3 := k3) (k5 := k5) (newId := newId) (mN := mN) F (T.tail.hasType F.hasBase) hA1.handled rfl (hq _ (.head _)) (Ev.go (ev_global hk hcls OQ.bound (by decide)) hsc hA1 X₁ fun v s₂ e₂ hv => ⟨hv, ?_⟩)))
  have X₂ := X₁.more e₂
  have hst : backTo r7 (starEach [.JoinedStr [.Constant (.str m1) z1 r2, .FormattedValue (.Name "target" r3) (-1) none r4, .Constant (.str m2) z2 r5] r6] env) = [(false, eval (.JoinedStr [.Constant (.str m1) z1 r2, .FormattedValue (.Name "target" r3) (-1) none r4, .Constant (.str m2) z2 r5] r6) env)] := rfl
  rw [hst]
  refine Calls.evalArgs_plain (Calls.spliced_cons (wpAny_JoinedStr ?_))
  refine wpAny_Constant_str ⟨m1, _, rfl, ?_, ?_⟩
  · have hz' := hz
    rw [strLen_append] at hz'; omega
  refine wpAny_FormattedValue_plain (Ev.go (p := pint t) (ev_name rfl) hsc hA1 (X₂.more (.toks _)) fun vt s₃ e₃ hvt => ?_)
  obtain ⟨tk, rfl⟩ := hvt
  refine wpAny_formatField_int htl ⟨toString t, _, rfl, by omega, ?_⟩
  refine wpAny_Constant_str ⟨m2, _, rfl, by rw [strLen_append]; exact hz, by rw [strLen_append]; exact hz, ?_⟩
  refine Calls.spliced_nil ?_
  have kb : ∀ (tk : Nat), base.StaysIn ({ s₃ with toks := tk } : Shared).heap := fun tk b o e => e₃.keep b o (e₂.keep b o (e₁.keep b o (hbs b o e)))
  refine ⟨rfl, by simp [sizeLine], kb 0 _ _ hC, hN.keeps (kb 0), T.tail.keeps (kb 0), fun h' e hm => ?_⟩
  have k03 : ∀ (tk : Nat) b o, s₀.heap.get? b = some o → ({ s₃ with toks := tk } : Shared).heap.get? b = some o := fun tk b o e => e₃.keep b o (e₂.keep b o (e₁.keep b o e))
  have X₃ := (X₂.more (.toks _)).more e₃
  obtain ⟨m, o, es, ep, ho, hd, _⟩ := X₃.ns
  have hff3 : s₃.heap.FunFrames base (env :: outer) := ⟨by rw [X₃.kind]; decide, ⟨env.locals, o, hfe, hL, ho, fun vs h => by rw [hd] at h; cases h⟩, hff.of_keeps fun b o e _ => ⟨o, k03 0 b o e, rfl⟩⟩
  have hin : ∀ e' ∈ (env :: outer), ∀ b, e'.frame = some b → b ∈ (env :: outer).filterMap (·.frame) := fun e' he b hb => List.mem_filterMap.mpr ⟨e', he, hb⟩
  refine seg_wrap (wpAny_leaves_madeW (base := hideAll s₃.heap ((env :: outer).filterMap (·.frame))) hfr1 hfe (fun b o q => of_hideAll _ q) (funFrames_hide hff3 hin) hm fun h'' tt hfl htup htn hup => ?_)
  have hend : GM ((env :: outer).filterMap (·.frame)) outer C 0 s₀ (.error (.ref e)) { ({ s₃ with toks := s₃.toks + 1 + 1 + 1 + 1 } : Shared) with heap := h'' } :=
    ⟨_, e, _, rfl, fun b o hb q => hideAll_get _ (k03 0 b o q) hb, hfl, (e₁.gens.trans e₂.gens).trans e₃.gens, (e₃.os.trans e₂.os).trans e₁.os⟩
  exact seg_end (.error (.ref e)) hend
end
end Mine
end
section
open PySem PySem.W
set_option Elab.async false
set_option maxRecDepth 100000
namespace Mine
theorem stop_not : isSubtype (.type "StopIteration") (.type "StopIteration") = pure true := isSubtype_stop
section
variable {prog : Program} {w : World} {A : Around} {E : Value → Shared → Prop} {s : Shared}
theorem isInstance_own {C e : Addr} {oe : Obj} {nm q : Str} {N : Addr} {bs bm : List Value} {hdct : Bool} {sn : List Str} {sub : List Value} {ab : Bool} {col : Option Bool} {dd : Option Addr} {k0 k1 k2 k3 k5 : Option Value} {newId : String} {Q : Bool → Shared → Prop} {T : String}
    (hC : s.heap.get? C = some (excClassObj nm q C N bs bm hdct sn sub ab col dd k0 k1 k2 k3 k5 newId)) (he : s.heap.get? e = some oe) (hcls : oe.cls = .ref C) (hT : bm.contains (.type T) = false) (hQ : Q false s) : wpAny (model prog w) A (isInstance (.ref e) (.type T)) Q E s := by
  obtain ⟨h, g, d, t, os⟩ := s
  have hc : (Value.ref C :: bm).contains (.type T) = false := by rw [List.contains_cons, hT]; rfl
  unfold isInstance
  repeat (first | (with_reducible refine wpAny_loadPart_at he ?_; rw [hcls]) | (with_reducible refine wpAny_isSubtype_exc hC ?_; rw [hc]) | wp_step)
  exact hQ
theorem next_err {a g C : Addr} {gs : GenState} {fs : List Addr} {outer : List Env} {Q : Option Value → Shared → Prop} (hl : s.heap.NoLimit) (hroom : A.depth < recursionLimit)
    (hg : s.heap.IsGen a g) (haf : a ∉ fs) (hgs : s.gens[g]? = some gs) (hgo : gs.Goes (model prog w) A.in1 (GM fs outer C) (fun _ _ _ _ _ => False) 0 (.send .none) (s.setGen g .running))
    {nm q : Str} {N : Addr} {bs bm : List Value} {hdct : Bool} {sn : List Str} {sub : List Value} {ab : Bool} {col : Option Bool} {dd : Option Addr} {k0 k1 k2 k3 k5 : Option Value} {newId : String}
    (hC : s.heap.get? C = some (excClassObj nm q C N bs bm hdct sn sub ab col dd k0 k1 k2 k3 k5 newId)) (hCf : C ∉ fs) (hns : bm.contains (.type "StopIteration") = false)
    (hE : ∀ e s₁, GM fs outer C 0 (s.setGen g .running) (.error (.ref e)) s₁ → E (.ref e) (s₁.setGen g .finished)) :
    wpAny (model prog w) A (pyNext (.ref a)) Q E s := by
  unfold pyNext
  refine wpAny_bind (wpAny_attempt (wpAny_callSpecial?_slot (name := Str.ofString "__next__") hg.typeIs slot_gen_next
    (wpAny_call_entry slot_gen_next hg.typeIs entry_gen_next ?_ (args_gen_next _))))
  show wpAny _ A.in1 (Builtin.Generator.genWake (.ref a) (.send .none)) _ _ s
  unfold Builtin.Generator.genWake
  refine wpAny_bind (wpAny_holding (wpAny_genNumber hg (wpAny_bind (wpAny_genState hgs ?_))))
  cases gs with
  | running => exact hgo.elim
  | finished => exact hgo.elim
  | _ =>
    refine wpAny_bind (wpAny_roomToWake hl hroom ?_)
    show wpAny _ A.in1 (.resume g (.send .none) [] _) _ _ s
    refine wpAny_resumeQ hgs hgo (fun x s₁ hx => ?_) (fun v s₁ gs' hb hv => hv.elim)
    obtain ⟨bs', e, a0, rfl, hkeep, hfl, hge, hos⟩ := id hx
    obtain ⟨f1, f2, f3, oe, vs, T, oT, ts, he, ⟨hcls, h0⟩, hrest⟩ := hfl
    obtain ⟨o, nm', qn, ho, hoc, hod, hosl⟩ := id hg
    have ho1 : s₁.heap.get? a = some o := f1 _ _ (hkeep a o haf ho)
    have hC1 : s₁.heap.get? C = some _ := f1 _ _ (hkeep C _ hCf hC)
    show wpAny _ A.in1 (Builtin.Generator.genLeft (.ref a) (.ref e)) _ _ (s₁.setGen g .finished)
    unfold Builtin.Generator.genLeft Builtin.Generator.madeByALambda
    refine wpAny_bind (wpAny_bind (wpAny_load (s := s₁.setGen g .finished) ho1 (wpAny_pure ?_)))
    rw [hoc, hod]
    refine wpAny_bind (isInstance_own (s := s₁.setGen g .finished) hC1 he hcls hns ?_)
    rw [if_neg (by rw [Bool.and_false]; decide)]
    unfold Builtin.Generator.genEscaped
    refine wpAny_bind (isInstance_own (s := s₁.setGen g .finished) hC1 he hcls hns ?_)
    rw [if_pos (by decide)]
    refine wpAny_throw ?_
    refine wpAny_bind (isInstance_own (s := s₁.setGen g .finished) hC1 he hcls hns ?_)
    rw [if_neg (by decide)]
    exact wpAny_throw (hE e s₁ hx)
end
end Mine
end
section
open PySem PySem.W
set_option Elab.async false
set_option maxRecDepth 100000
namespace Mine
theorem noteFrame_congr {e : Value} {env env' : Env} (h : env.frame = env'.frame) : noteFrame e env = noteFrame e env' := by
  unfold noteFrame frameOf
  rw [h]
section
variable {M : Model} {A : Around} {E : Value → Shared → Prop} {s : Shared}
/-- noted, and in whatever flight -/
def Aloft (base : Heap) (l : List Env) (e : Addr) (cls : Value) (h : Heap) : Prop := ∃ a0 fl, base.StaysIn h ∧ base.get? e = none ∧ h.FunFrames base l ∧ h.TracedAtW base e cls a0 fl
theorem setFlight_any {base : Heap} {l : List Env} {e : Addr} {cls : Value} {fr : Option Addr} {Q : Unit → Shared → Prop} (x : Aloft base l e cls s.heap)
    (hQ : ∀ h', Aloft base l e cls h' → Q () { s with heap := h' }) : wpAny M A (setFlight (.ref e) fr) Q E s := by
  obtain ⟨a0, fl, f1, f2, f3, oe, vs, T, oT, ts, he, ⟨hcls, h0⟩, hd, h1, hnT, hTe, hT, hdT, h3⟩ := x
  unfold setFlight
  refine wpAny_bind (wpAny_field he hd h1 ?_)
  rw [if_pos (show (Value.ref T != Value.none) = true from by simp)]
  have h3l := (Array.getElem?_eq_some_iff.mp h3).1
  refine wpAny_setField hT hdT h3l (hQ _ ⟨a0, fr.elim .none fun f => rawInt f, fun b o hb => ?_, f2, f3.of_keeps fun b o hb hn => ⟨o, ?_, rfl⟩, oe, vs, T, _, _, ?_, ⟨hcls, h0⟩, hd, h1, hnT, hTe, Heap.get?_update_self _ hT (Obj.isFreed_of_fields (Obj.data_mapFields hdT _)), Obj.data_mapFields hdT _, ?_⟩)
  · exact (Heap.get?_update_other _ _ (fun h => by subst h; rw [hnT] at hb; cases hb)).trans (f1 b o hb)
  · exact (Heap.get?_update_other _ _ (fun h => by subst h; rw [hT] at hb; cases hb; exact hn ts hdT)).trans hb
  · exact (Heap.get?_update_other _ _ hTe).trans he
  · simp [h3l]
theorem noteFrame_any {base : Heap} {env : Env} {outer : List Env} {L e : Addr} {cls : Value} {Q : Unit → Shared → Prop} (hfr : A.frames = some (env :: outer)) (hf : env.frame = some L) (x : Aloft base (env :: outer) e cls s.heap)
    (hQ : ∀ h', Aloft base (env :: outer) e cls h' → Q () { s with heap := h' }) : wpAny M A (noteFrame (.ref e) env) Q E s := by
  obtain ⟨a0, fl, f1, f2, f3, ht⟩ := id x
  by_cases hfl : fl = rawInt L
  · subst hfl
    refine wpAny_noteFrame_againW hf ht ?_
    exact hQ s.heap x
  · obtain ⟨oe, vs, T, oT, ts, he, ⟨hcls, h0⟩, hd, h1, hnT, hTe, hT, hdT, h3⟩ := ht
    subst hcls
    unfold noteFrame
    simp only [hf]
    refine wpAny_bind (wpAny_field he hd h1 ?_)
    rw [if_pos (show (Value.ref T != Value.none) = true from by simp)]
    refine wpAny_bind (wpAny_field hT hdT h3 ?_)
    rw [if_neg (by simpa using hfl)]
    refine wpAny_bind (wpAny_setField hT hdT (Array.getElem?_eq_some_iff.mp h3).1 ?_)
    have other : ∀ b, b ≠ T → (s.heap.update T (Obj.mapFields (·.setIfInBounds 3 Value.none))).get? b = s.heap.get? b := fun b hb => Heap.get?_update_other _ _ (Ne.symm hb)
    have noRecord : ∀ b o, s.heap.get? b = some o → (∀ vs, o.data ≠ .fields vs) → b ≠ T := fun b o hb hnf q => by
      rw [q, hT] at hb; injection hb with hb; subst hb; exact hnf ts hdT
    refine wpAny_entryW hfr (f3.of_keeps fun b o hb hnf => ⟨o, (other b (noRecord b o hb hnf)).trans hb, rfl⟩) hf ((other e (Ne.symm hTe)).trans he)
      (fun b o hbo => (other b fun q => by rw [q, hnT] at hbo; cases hbo).trans (f1 b o hbo)) f2 hd (Array.getElem?_eq_some_iff.mp h1).1 h0 fun h' ⟨x1, x2, x3, _⟩ => ?_
    exact hQ h' ⟨a0, _, x1, f2, x2, x3⟩
end
end Mine
end
section
open PySem PySem.W
set_option Elab.async false
set_option maxRecDepth 100000
namespace Mine
theorem funFrames_but {base h h' : Heap} {C : Addr} (hs : Heap.SameBut C h h') : ∀ {l : List Env}, h.FunFrames base l → (∀ env ∈ l, env.frame ≠ some C) → h'.FunFrames base l
  | [], _, _ => trivial
  | env :: l, ⟨a, ⟨L, o, b, d, e, f⟩, r⟩, hn => ⟨a, ⟨L, o, b, d, hs.extBut L o (fun h => hn env List.mem_cons_self (by rw [b, h])) e, f⟩, funFrames_but hs r fun x hx => hn x (List.mem_cons_of_mem _ hx)⟩
theorem aloft_but {base h h' : Heap} {l : List Env} {e C : Addr} {cls : Value} {m : Str → Option Value} (x : Aloft base l e cls h) (hs : Heap.SameBut C h h') (hC : base.get? C = none) (hn : h.Ns C m) (hl : ∀ env ∈ l, env.frame ≠ some C) : Aloft base l e cls h' := by
  obtain ⟨a0, fl, f1, f2, f3, oe, vs, T, oT, ts, he, hcls, hd, h1, hnT, hTe, hT, hdT, h3⟩ := x
  obtain ⟨oC, es, ep, hoC, hdC, _⟩ := hn
  have e1 : e ≠ C := fun h => by rw [h, hoC] at he; cases he; rw [hdC] at hd; cases hd
  have e2 : T ≠ C := fun h => by rw [h, hoC] at hT; cases hT; rw [hdC] at hdT; cases hdT
  exact ⟨a0, fl, fun b o hb => hs.extBut b o (fun h => by rw [h, hC] at hb; cases hb) (f1 b o hb), f2, funFrames_but hs f3 hl, oe, vs, T, oT, ts, hs.extBut e _ e1 he, hcls, hd, h1, hnT, hTe, hs.extBut T _ e2 hT, hdT, h3⟩
section
variable {w : World} {mg mb : Str → Option Value} {S : Int → Bool} {ah : List (Int × List Int)} {t : Int}
theorem told_miss {n : Nat} (N : Names mg) {A : Around} {base : Heap} {outer : List Env} {H : Addr → Prop} {s : Shared} {vs : List Value} {Q : Value → Shared → Prop} {E : Value → Shared → Prop} {Bn newId initId : String} {bmB : List Value}
    (hA : AC A (n + 5)) (hfr : A.frames = some outer) (hbs : base.StaysIn s.heap) (hff : s.heap.FunFrames base outer) (hgb : base.Ns mainGlobals mg) (OQ : PyProof.Rows.OwnClsQ "NetworkXNoPath" 61 bmB newId mg base) (F : ExcBaseFacts Bn newId initId bmB)
    (hstop : bmB.contains (.type "StopIteration") = false) (G : Gl (cfg w mg mb) s.heap) (hH : Live H s.heap) (hv : All2 (vw H s.heap) [pset (cfg w mg mb) S, pint t, pahead (cfg w mg mb) ah] vs) (ht : ah.lookup t = none) (htl : t.natAbs.log2 < 1920) (htz : (Str.ofString (toString t)).length ≤ 100)
    (hQ : ∀ s', base.StaysIn s'.heap → GE s.gens s'.gens → s'.os = s.os → Q .none s') : wpAny (cfg w mg mb).M A (call (.ref 90) vs) Q E s := by
  refine call_fn (c := cfg w mg mb) (names := ["first", "goal", "ahead"]) (body := _) rfl rfl (by rfl) rfl rfl rfl rfl (by decide) rfl (fun vs hv => ?_) (by decide) (by decide) hA G hH hv fun H' env s₁ hA1 hsc hO X hfe hHH hg1 ho1 E' => ?_
  · match vs, hv with
    | [a, b, d], _ => rfl
  have X0 : At (cfg w mg mb) s H' env [("first", pset (cfg w mg mb) S), ("goal", pint t), ("ahead", pahead (cfg w mg mb) ah)] s₁ := X
  have hfr1 : (A.deeper env).frames = some (env :: outer) := Around.frames_deeper hfr
  refine wpAny_execs_cons ?_
  rw [arm_exec_Try]
  refine wpAny_bind (wpAny_standAt (wpAny_tryStmt_except ?_))
  refine wpAny_execs_cons (wpAny_Return_some ?_)
  refine comp_gen_open rfl (by decide) (by decide) (fun _ _ => rfl) ?_
  refine wp_calls X0 hA1 hsc (ev_global rfl rfl N.gen (by decide)) (kept_ref (by rfl)) (evs_cons (ev_name rfl) (evs_cons (ev_name rfl) (evs_cons (ev_name rfl) evs_nil))) fun s₂ vs₂ e₂ hvs => ?_
  have X₂ := X0.more e₂
  refine call_gen (names := ["sources", "target", "pred"]) (body := _) rfl rfl (by rfl) rfl rfl rfl rfl (by decide) rfl (fun vs hv => ?_) (by decide) (by decide) hA1 X₂.gl X₂.live hvs fun a genv s₃ gsc gcells XG hL0 ha0 haL hisg hgens hos hkeep hns hgfe => ?_
  · match vs, hv with
    | [a, b, d], _ => rfl
  refine ⟨a, s₂.gens.size, rfl, hisg, fun Dl C cenv s₄ CO => ?_⟩
  have hloc := CO.loc
  subst hloc
  have hk24 : ∀ b o, s₂.heap.get? b = some o → s₄.heap.get? b = some o := fun b o e => CO.keep b o (hkeep b o e)
  have hbs2 : ∀ b o, base.get? b = some o → s₂.heap.get? b = some o := fun b o e => (X₂.ext.keep b o (hbs b o e))
  have hbs4 : base.StaysIn s₄.heap := fun b o e => hk24 b o (hbs2 b o e)
  have newb : ∀ b, s₂.heap.get? b = none → base.get? b = none := fun b h => by
    cases e : base.get? b with
    | none => rfl
    | some o => rw [hbs2 b o e] at h; cases h
  have hgs := (congrArg (fun x : Array GenState => x[s₂.gens.size]?) (CO.gens.trans hgens)).trans Array.getElem?_push_size
  obtain ⟨m0, oL0, es0, ep0, hoL0, hdL0, _⟩ := X₂.ns
  have hff4 : s₄.heap.FunFrames base (env :: outer) := ⟨by rw [X₂.kind]; decide, ⟨env.locals, oL0, hfe, (by
      cases e : base.get? env.locals with
      | none => rfl
      | some o => have := hbs _ _ e; rw [X₂.homeB] at this; cases this), hk24 _ _ hoL0, fun vs h => by rw [hdL0] at h; cases h⟩, hff.of_keeps fun b o e _ => ⟨o, hk24 b o (X₂.ext.keep b o e), rfl⟩⟩
  obtain ⟨bm, Nn, nm, q, bs, hdct, sn, sub, ab, col, dd, k0, k1, k2, k3, k5, mN, hC, hN, hq, T⟩ := OQ.obj
  refine codeAny_loop rfl (fun _ s' => s' = s₄) (fun k s' hk => ?_) 0 rfl
  subst hk
  show wpAny (cfg w mg mb).M (A.deeper env) ((compTurn _ 0 (.ref a) (.ref Dl) cenv).onRaise (fun x => do noteFrame x cenv; theTreesLotGoes x)) _ _ s'
  refine wpAny_noted ?_
  rw [compTurn_eq (by rfl) (fun g' h => by simp at h)]
  refine wpAny_bind (wpAny_standAt (wpAny_bind ?_))
  have oldf : ∀ b ∈ outer.filterMap (·.frame), ∃ o, s.heap.get? b = some o := fun b hb => let ⟨_, o, ho, _⟩ := hff.mem hb; ⟨o, ho⟩
  have nbf : ∀ b, s₂.heap.get? b = none → b ≠ genv.locals → b ∉ (genv :: env :: outer).filterMap (·.frame) := fun b hb hbl hm => by
    rw [List.filterMap_cons, hgfe, List.filterMap_cons, hfe] at hm
    rcases List.mem_cons.mp hm with h | hm
    · exact hbl h
    · rcases List.mem_cons.mp hm with h | hm
      · rw [h, hoL0] at hb; cases hb
      · obtain ⟨o, ho⟩ := oldf b hm
        rw [X₂.ext.keep b o ho] at hb; cases hb
  have back : ∀ b, s₃.heap.get? b = none → s₂.heap.get? b = none := fun b h => by
    cases e : s₂.heap.get? b with
    | none => rfl
    | some o => rw [hkeep b o e] at h; cases h
  obtain ⟨oL, _, _, hoL, _⟩ := id hns
  have hCf : cenv.locals ∉ (genv :: env :: outer).filterMap (·.frame) := nbf _ (back _ CO.c0) fun h => by have := CO.c0; rw [h, hoL] at this; cases this
  have haf : a ∉ (genv :: env :: outer).filterMap (·.frame) := nbf a ha0 haL
  have hbf : ∀ b o, base.get? b = some o → b ∉ (genv :: env :: outer).filterMap (·.frame) := fun b o hb hm => by
    rw [List.filterMap_cons, hgfe] at hm
    rcases List.mem_cons.mp hm with h | hm
    · rw [h, newb _ hL0] at hb; cases hb
    · rw [(hff4.mem hm).1] at hb; cases hb
  have XG0 : At (cfg w mg mb) s₂ (fun b => H' b ∨ b = genv.locals) genv (ρg (cfg w mg mb) S ah t) s₃ := XG
  have XG1 : At (cfg w mg mb) (Bs s₂ (s'.setGen s₂.gens.size .running)) (HO H' genv.locals) genv (ρg (cfg w mg mb) S ah t) (s'.setGen s₂.gens.size .running) :=
    XG0.rebase gcells (fun b o ⟨hb, e⟩ => ⟨hb, CO.keep b o e⟩) (fun o e => CO.keep _ o e) hk24 (fun b hb => let ⟨o, e⟩ := XG0.live b hb; ⟨o, CO.keep b o e⟩) (.inr rfl)
  have GE2 : GE s₂.gens s'.gens := by rw [CO.gens]; exact XG.ext.gens
  refine next_err (fs := (genv :: env :: outer).filterMap (·.frame)) (outer := env :: outer) (C := 61) (G.nolimit.keeps fun b o e => hk24 b o (X₂.ext.keep b o e)) hA1.room (hisg.keeps CO.keep) haf hgs ⟨rfl, ?_⟩ (hbs4 _ _ hC) (hbf _ _ hC) (T.tail.hasType hstop) (fun e s₅ hGM => ?_)
  · refine gen_miss (n := n + 2) (base := base) rfl gsc rfl rfl (AC.in1 (hA1.less (by omega))) hfr1 hbs4 hff4 (newb _ hL0) hgfe OQ F ht htl ?_ XG1
    rw [strLen_append, strLen_append]
    exact Nat.le_trans (Nat.add_le_add_right (Nat.add_le_add_left htz _) _) (by decide +kernel)
  · obtain ⟨bs', e', a0, he, hkp, hfl, hge, hos'⟩ := hGM
    cases he
    show wpAny (cfg w mg mb).M (A.deeper env) (noteFrame (.ref e) cenv) _ _ (s₅.setGen s₂.gens.size .finished)
    rw [noteFrame_congr CO.fr]
    have hbb : base.StaysIn bs' := fun b o hb => hkp b o (hbf b o hb) (hbs4 b o hb)
    refine noteFrame_any hfr1 hfe (s := s₅.setGen s₂.gens.size .finished) (base := bs') (cls := .ref 61) (let ⟨f1, f2, f3, f4⟩ := hfl; ⟨a0, .none, f1, f2, f3, f4⟩) fun h₆ hal => ?_
    obtain ⟨oC, esC, epC, hoC, hdC, hrC⟩ := CO.c1
    have hC6 : h₆.Ns cenv.locals fun _ => none := by
      obtain ⟨_, _, f1, _⟩ := hal
      exact ⟨oC, esC, epC, f1 _ _ (hkp _ _ hCf hoC), hdC, hrC⟩
    have hal6 : Aloft base (env :: outer) e (.ref 61) h₆ := by
      obtain ⟨a1, fl, f1, f2, f3, f4⟩ := hal
      obtain ⟨oe, ws, T', oT, ts, x1, x2, x3, x4, x5, x6⟩ := f4
      have fresh : ∀ b, bs'.get? b = none → base.get? b = none := fun b hb => by
        cases hq : base.get? b with
        | none => rfl
        | some o => rw [hbb b o hq] at hb; cases hb
      exact ⟨a1, fl, fun b o hb => f1 b o (hbb b o hb), fresh e f2, funFrames_base hbb f3, oe, ws, T', oT, ts, x1, x2, x3, x4, fresh T' x5, x6⟩
    have hGEf : GE s₂.gens (s₅.setGen s₂.gens.size .finished).gens := setGen_ge (Nat.le_refl _) rfl ((setGen_ge (Nat.le_refl _) rfl GE2).trans hge)
    have hosf : (s₅.setGen s₂.gens.size .finished).os = s.os := (((hos'.trans (CO.os.trans hos)).trans e₂.os)).trans ho1
    have hGEs : GE s.gens (s₅.setGen s₂.gens.size .finished).gens := by
      have h1 : GE s.gens s₂.gens := by rw [← hg1]; exact e₂.gens
      exact h1.trans hGEf
    refine ⟨_, hC6, fun h₇ hs₇ cenv' hc' => ?_⟩
    have hal7 : Aloft base (env :: outer) e (.ref 61) h₇ := aloft_but hal6 hs₇ (newb _ (back _ CO.c0)) hC6 fun x hx hxf => hCf (List.mem_filterMap.mpr ⟨x, List.mem_cons_of_mem _ hx, hxf⟩)
    have pass : ∀ {α : Type} (wh : String) (Q' : α → Shared → Prop) (E'' : Value → Shared → Prop), (∀ h', Aloft base (env :: outer) e (.ref 61) h' → E'' (.ref e) { s₅.setGen s₂.gens.size .finished with heap := h' }) →
        wpAny (cfg w mg mb).M (A.deeper env) (passOn wh (.ref e) cenv' : Sem α) Q' E'' { s₅.setGen s₂.gens.size .finished with heap := h₇ } := fun wh Q' E'' hE => by
      unfold passOn
      obtain ⟨a1, fl, f1, f2, f3, oe, ws, T', oT, ts, x1, x2, x3, x4, x5⟩ := id hal7
      refine wpAny_bind (wpAny_field (s := { s₅.setGen s₂.gens.size .finished with heap := h₇ }) x1 x3 x4 ?_)
      rw [if_neg (show ¬ (Value.ref T' == Value.none) = true from by simp)]
      refine wpAny_bind (setFlight_any hal7 fun h₈ hal8 => ?_)
      exact wpAny_throw (hE h₈ hal8)
    refine pass _ _ _ fun h₈ hal8 => ?_
    refine noteFrame_any hfr1 hfe (s := { s₅.setGen s₂.gens.size .finished with heap := h₈ }) hal8 fun h₉ hal9 => ?_
    refine setFlight_any hal9 fun h₁₀ hal10 => ?_
    obtain ⟨a1, fl, f1, f2, f3, f4⟩ := id hal10
    refine PyProof.Rows.handleBy_own (C := 61) (x := "NetworkXNoPath") (newId := newId) (mg := mg) F.hasBase ?_
    refine Calls.Name_function_global (by rw [hsc]) (by show env.scope.names.lookup _ = _; rw [hsc]; rfl) (Calls.loadGlobal_global (mg := mg) (by rw [X₂.globals]; exact hgb.keeps f1) OQ.bound ⟨rfl, OQ.keeps f1, f4.there, ?_⟩) (by decide)
    refine setFlight_any hal10 fun h₁₁ hal11 => ?_
    obtain ⟨_, _, f1', _⟩ := hal11
    exact wpAny_execs_cons (wpAny_Return_some (wpAny_Constant_none (hQ _ f1' hGEs hosf)))
end
end Mine
end
section
open PySem PySem.W
set_option Elab.async false
set_option maxRecDepth 100000
namespace Mine
def ltxt (is : List Int) : Str := if is = [] then "[]" else listText (is.map fun i => (toString i : Str))
def etxt (x : Int × List Int) : Str := (toString x.1 : Str) ++ ": " ++ ltxt x.2
def dtxt (l : List (Int × List Int)) : Str := dictText (l.map etxt)
section
variable {c : Cfg} {n : Nat} {sc : Scope} {ρ : List (Str × VP)}
theorem c_ne_str {a b : Str} : Cmp c n .NotEq (pstr a) (pstr b) (pbool (a != b)) := by
  intro A H s x y Q E _ _ _ ⟨t, e⟩ ⟨u, e'⟩ hQ; subst e; subst e'
  exact PyProof.Rows.ne_str (hQ _ _ .rfl rfl)
theorem c_ne_empty : Cmp c n .NotEq (plist []) (plist []) (pbool false) := by
  intro A H s x y Q E hA _ _ ⟨a, xs, m, e, hl, hx⟩ ⟨a', ys, m', e', hl', hy⟩ hQ; subst e; subst e'
  have h1 := hx.length
  have h2 := hy.length
  have h1' : xs.size = 0 := by simpa using h1.symm
  have h2' : ys.size = 0 := by simpa using h2.symm
  exact SeqAt.RcNeAt.lists (e := fun _ => true) (vw_isList hl) (vw_isList hl') (by rw [h1', h2']) hA.cline (fun j h _ => absurd h (by omega)) _ _ _ _ (hQ _ _ .rfl (by rw [h1']; rfl))
theorem intsAre_items {V : View} : ∀ {is : List Int} {vs : List Value}, All2 V (is.map pint) vs → ∀ (i : Nat) (y : Value), vs[i]? = some y → ∃ k t, is[i]? = some k ∧ y = .int k t
  | [], [], _, i, y, h => by simp at h
  | k :: is, v :: vs, x, 0, y, h => by
    simp at h; subst h
    obtain ⟨t, e⟩ := x.1
    exact ⟨k, t, rfl, e⟩
  | k :: is, v :: vs, x, i + 1, y, h => by
    simp only [List.getElem?_cons_succ] at h ⊢
    exact intsAre_items x.2 i y h
  | [], _ :: _, x, _, _, _ => x.elim
  | _ :: _, [], x, _, _, _ => x.elim
theorem repr_ints {s : Shared} {H : Addr → Prop} {v : Value} {is : List Int} (hv : (plist (is.map pint)).is (vw H s.heap) v) (hb : ∀ i ∈ is, i.natAbs.log2 < 1920) :
    ∃ a, (∃ o, s.heap.get? a = some o ∧ o.cls = .type "list") ∧ ReprK c.prog c.w [a] s.heap 1 v (ltxt is) := by
  obtain ⟨a, xs, m, e, hl, hx⟩ := hv
  subst e
  refine ⟨a, ⟨_, hl.2, rfl⟩, ?_⟩
  obtain ⟨l⟩ := xs
  have hlen := hx.length
  cases l with
  | nil =>
    have : is = [] := by cases is with | nil => rfl | cons _ _ => simp at hlen
    subst this
    exact ReprK.listEmpty hl.2 rfl rfl
  | cons y l =>
    have hne : is ≠ [] := by rintro rfl; simp at hlen
    unfold ltxt; rw [if_neg hne]
    refine ReprK.list (as := []) (d := 0) hl.2 rfl rfl (by simp) (by simpa using hlen) fun i z hz => ?_
    obtain ⟨k, t, h1, h2⟩ := intsAre_items hx i z (by simpa using hz)
    subst h2
    exact ⟨_, by rw [List.getElem?_map, h1]; rfl, .of_is (ReprIs.int t (hb k (List.mem_of_getElem? h1))) _ _ _⟩
theorem ReprEntriesK.more' {prog : Program} {w : World} {as as' : List Addr} {h : Heap} {d : Nat} (hs : ∀ b ∈ as, b ∈ as') : ∀ {es : List DictEntry} {ps : List Str}, ReprEntriesK prog w as h d es ps → ReprEntriesK prog w as' h d es ps
  | _, _, .nil => .nil
  | _, _, .cons a b r => .cons (a.more hs) (b.more hs) (ReprEntriesK.more' hs r)
theorem repr_entries {s : Shared} {H : Addr → Prop} : ∀ {l : List (Int × List Int)} {es : List DictEntry} {kvs : List (Int × Value)}, Pairs (intKind c.prog c.w) es kvs → kvs.map Prod.fst = (l.map fun x => (x.1, plist (x.2.map pint))).map Prod.fst →
    All2 (vw H s.heap) ((l.map fun x => (x.1, plist (x.2.map pint))).map Prod.snd) (kvs.map Prod.snd) → (∀ x ∈ l, x.1.natAbs.log2 < 1920 ∧ ∀ i ∈ x.2, i.natAbs.log2 < 1920) →
    ∃ as, (∀ a ∈ as, ∃ o, s.heap.get? a = some o ∧ o.cls = .type "list") ∧ ReprEntriesK c.prog c.w as s.heap 1 es (l.map etxt)
  | [], _, _, .nil, _, _, _ => ⟨[], by simp, .nil⟩
  | [], _, _, .cons _ _ _, e, _, _ => by simp at e
  | x :: l, _, _, .nil, e, _, _ => by simp at e
  | x :: l, _, _, .cons (e := en) (kv := kv) (es := es) (kvs := kvs) hk hval P, e, hall, hb => by
    simp only [List.map_cons, List.cons.injEq] at e
    obtain ⟨e1, e2⟩ := e
    have hall' : (plist (x.2.map pint)).is (vw H s.heap) kv.2 ∧ All2 (vw H s.heap) ((l.map fun x => (x.1, plist (x.2.map pint))).map Prod.snd) (kvs.map Prod.snd) := hall
    obtain ⟨as, h1, h2⟩ := repr_entries P (by simpa using e2) hall'.2 (fun y hy => hb y (.tail _ hy))
    obtain ⟨hb1, hb2⟩ := hb x (.head _)
    obtain ⟨a, h3, h4⟩ := repr_ints (c := c) hall'.1 hb2
    refine ⟨a :: as, fun b hb => ?_, .cons (k := (toString x.1 : Str)) (v := ltxt x.2) ?_ ?_ (ReprEntriesK.more' (fun b hb => .tail _ hb) h2)⟩
    · cases hb with
      | head => exact h3
      | tail _ h => exact h1 b h
    · obtain ⟨t, ht⟩ := Value.isInt_shape hk
      rw [ht, e1]
      exact .of_is (ReprIs.int t hb1) _ _ _
    · rw [hval]
      exact h4.more (fun b hb => by simp at hb; subst hb; exact .head _)
theorem run_repr {l : List (Int × List Int)} (hb : ∀ x ∈ l, x.1.natAbs.log2 < 1920 ∧ ∀ i ∈ x.2, i.natAbs.log2 < 1920) (hsz : (dtxt l).length ≤ sizeLine) : Run c n (.builtin "repr") [pahead c l] (pstr (dtxt l)) := by
  intro A H s vs Q E hA G hH hv hQ
  obtain ⟨v, rfl, a, o, kvs, e, ho, hd, hsys, hk, hall⟩ := all1 hv
  subst e
  obtain ⟨es, ep, hx, hdat, _, hP, _⟩ := hd.go
  obtain ⟨as, h1, h2⟩ := repr_entries (c := c) hP hk hall hb
  have hu := hA.units
  have hc : cLine = 9900 := rfl
  refine call_repr_slot (by omega) ⟨o, ho.2, hx.1⟩ F.slot_dict_repr ?_
  refine call_dict_reprK ho.2 hx.1 hdat hsys ?_ h2 hA.guards (fun b _ => Clear.nil b) (by show A.units + 1 + (1 + 1) < cLine; omega) (fun _ _ e => e) (fun h' u tk hk => ?_) hsz
  · intro hm
    obtain ⟨o', ho', hc'⟩ := h1 a hm
    rw [ho.2] at ho'; cases ho'
    rw [hx.1] at hc'; injection hc' with hc'; exact absurd hc' (by decide)
  · exact ⟨_, _, rfl, hQ _ _ (Ext.heap hk) ⟨u, rfl⟩⟩
end
end Mine
end
section
open PySem PySem.W
set_option Elab.async false
set_option maxRecDepth 100000
namespace Mine
theorem isList_unique {h : Heap} {a : Addr} {xs ys : Array Value} (x : h.IsList a xs) (y : h.IsList a ys) : xs = ys := by
  obtain ⟨o, ho, _, n, hd⟩ := x
  obtain ⟨o', ho', _, n', hd'⟩ := y
  rw [ho] at ho'; cases ho'
  rw [hd] at hd'; cases hd'; rfl
theorem intsAre_unique : ∀ {vs : List Value} {is js : List Int}, PyProof.Rows.IntsAre vs is → PyProof.Rows.IntsAre vs js → is = js
  | _, _, _, .nil, .nil => rfl
  | _, _, _, .cons k t r, .cons _ _ r' => by rw [intsAre_unique r r']
/-- that list of ints -/
def Reads1 (h : Heap) (r : List Int) (y : Value) : Prop := ∃ a vs, y = .ref a ∧ h.IsList a vs ∧ PyProof.Rows.IntsAre vs.toList r
theorem Reads1.unique {h : Heap} {r r' : List Int} {y : Value} (x : Reads1 h r y) (z : Reads1 h r' y) : r = r' := by
  obtain ⟨a, vs, e, hl, hi⟩ := x
  obtain ⟨a', vs', e', hl', hi'⟩ := z
  rw [e] at e'; cases e'
  rw [isList_unique hl hl'] at hi
  exact intsAre_unique hi hi'
theorem reads1 {H : Addr → Prop} {h : Heap} {r : List Int} {y : Value} (x : (plist (r.map pint)).is (vw H h) y) : Reads1 h r y := by
  obtain ⟨a, xs, m, e, hl, hx⟩ := x
  exact ⟨a, xs, e, vw_isList hl, intsAre hx⟩
theorem all_reads {H : Addr → Prop} {h : Heap} : ∀ {rs : List (List Int)} {ys : List Value}, All2 (vw H h) (rs.map fun r => plist (r.map pint)) ys → ∀ y ∈ ys, ∃ r, Reads1 h r y
  | [], [], _, y, hy => by simp at hy
  | r :: rs, z :: ys, x, y, hy => by
    cases hy with
    | head => exact ⟨r, reads1 x.1⟩
    | tail _ hy => exact all_reads x.2 y hy
  | [], _ :: _, x, _, _ => x.elim
  | _ :: _, [], x, _, _ => x.elim
open Classical in
theorem count_reads {H : Addr → Prop} {h : Heap} {r : List Int} : ∀ {rs : List (List Int)} {ys : List Value}, All2 (vw H h) (rs.map fun r => plist (r.map pint)) ys → ys.countP (fun y => decide (Reads1 h r y)) = rs.count r
  | [], [], _ => rfl
  | q :: rs, z :: ys, x => by
    rw [List.countP_cons, List.count_cons, count_reads x.2]
    have hz := reads1 x.1
    by_cases hq : q = r
    · subst hq; simp [hz]
    · have : ¬ Reads1 h r z := fun h' => hq (hz.unique h')
      simp [this, hq]
  | [], _ :: _, x => x.elim
  | _ :: _, [], x => x.elim
section
variable {c : Cfg} {n : Nat} {sc : Scope} {B : Shared} {H : Addr → Prop} {env : Env} {ρ ρ' : List (Str × VP)} {s : Shared} {A : Around} {E : Value → Shared → Prop}
open Classical in
theorem ev_count {y : Str} {py apos cpos : Pos} {e : Expr} {rs : List (List Int)} {r : List Int}
    (hy : ρ.lookup y = some (plist (rs.map fun r => plist (r.map pint)))) (he : Ev c n sc ρ e (plist (r.map pint))) (hyd : (y == ("__debug__" : Str)) = false)
    (hbase : ∀ env, attributeBase (.Name y py) "count" env (eval (.Name y py) env) = eval (.Name y py) env)
    (hline : (apos.endLine == cpos.line) = true) (htrees : ∀ env, backTo cpos (starEach [e] env) = [(false, eval e env)]) :
    Ev c n sc ρ (.Call (.Attribute (.Name y py) "count" apos) [e] [] cpos) (pint (rs.count r : Nat)) := by
  intro A B H env s Q E hs hA X hQ
  refine wpAny_Call_method1_late (hbase env) hline (htrees env) ?_
  refine ev_name hy hyd A B H env s _ E hs hA X fun v s₁ e₁ hv => ?_
  obtain ⟨l, xs, m, ev, hl, hall⟩ := id hv
  subst ev
  refine ⟨"list", "list.count", PySem.F.plainAttrs_list, PySem.F.slot_list_count, PySem.F.type_list_count, ⟨_, hl.2, rfl⟩, fun a e => (by cases e; exact ⟨_, hl.2, rfl⟩), ?_⟩
  refine Calls.callWith_builtin rfl (Calls.evalArgs_plain (Calls.spliced_cons (he A B H env s₁ _ E hs hA (X.more e₁) fun u s₂ e₂ hu => Calls.spliced_nil ?_)))
  have hl₂ := e₂.view H _ _ hl
  have hall₂ := hall.mono (e₂.view H)
  have hu2 : A.in1.in1.units + 64 < cLine := by
    have := hA.units
    show A.units + 1 + 1 + 64 < 9900
    omega
  refine call_meets PySem.F.slot_list_count ⟨_, hl₂.2, rfl⟩ PySem.F.entry_list_count (PySem.F.args_list_count_2 _ _) (SeqAt.list_countAt l xs m none #[] u (fun y => decide (Reads1 s₂.heap r y))) ⟨hl₂.2, fun y hy => ?_, ?_⟩
  · obtain ⟨r', hr'⟩ := all_reads hall₂ y (by simpa using hy)
    obtain ⟨a, vs, ey, hla, hia⟩ := id hr'
    obtain ⟨b, us, eu, hlb, hib⟩ := id (reads1 hu)
    rw [ey, eu]
    have hk := keq_ints (A := A) (s := s₂) (by simpa using hla) hia (by simpa using hlb) hib (by have := hA.units; show A.units + 1 + 64 < 9900; omega)
    have e1 : decide (Reads1 s₂.heap r (.ref a)) = decide (r' = r) := by
      by_cases h : r' = r
      · rw [← ey]; subst h; simp [hr']
      · have : ¬ Reads1 s₂.heap r (.ref a) := fun h' => h (hr'.unique (ey ▸ h'))
        simp [this, h]
    rw [e1]
    exact hk
  · rw [count_reads hall₂]
    exact hQ _ _ ((e₁.trans e₂).trans (.toks _)) ⟨_, rfl⟩
end
end Mine
end
section
open PySem PySem.W
set_option Elab.async false
set_option maxRecDepth 100000
namespace Mine
section
variable {c : Cfg} {n : Nat} {sc : Scope} {B : Shared} {H : Addr → Prop} {env : Env} {ρ ρ' : List (Str × VP)} {s : Shared} {A : Around} {E : Value → Shared → Prop}
theorem ex_assign_tup3 {x y z : Str} {px py pz kpos pos : Pos} {k} {e : Expr} {p1 p2 p3 : VP} {Q : Flow → Shared → Prop} (X : At c B H env ρ s) (hA : AC A n) (hs : env.scope = sc) (he : Ev c n sc ρ e (ptup [p1, p2, p3])) (hx : Mine1 B H env x) (hy : Mine1 B H env y) (hz : Mine1 B H env z)
    (hQ : ∀ s', At c B H env ((z, p3) :: (y, p2) :: (x, p1) :: ρ) s' → Chg (Own B env) s s' → (vw H s.heap).le (vw H s'.heap) → Q .next s')
    (hw : swappedStores [.Tuple [.Name x px, .Name y py, .Name z pz] k kpos] e env = pure none) (hsw : swapsWith e (some (.Tuple [.Name x px, .Name y py, .Name z pz] k kpos)) pos.line env = pure false) :
    wpAny c.M A (exec (.Assign [.Tuple [.Name x px, .Name y py, .Name z pz] k kpos] e pos) env) Q E s := by
  refine wpAny_Assign_stores (he A B H env s _ E hs hA X fun v s₁ e₁ hv => ?_) hsw hw
  obtain ⟨a, o, xs, m, rfl, hl, hc, hd, hxs⟩ := hv
  have h3 : xs.size = 3 := by have := hxs.length; simpa using this.symm
  obtain ⟨v1, v2, v3, rfl⟩ : ∃ v1 v2 v3, xs = #[v1, v2, v3] := by
    obtain ⟨l⟩ := xs
    match l, h3 with
    | [v1, v2, v3], _ => exact ⟨v1, v2, v3, rfl⟩
  show wpAny c.M A (assign (.Tuple [.Name x px, .Name y py, .Name z pz] k kpos) env (.ref a)) _ E s₁
  refine wpAny_assign_Tuple (items := #[v1, v2, v3]) hA.handled ⟨o, hl.2, hc, m, hd⟩ rfl rfl fun h' he' => ?_
  have e2 : Ext s₁ { s₁ with heap := h' } := Ext.heap (t := s₁.toks) fun b o e => he' b o (Nat.ne_of_lt (Heap.lt_size e)) e
  refine wpAny_assignInOrder_more (t := assign (.Name x px) env) (ts := [assign (.Name y py) env, assign (.Name z pz) env]) (x := v1) (xs := [v2, v3]) ?_
  refine wpAny_assign_Name (((X.more e₁).more e2).store hx (p1.mono (e2.view H) hxs.1) fun s₂ X₂ c₂ w₂ _ _ => ?_)
  refine wpAny_assignInOrder_more ?_
  refine wpAny_assign_Name (X₂.store hy (p2.mono ((e2.view H).trans w₂) hxs.2.1) fun s₃ X₃ c₃ w₃ _ _ => ?_)
  refine wpAny_assignInOrder_more ?_
  refine wpAny_assign_Name (X₃.store hz (p3.mono (((e2.view H).trans w₂).trans w₃) hxs.2.2.1) fun s₄ X₄ c₄ w₄ _ _ => ?_)
  exact wpAny_assignInOrder_none (hQ s₄ X₄ ((((Chg.of_ext e₁).trans (Chg.of_ext e2)).trans (c₂.trans c₃)).trans c₄) (((((e₁.view H).trans (e2.view H)).trans w₂).trans w₃).trans w₄))
end
end Mine
end
section
open PySem PySem.W
set_option Elab.async false
set_option maxRecDepth 100000
namespace Mine
def goalOf (f5 : Int) (n : Nat) : Int := if decide (0 < f5.fmod 3) then (n : Int) - 1 else (f5.fdiv 3).fmod n
def aheadAt (ah : List (Int × List Int)) (v : Int) : List Int := (ah.lookup v).getD []
def cellOf (ah : List (Int × List Int)) (u v : Nat) : Int := if (u : Int) == (v : Int) then 1 else if (aheadAt ah v).any (· == (u : Int)) then -1 else 0
def tableOf (n : Nat) (ah : List (Int × List Int)) : List (List Int) := (List.range n).map fun (u : Nat) => (List.range n).map fun (v : Nat) => cellOf ah u v
def minorOf (n : Nat) (ah : List (Int × List Int)) (goal start : Int) : List (List Int) :=
  ((List.range n).filter fun (u : Nat) => (u : Int) != goal).map fun (u : Nat) => ((List.range n).filter fun (v : Nat) => (v : Int) != start).map fun (v : Nat) => cellOf ah u v
structure PathOk (first : List Int) (ah : List (Int × List Int)) (goal : Int) (rs : List (List Int)) (p : List Int) : Prop where
  len : p.length ≤ 10000
  pos : 0 < p.length
  head : ∃ a, p[0]? = some a ∧ first.any (· == a) = true
  last : p[p.length - 1]? = some goal
  once : rs.count p = 1
  step : ∀ k, k + 1 < p.length → ∃ u v row, p[k]? = some u ∧ p[k + 1]? = some v ∧ ah.lookup v = some row ∧ row.any (· == u) = true
structure LawOk (n : Nat) (first : List Int) (ah : List (Int × List Int)) (goal : Int) (rs : List (List Int)) : Prop where
  n6 : n ≤ 6
  keys : ∀ v : Nat, v < n → ∃ row, ah.lookup (v : Int) = some row
  miss : ah.lookup ((n : Int) + 7) = none
  small : ∀ x ∈ ah, x.1.natAbs.log2 < 1920 ∧ ∀ i ∈ x.2, i.natAbs.log2 < 1920
  text : (dtxt ah).length ≤ sizeLine
  flen : first.length < 1000
  fin : ∀ st ∈ first, 0 ≤ st ∧ st ≤ 5
  goal5 : 0 ≤ goal ∧ goal ≤ 5
  goalkey : ∃ row, ah.lookup goal = some row
  len : rs.length ≤ 10000
  paths : ∀ p ∈ rs, PathOk first ah goal rs p
  tab : ∀ st ∈ first, TableOk (minorOf n ah goal st)
  law : ∀ st ∈ first, ((rs.filter fun p => p.headD 0 == st).length : Int) = (-1) ^ (st + goal).toNat * detOf (minorOf n ah goal st)
end Mine
end
section
open PySem PySem.W
set_option Elab.async false
set_option maxRecDepth 100000
set_option maxHeartbeats 4000000
namespace Mine
theorem fm0 {α β : Type} : ∀ xs : List α, xs.flatMap (fun _ => ([] : List β)) = []
  | [] => rfl
  | _ :: l => by rw [List.flatMap_cons, fm0 l]; rfl
section
variable {w : World} {mg mb : Str → Option Value}
theorem law_call {xs : List Int} {f0 f1 f2 f3 f4 f5 : Int} {UP : Int → List (List Int)} {W : Int → Nat} {m : Nat} {first : List Int} {ah : List (Int × List Int)} {goal : Int} (N : Names mg) (hx : xs.length ≤ 63) (hnums : nums xs = [f0, f1, f2, f3, f4, f5])
    (hm : nOf f0 = m) (hfirst : firstOf f3 m = first) (hah : aheadOf f1 f2 f3 f4 m = ah) (hgoal : goalOf f5 m = goal) (D : Dag ah (fun k => first.any (· == k)) UP W) (L : LawOk m first ah goal (UP goal))
    {Bn newId initId : String} {bmB : List Value} (F : ExcBaseFacts Bn newId initId bmB) (hstop : bmB.contains (.type "StopIteration") = false)
    {A : Around} {s : Shared} {vs : List Value} {Q : Value → Shared → Prop} {E : Value → Shared → Prop} (hA : AC A 10) (hfr : A.frames = some []) (OQ : PyProof.Rows.OwnClsQ "NetworkXNoPath" 61 bmB newId mg s.heap) (hgb : s.heap.Ns mainGlobals mg)
    (G : Gl (cfg w mg mb) s.heap) (hv : All2 (vw (fun _ => False) s.heap) [plist (xs.map pint)] vs)
    (hQ : ∀ s', s.heap.StaysIn s'.heap → GE s.gens s'.gens → s'.os = s.os → Q (.bool true) s') : wpAny (cfg w mg mb).M A (call (.ref 95) vs) Q E s := by
  obtain ⟨grow, hgk⟩ := L.goalkey
  obtain ⟨n1, n6, en⟩ := nOf_bound f0
  rw [hm] at n1 n6 en
  refine call_fn (c := cfg w mg mb) (n := 9) (H := fun _ => False) (names := ["script"]) (body := _) rfl rfl (by rfl) rfl rfl rfl rfl (by decide) rfl (fun vs hv => ?_) (by decide) (by decide) hA G (fun b hb => hb.elim) hv fun H env s₁ hA1 hsc hO X hfe hHH hg1 ho1 E' => ?_
  · match vs, hv with
    | [a], _ => rfl
  have X0 : At (cfg w mg mb) s H env [("script", plist (xs.map pint))] s₁ := X
  have hfr1 : (A.deeper env).frames = some [env] := Around.frames_deeper hfr
  -- found
  refine wpAny_execs_cons (ex_assign (p := plist ([f0, f1, f2, f3, f4, f5].map pint)) X0 hA1 hsc (ev_cast (ev_call (ev_global rfl rfl N.numbers (by decide)) (kept_ref (by rfl)) (evs_cons (ev_name rfl) (evs_cons ev_int evs_nil)) (run_numbers N hx)) (by rw [hnums])) (mine_local hsc rfl) fun s₂ X₂ c₂ v₂ => ?_)
  -- n, first, ahead
  refine wpAny_execs_cons (ex_assign_tup3 X₂ hA1 hsc (ev_call (ev_global rfl rfl N.ahead (by decide)) (kept_ref (by rfl)) (evs_cons (ev_name rfl) evs_nil) (run_ahead N)) (mine_cell hO hsc rfl) (mine_cell hO hsc rfl) (mine_cell hO hsc rfl) (fun s₃ X₃ c₃ v₃ => ?_) rfl rfl)
  rw [hm, hfirst, hah] at X₃
  -- goal
  refine wpAny_execs_cons (ex_assign (p := pint goal) X₃ hA1 hsc (ev_ifexp (b := decide (0 < f5.fmod 3)) (ts_cmp (ev_bin (ev_sub (ev_name rfl) ev_int (gi_list (p := pint f5) (by decide) rfl)) ev_int (b_mod (by decide))) ev_int c_gt)
      (fun h => ev_cast (ev_bin (ev_name rfl) ev_int b_sub) (by rw [← hgoal]; unfold goalOf; rw [h]; rfl))
      (fun h => ev_cast (ev_bin (ev_bin (ev_sub (ev_name rfl) ev_int (gi_list (p := pint f5) (by decide) rfl)) ev_int (b_div (by decide) (by decide))) (ev_name rfl) (b_mod (by omega))) (by rw [← hgoal]; unfold goalOf; rw [h]; rfl))) (mine_cell hO hsc rfl) fun s₄ X₄ c₄ v₄ => ?_)
  -- kept
  refine wpAny_execs_cons (ex_assign (p := pstr (dtxt ah)) X₄ hA1 hsc (ev_call (ev_boot rfl rfl (N.free _ (by decide)) boot_repr (by decide)) kept_builtin (evs_cons (ev_name rfl) evs_nil) (run_repr L.small L.text)) (mine_local hsc rfl) fun s₅ X₅ c₅ v₅ => ?_)
  -- told
  have hpl : ∀ p ∈ UP goal, p.length ≤ 10000 := fun p hp => (L.paths p hp).len
  refine wpAny_execs_cons (ex_assign (p := plist ((UP goal).map ppath)) X₅ hA1 hsc (ev_call (ev_global rfl rfl N.told (by decide)) (kept_ref (by rfl)) (evs_cons (ev_call (ev_boot rfl rfl (N.free _ (by decide)) boot_set (by decide)) kept_type (evs_cons (ev_name rfl) evs_nil) (run_set_list L.flen))
      (evs_cons (ev_name rfl) (evs_cons (ev_name rfl) evs_nil))) (run_told N D hgk L.len hpl)) (mine_local hsc rfl) fun s₆ X₆ c₆ v₆ => ?_)
  generalize hrs : UP goal = rs at *
  -- if told is None or repr(ahead) != kept
  refine wpAny_execs_cons (ex_if (b := false) X₆ hA1 hsc (ts_cast (ts_or2 (ts_cmp (ev_name rfl) ev_none c_is_list) fun _ => ts_cmp (ev_call (ev_boot rfl rfl (N.free _ (by decide)) boot_repr (by decide)) kept_builtin (evs_cons (ev_name rfl) evs_nil) (run_repr L.small L.text)) (ev_name rfl) c_ne_str) (by simp)) (fun h => by cases h) fun _ s₇ e₇ X₇ => wpAny_execs_nil ?_)
  clear X₂ X₃ X₄ X₅ X₆
  have X7 : At (cfg w mg mb) s H env [("told", plist (rs.map ppath)), ("goal", pint goal), ("ahead", pahead (cfg w mg mb) ah), ("first", plist (first.map pint)), ("n", pint (m : Int))] s₇ := X₇.weak (Sub.le ⟨rfl, rfl, rfl, rfl, rfl, trivial⟩)
  clear X₇
  -- for row in told
  refine wpAny_execs_cons (ex_for rs ppath (fun _ => [("told", plist (rs.map ppath)), ("goal", pint goal), ("ahead", pahead (cfg w mg mb) ah), ("first", plist (first.map pint)), ("n", pint (m : Int))]) (fun _ _ _ => True) (fun _ => False) X7 hA1 hsc (ev_name rfl) itb_list (mine_cell hO hsc rfl) trivial (fun b hb => hb.elim) (fun b hb => hb.elim) (fun _ _ _ _ _ _ _ _ => trivial) (fun pre p post H' s₈ Q' E' hxs hH X₈ _ hQ' => ?_) fun s₈ X₈ _ c₈ => ?_)
  · have P : PathOk first ah goal rs p := L.paths p (by rw [hxs]; simp)
    have hp1 := P.pos
    have hp2 := P.len
    obtain ⟨a, ha1, ha2⟩ := P.head
    have hlast := P.last
    refine wpAny_execs_cons (ex_if (b := false) X₈ hA1 hsc (ts_cast (ts_or3 (ts_cmp (ev_sub (ev_name rfl) ev_int (gi_list (p := pint a) (by decide) (by rw [List.getElem?_map]; show Option.map pint p[0]? = _; rw [ha1]; rfl))) (ev_name rfl) c_notin_list)
        (fun _ => ts_cmp (ev_sub (ev_name rfl) (ev_neg ev_int) (gi_list_neg (p := pint goal) (by decide) (by rw [List.length_map]; omega) (by
          rw [List.length_map, List.getElem?_map, show ((-1 : Int) + (p.length : Int)).toNat = p.length - 1 by omega, hlast]; rfl) (by decide))) (ev_name rfl) c_ne)
        (fun _ _ => ts_cmp (ev_count (r := p) (rs := rs) rfl (ev_name rfl) (by decide) (fun _ => rfl) rfl (fun _ => rfl)) ev_int c_ne)) (by rw [ha2, P.once]; simp)) (fun h => by cases h) fun _ s₉ e₉ X₉ => wpAny_execs_nil ?_)
    refine wpAny_execs_cons (ex_if (b := false) X₉ hA1 hsc (ts_cmp (ev_cast (q := plist []) (ev_comp (xs := List.range (p.length - 1)) (P := fun k : Nat => pint ((k + 1 : Nat) : Int)) (G := fun _ => []) (ρ' := [("row", ppath p), ("ahead", pahead (cfg w mg mb) ah)]) (scOk rfl (by decide) (by decide) (by decide)) (by decide) (fun _ _ => rfl)
        (ev_range2 N rfl rfl ev_int (ev_len N rfl rfl (ev_name rfl) (by rw [List.length_map]; omega))) (by rw [List.length_map]; exact itb_range1 (by omega)) (SubF.le ⟨rfl, rfl, rfl, rfl, trivial⟩) (fun k hk => ?_) (by rw [fm0]; decide)) (by rw [fm0])) (ev_list evs_nil) c_ne_empty) (fun h => by cases h) fun _ s₁₀ e₁₀ X₁₀ => wpAny_execs_nil ?_)
    · have hk' := List.mem_range.mp hk
      obtain ⟨u, v, row, h1, h2, h3, h4⟩ := P.step k (by omega)
      refine ⟨("k", pint ((k + 1 : Nat) : Int)) :: [("row", ppath p), ("ahead", pahead (cfg w mg mb) ah)], false, .inl ⟨"k", _, rfl, .inl rfl, rfl⟩, lookup_new rfl, tests1 (ts_cast (ts_cmp (ev_sub (ev_name rfl) (ev_bin (ev_name rfl) ev_int b_sub) (gi_list (p := pint u) (by omega) (by rw [List.getElem?_map, show (((k + 1 : Nat) : Int) - 1).toNat = k by omega, h1]; rfl)))
        (ev_sub (ev_name rfl) (ev_sub (ev_name rfl) (ev_name rfl) (gi_list (p := pint v) (by omega) (by rw [List.getElem?_map, Int.toNat_natCast, h2]; rfl))) (gi_dict (lookup_pl h3))) c_notin_list) (by rw [h4]; rfl)), fun _ => rfl, fun h => by cases h⟩
    · exact wpAny_execs_nil (hQ' s₁₀ (X₁₀.weak (Sub.le ⟨rfl, rfl, rfl, rfl, rfl, trivial⟩)) trivial (Chg.of_ext (e₉.trans e₁₀)) ((e₉.view H').trans (e₁₀.view H')))
  have X8 : At (cfg w mg mb) s H env [("told", plist (rs.map ppath)), ("goal", pint goal), ("ahead", pahead (cfg w mg mb) ah), ("first", plist (first.map pint)), ("n", pint (m : Int))] s₈ := X₈
  clear X₈
  -- table
  refine wpAny_execs_cons (ex_assign X8 hA1 hsc (ev_cast (q := ptable (tableOf m ah)) (ev_comp (xs := List.range m) (P := fun u : Nat => pint (u : Int)) (G := fun u : Nat => [plist ((List.range m).map fun v : Nat => pint (cellOf ah u v))]) (ρ' := [("ahead", pahead (cfg w mg mb) ah), ("n", pint (m : Int))]) (scOk rfl (by decide) (by decide) (by decide))
      (by decide) (fun _ _ => rfl) (ev_range1 N rfl rfl (ev_name rfl)) (itb_range0 (by omega)) (SubF.le ⟨rfl, rfl, rfl, rfl, trivial⟩) (fun u hu => turn1 (.inr rfl) rfl true tests0 fun _ => ?_) ?_) ?_) (mine_cell hO hsc rfl) (hsw := swaps_f hsc rfl) fun s₉ X₉ c₉ v₉ => ?_)
  · refine ev_cast (ev_comp (xs := List.range m) (P := fun v : Nat => pint (v : Int)) (G := fun v : Nat => [pint (cellOf ah u v)]) (ρ' := [("u", pint (u : Int)), ("ahead", pahead (cfg w mg mb) ah)]) (scOk rfl (by decide) (by decide) (by decide))
      (by decide) (fun _ _ => rfl) (ev_range1 N rfl rfl (ev_name rfl)) (itb_range0 (by omega)) (SubF.le ⟨rfl, rfl, rfl, rfl, trivial⟩) (fun v hv => turn1 (.inl rfl) rfl true tests0 fun _ => ?_) (by rw [fm1, List.length_map, List.length_range]; omega)) (by rw [fm1])
    obtain ⟨row, hrow⟩ := L.keys v (List.mem_range.mp hv)
    refine ev_ifexp (b := (u : Int) == (v : Int)) (ts_cmp (ev_name rfl) (ev_name rfl) c_eq) (fun h => ev_cast ev_int (by unfold cellOf; rw [h]; rfl)) fun h => ev_ifexp (b := row.any (· == (u : Int))) (ts_cmp (ev_name rfl) (ev_sub (ev_name rfl) (ev_name rfl) (gi_dict (lookup_pl hrow))) c_in_list)
      (fun h' => ev_cast (ev_neg ev_int) (by unfold cellOf aheadAt; rw [h, hrow]; show pint (-1) = pint (if false = true then 1 else if (row.any fun x => x == (u : Int)) = true then -1 else 0); rw [h']; rfl)) (fun h' => ev_cast ev_int (by unfold cellOf aheadAt; rw [h, hrow]; show pint 0 = pint (if false = true then 1 else if (row.any fun x => x == (u : Int)) = true then -1 else 0); rw [h']; rfl))
  · rw [fm1, List.length_map, List.length_range]; omega
  · rw [fm1]; unfold ptable tableOf; rw [List.map_map]
    congr 1
    refine List.map_congr_left fun u _ => ?_
    show _ = plist (List.map pint _)
    rw [List.map_map]; rfl
  have hst5 := L.fin
  obtain ⟨g0, g5⟩ := L.goal5
  have X9 : At (cfg w mg mb) s H env [("table", ptable (tableOf m ah)), ("told", plist (rs.map ppath)), ("goal", pint goal), ("ahead", pahead (cfg w mg mb) ah), ("first", plist (first.map pint)), ("n", pint (m : Int))] s₉ := X₉
  clear X₉
  -- for start in first
  refine wpAny_execs_cons (ex_for first pint (fun _ => [("table", ptable (tableOf m ah)), ("told", plist (rs.map ppath)), ("goal", pint goal), ("ahead", pahead (cfg w mg mb) ah), ("first", plist (first.map pint)), ("n", pint (m : Int))]) (fun _ _ _ => True) (fun _ => False) X9 hA1 hsc (ev_name rfl) itb_list (mine_cell hO hsc rfl) trivial (fun b hb => hb.elim) (fun b hb => hb.elim) (fun _ _ _ _ _ _ _ _ => trivial) (fun pre st post H' s₁₀ Q' E' hxs hH X₁₀ _ hQ' => ?_) fun s₁₀ X₁₀ _ c₁₀ => ?_)
  · have hmem : st ∈ first := by rw [hxs]; simp
    obtain ⟨st0, st5⟩ := hst5 st hmem
    have hT := L.tab st hmem
    have hlaw := L.law st hmem
    -- minor
    refine wpAny_execs_cons (ex_assign_comp (xs := List.range m) (P := fun u : Nat => pint (u : Int)) (G := fun u : Nat => if (u : Int) != goal then [plist (((List.range m).filter fun v : Nat => (v : Int) != st).map fun v : Nat => pint (cellOf ah u v))] else []) (ρ' := [("start", pint st), ("table", ptable (tableOf m ah)), ("goal", pint goal), ("n", pint (m : Int))])
      X₁₀ hA1 hsc (scOk rfl (by decide) (by decide) (by decide)) (by decide) (fun _ _ => rfl) (ev_range1 N rfl rfl (ev_name rfl)) (itb_range0 (by omega)) (SubF.le ⟨rfl, rfl, rfl, rfl, rfl, rfl, rfl, rfl, trivial⟩)
      (fun u hu => turn1 (.inr rfl) rfl _ (tests1 (ts_cmp (ev_name rfl) (ev_name rfl) c_ne)) fun _ => ?_) ?_ (swaps_t hsc rfl rfl rfl (by rfl)) (mine_local hsc rfl) fun s₁₁ X₁₁ c₁₁ v₁₁ => ?_)
    · refine ev_cast (ev_comp (xs := List.range m) (P := fun v : Nat => pint (v : Int)) (G := fun v : Nat => if (v : Int) != st then [pint (cellOf ah u v)] else []) (ρ' := [("u", pint (u : Int)), ("start", pint st), ("table", ptable (tableOf m ah))]) (scOk rfl (by decide) (by decide) (by decide))
        (by decide) (fun _ _ => rfl) (ev_range1 N rfl rfl (ev_name rfl)) (itb_range0 (by omega)) (SubF.le ⟨rfl, rfl, rfl, rfl, rfl, rfl, trivial⟩) (fun v hv => turn1 (.inl rfl) rfl _ (tests1 (ts_cmp (ev_name rfl) (ev_name rfl) c_ne)) fun _ => ?_) (by rw [fmf, List.length_map]; exact Nat.le_trans (List.length_filter_le _ _) (by rw [List.length_range]; omega))) (by rw [fmf])
      have hu' := List.mem_range.mp hu
      have hv' := List.mem_range.mp hv
      refine ev_sub (ev_sub (ev_name rfl) (ev_name rfl) (gi_list (p := plist (((List.range m).map fun (v : Nat) => cellOf ah u v).map pint)) (by omega) ?_)) (ev_name rfl) (gi_list (by omega) ?_)
      · rw [Int.toNat_natCast, List.getElem?_map]; unfold tableOf; rw [List.getElem?_map, List.getElem?_range hu']; rfl
      · rw [Int.toNat_natCast, List.getElem?_map, List.getElem?_map, List.getElem?_range hv']; rfl
    · rw [fmf, List.length_map]; exact Nat.le_trans (List.length_filter_le _ _) (by rw [List.length_range]; omega)
    · rw [fmf] at X₁₁
      have e11 : ((List.range m).filter fun u : Nat => (u : Int) != goal).map (fun u : Nat => plist (((List.range m).filter fun v : Nat => (v : Int) != st).map fun v : Nat => pint (cellOf ah u v))) = (minorOf m ah goal st).map fun r => plist (r.map pint) := by
        unfold minorOf; rw [List.map_map]
        refine List.map_congr_left fun u _ => ?_
        show _ = plist (List.map pint _)
        rw [List.map_map]; rfl
      have X11 : At (cfg w mg mb) s H' env [("minor", ptable (minorOf m ah goal st)), ("start", pint st), ("table", ptable (tableOf m ah)), ("told", plist (rs.map ppath)), ("goal", pint goal), ("ahead", pahead (cfg w mg mb) ah), ("first", plist (first.map pint)), ("n", pint (m : Int))] s₁₁ := by
        unfold ptable
        unfold ptable at X₁₁
        rw [← e11]; exact X₁₁
      clear X₁₁
      have hpw : ∀ k : Nat, k ≤ 10 → ((Builtin.Int.intBits (-1) : Int) * (k : Int) ≤ 2 ^ 27) ∧ Builtin.Int.intBits ((-1 : Int) ^ k) ≤ 64 := by
        intro k hk
        have : ∀ k : Nat, k < 11 → ((Builtin.Int.intBits (-1) : Int) * (k : Int) ≤ 2 ^ 27) ∧ Builtin.Int.intBits ((-1 : Int) ^ k) ≤ 64 := by decide +kernel
        exact this k (by omega)
      obtain ⟨q1, q2⟩ := hpw (st + goal).toNat (by omega)
      refine wpAny_execs_cons (ex_if (b := false) X11 hA1 hsc (ts_cast (ts_cmp (ev_len N rfl rfl (ev_comp (xs := rs) (P := ppath) (G := fun p => if p.headD 0 == st then [ppath p] else []) (ρ' := [("start", pint st)]) (scOk rfl (by decide) (by decide) (by decide)) (by decide) (fun _ _ => rfl) (ev_name rfl) itb_list (SubF.le ⟨rfl, rfl, trivial⟩)
          (fun p hp => turn1 (.inl rfl) rfl _ (tests1 (ts_cmp (ev_sub (ev_name rfl) ev_int (gi_list (p := pint (p.headD 0)) (by decide) ?_)) (ev_name rfl) c_eq)) fun _ => ev_name rfl) ?_) ?_)
        (ev_bin (ev_bin (ev_neg ev_int) (ev_cast (ev_bin (ev_name rfl) (ev_name rfl) b_add) (by rw [Int.toNat_of_nonneg (show 0 ≤ st + goal by omega)])) (b_pow q1)) (ev_call (ev_global rfl rfl N.det (by decide)) (kept_ref (by rfl)) (evs_cons (ev_name rfl) evs_nil) (run_det N hT)) (b_mul (.of_left q2))) c_ne) ?_) (fun h => by cases h) fun _ s₁₂ e₁₂ X₁₂ => wpAny_execs_nil ?_)
      · obtain ⟨a, ha, _⟩ := (L.paths p hp).head
        rw [List.getElem?_map]
        show Option.map pint p[0]? = _
        cases p with
        | nil => simp at ha
        | cons b t => rfl
      · rw [fmf, List.length_map]; exact Nat.le_trans (List.length_filter_le _ _) (Nat.le_trans L.len (by decide))
      · rw [fmf, List.length_map]; exact Nat.le_trans (List.length_filter_le _ _) (Nat.le_trans L.len (by decide))
      · rw [fmf, List.length_map, hlaw]; simp
      · exact wpAny_execs_nil (hQ' s₁₂ (X₁₂.weak (Sub.le ⟨rfl, rfl, rfl, rfl, rfl, rfl, trivial⟩)) trivial ((c₁₁.mono fun b h => .inl h).trans (Chg.of_ext e₁₂)) (v₁₁.trans (e₁₂.view H')))
  -- return
  have hall : (rs.filter fun p => first.any (· == p.headD 0)) = rs := by
    rw [List.filter_eq_self]
    intro p hp
    obtain ⟨a, ha, hf⟩ := (L.paths p hp).head
    cases p with
    | nil => simp at ha
    | cons b t => simp at ha; subst ha; exact hf
  refine wpAny_execs_cons (wpAny_Return_some (wpAny_And2 (ev_cast (q := pbool true) (ev_cmp (ev_len N rfl rfl (ev_name rfl) (by rw [List.length_map]; exact Nat.le_trans L.len (by decide))) (ev_len N rfl rfl (ev_comp (xs := rs) (P := ppath) (G := fun p => if first.any (· == p.headD 0) then [ppath p] else []) (ρ' := [("first", plist (first.map pint))]) (scOk rfl (by decide) (by decide) (by decide)) (by decide) (fun _ _ => rfl) (ev_name rfl) itb_list (SubF.le ⟨rfl, rfl, trivial⟩)
      (fun p hp => turn1 (.inl rfl) rfl _ (tests1 (ts_cmp (ev_sub (ev_name rfl) ev_int (gi_list (p := pint (p.headD 0)) (by decide) ?_)) (ev_name rfl) c_in_list)) fun _ => ev_name rfl) ?_) ?_) c_eq) ?_ _ _ _ _ _ _ E' hsc hA1 X₁₀ fun v s₁₁ e₁₁ hv => ?_)))
  · obtain ⟨a, ha, _⟩ := (L.paths p hp).head
    rw [List.getElem?_map]
    show Option.map pint p[0]? = _
    cases p with
    | nil => simp at ha
    | cons b t => rfl
  · rw [fmf, hall, List.length_map]; exact Nat.le_trans L.len (by decide)
  · rw [fmf, hall, List.length_map]; exact Nat.le_trans L.len (by decide)
  · rw [fmf, hall]; simp
  obtain rfl := hv
  refine wpAny_truthy_bool ?_
  simp only [if_true]
  have X₁₁ := X₁₀.more e₁₁
  refine wpAny_Compare1 (wp_calls X₁₁ hA1 hsc (ev_global rfl rfl N.told (by decide)) (kept_ref (by rfl)) (evs_cons (ev_call (ev_boot rfl rfl (N.free _ (by decide)) boot_set (by decide)) kept_type (evs_cons (ev_name rfl) evs_nil) (run_set_list L.flen))
      (evs_cons (ev_bin (ev_name rfl) ev_int b_add) (evs_cons (ev_name rfl) evs_nil))) fun s₁₂ vs₂ e₁₂ hvs => ?_) (by rfl)
  have X₁₂ := X₁₁.more e₁₂
  obtain ⟨m0, oL0, es0, ep0, hoL0, hdL0, _⟩ := X₁₂.ns
  have ht : ∀ m : Nat, m ≤ 6 → ((m : Int) + 7).natAbs.log2 < 1920 ∧ (Str.ofString (toString ((m : Int) + 7))).length ≤ 100 := by
    intro m hm
    have : ∀ m : Nat, m < 7 → ((m : Int) + 7).natAbs.log2 < 1920 ∧ (Str.ofString (toString ((m : Int) + 7))).length ≤ 100 := by decide +kernel
    exact this m (by omega)
  refine told_miss (n := 4) N hA1 hfr1 (fun b o e => X₁₂.ext.keep b o e) ⟨by rw [X₁₂.kind]; decide, ⟨env.locals, oL0, hfe, X₁₂.homeB, hoL0, fun vs h => by rw [hdL0] at h; cases h⟩, trivial⟩ hgb OQ F hstop X₁₂.gl X₁₂.live hvs L.miss (ht m n6).1 (ht m n6).2 fun s' hb hge hos => ?_
  refine wpAny_Constant_none ?_
  refine is_none ?_
  exact hQ s' hb (X₁₂.ext.gens.trans hge) (hos.trans X₁₂.ext.os)
end
end Mine
end
section
open PySem PySem.W
set_option Elab.async false
set_option maxRecDepth 100000
namespace Mine
abbrev Ed := Nat × Nat
def symEnt (u v : Nat) : Option (Int × List Ed) := if u = v then some (1, []) else if u < v then some (-1, [(u, v)]) else none
abbrev SR := List Int × Int × List Ed
def symStep (us vs : List Nat) (k : Nat) (r : SR) : List SR := (List.range us.length).flatMap fun (j : Nat) =>
  if r.1.any (· == (j : Int)) then [] else match symEnt (us.getD k 0) (vs.getD j 0) with
    | none => []
    | some (c, es) => [(r.1 ++ [(j : Int)], r.2.1 * c * (-1) ^ (r.1.filter (fun x => decide ((j : Int) < x))).length, r.2.2 ++ es)]
def symRows (us vs : List Nat) : Nat → List SR
  | 0 => [([], 1, [])]
  | k + 1 => (symRows us vs k).flatMap (symStep us vs k)
def rowsOf (n : Nat) (g : Nat) : List Nat := (List.range n).filter fun u => u != g
/-- a table's entries, told by its edges -/
def edgy (A : Ed → Bool) (u v : Nat) : Int := if u = v then 1 else if u < v then (if A (u, v) then -1 else 0) else 0
def tabOf (A : Ed → Bool) (us vs : List Nat) : List (List Int) := us.map fun u => vs.map fun v => edgy A u v
theorem filter_map_fm {α β : Type} (p : α → Bool) (f : α → β) : ∀ l : List α, (l.filter p).map f = l.flatMap fun x => if p x then [f x] else []
  | [] => rfl
  | a :: l => by
    rw [List.flatMap_cons, ← filter_map_fm p f l]
    cases h : p a <;> simp [h]
theorem flatMap_congr' {α β : Type} {f g : α → List β} : ∀ {l : List α}, (∀ x ∈ l, f x = g x) → l.flatMap f = l.flatMap g
  | [], _ => rfl
  | a :: l, h => by rw [List.flatMap_cons, List.flatMap_cons, h a (.head _), flatMap_congr' fun x hx => h x (.tail _ hx)]
theorem ent_tab {A : Ed → Bool} {us vs : List Nat} {k j : Nat} (hk : k < us.length) (hj : j < vs.length) : ent (tabOf A us vs) k j = edgy A (us.getD k 0) (vs.getD j 0) := by
  unfold ent tabOf
  simp [List.getD_eq_getElem?_getD, List.getElem?_map, List.getElem?_eq_getElem hk, List.getElem?_eq_getElem hj]
def keep (A : Ed → Bool) (r : SR) : Bool := r.2.2.all A
theorem rows_sym {A : Ed → Bool} {us vs : List Nat} (hl : us.length = vs.length) : ∀ k, k ≤ us.length → detRows (tabOf A us vs) k = ((symRows us vs k).filter (keep A)).map fun r => (r.1, r.2.1)
  | 0, _ => rfl
  | k + 1, hk => by
    have hT : (tabOf A us vs).length = us.length := by unfold tabOf; rw [List.length_map]
    simp only [detRows, symRows]
    rw [rows_sym hl k (by omega), List.filter_flatMap, List.map_flatMap, filter_map_fm, List.flatMap_assoc]
    refine flatMap_congr' fun r _ => ?_
    by_cases hr : keep A r
    · rw [if_pos hr, List.flatMap_singleton]
      unfold detStep symStep
      rw [filter_map_fm, List.filter_flatMap, List.map_flatMap, hT]
      refine flatMap_congr' fun j hj => ?_
      have hj' := List.mem_range.mp hj
      rw [ent_tab (by omega) (by omega)]
      generalize us.getD k 0 = u
      generalize vs.getD j 0 = v
      unfold keep at hr
      cases ha : r.1.any (· == (j : Int)) with
      | true => simp
      | false =>
        unfold edgy symEnt
        by_cases h1 : u = v
        · subst h1
          simp [keep, hr]
        · by_cases h2 : u < v
          · cases h3 : A (u, v) with
            | true => simp [h1, h2, h3, keep, hr]
            | false => simp [h1, h2, h3, keep]
          · simp [h1, h2]
    · rw [if_neg hr]
      symm
      show List.map _ _ = []
      unfold symStep
      rw [List.filter_flatMap, List.map_flatMap]
      rw [List.flatMap_eq_nil_iff]
      intro j _
      unfold keep at hr
      split
      · rfl
      · split
        · rfl
        · simp [keep, hr]
end Mine
end
section
open PySem PySem.W
set_option Elab.async false
set_option maxRecDepth 100000
namespace Mine
/-- the ways from s to v, each told by its edges -/
def symWays (s : Nat) : Nat → Nat → List (List Ed)
  | 0, _ => []
  | f + 1, v => (if v = s then [[]] else []) ++ (List.range v).flatMap fun u => (symWays s f u).map (· ++ [(u, v)])
def symDet (n s g : Nat) : List (Int × List Ed) := (symRows (rowsOf n g) (rowsOf n s) (rowsOf n g).length).map fun r => ((-1) ^ (s + g) * r.2.1, r.2.2)
theorem sym_perm : ∀ n : Nat, n < 7 → ∀ g : Nat, g < n → ∀ s : Nat, s < n → (symDet n s g).isPerm ((symWays s 6 g).map fun es => (1, es)) = true := by decide +kernel
end Mine
end
section
open PySem PySem.W
set_option Elab.async false
set_option maxRecDepth 100000
namespace Mine
theorem sum_perm {l m : List Int} (h : l.Perm m) : l.sum = m.sum := by
  induction h with
  | nil => rfl
  | cons a _ ih => simp only [List.sum_cons, ih]
  | swap a b l => simp only [List.sum_cons]; omega
  | trans _ _ h1 h2 => exact h1.trans h2
theorem sum_scale {α : Type} (c : Int) (f : α → Int) : ∀ l : List α, (l.map fun x => c * f x).sum = c * (l.map f).sum
  | [] => by simp
  | a :: l => by simp only [List.map_cons, List.sum_cons, sum_scale c f l, Int.mul_add]
def val (A : Ed → Bool) (l : List (Int × List Ed)) : Int := ((l.filter fun x => x.2.all A).map (·.1)).sum
theorem val_perm {A : Ed → Bool} {l m : List (Int × List Ed)} (h : l.Perm m) : val A l = val A m := sum_perm ((h.filter _).map _)
theorem val_ways (A : Ed → Bool) : ∀ l : List (List Ed), val A (l.map fun es => (1, es)) = ((l.filter fun es => es.all A).length : Int)
  | [] => rfl
  | a :: l => by
    have ih := val_ways A l
    unfold val at ih ⊢
    cases h : a.all A with
    | true => simp only [List.map_cons, List.filter_cons, h, if_true, List.sum_cons, List.length_cons, ih]; omega
    | false => simp only [List.map_cons, List.filter_cons, h, Bool.false_eq_true, if_false, ih]
theorem rows_len (n g : Nat) (h : g < n) : (rowsOf n g).length + 1 = n := by
  unfold rowsOf
  have h0 := List.length_eq_countP_add_countP (fun u => u != g) (l := List.range n)
  rw [List.length_range] at h0
  have h2 : (List.range n).countP (fun a => decide ¬((a != g) = true)) = 1 := by
    have : (List.range n).countP (fun a => decide ¬((a != g) = true)) = (List.range n).count g := by
      unfold List.count
      congr 1; funext u; by_cases h : u = g <;> simp [h]
    rw [this, List.nodup_range.count, if_pos (List.mem_range.mpr h)]
  rw [← List.countP_eq_length_filter]
  omega
theorem det_ways {A : Ed → Bool} {n s g : Nat} (hn : n ≤ 6) (hg : g < n) (hs : s < n) :
    (-1) ^ (s + g) * detOf (tabOf A (rowsOf n g) (rowsOf n s)) = (((symWays s 6 g).filter fun es => es.all A).length : Int) := by
  rw [← val_ways, ← val_perm (List.isPerm_iff.mp (sym_perm n (by omega) g hg s hs))]
  have hl : (rowsOf n g).length = (rowsOf n s).length := by have := rows_len n g hg; have := rows_len n s hs; omega
  unfold detOf
  have hT : (tabOf A (rowsOf n g) (rowsOf n s)).length = (rowsOf n g).length := by unfold tabOf; rw [List.length_map]
  rw [hT, rows_sym hl _ (Nat.le_refl _), List.map_map]
  unfold val symDet
  rw [List.filter_map, List.map_map]
  exact (sum_scale _ _ _).symm
/-- how many ways -/
def wayN (A : Ed → Bool) (s f v : Nat) : Nat := ((symWays s f v).filter fun es => es.all A).length
theorem wayN_step (A : Ed → Bool) (s f v : Nat) : wayN A s (f + 1) v = (if v = s then 1 else 0) + (((List.range v).filter fun u => A (u, v)).map fun u => wayN A s f u).sum := by
  unfold wayN
  show ((_ ++ List.flatMap _ _ : List (List Ed)).filter _).length = _
  rw [List.filter_append, List.length_append]
  congr 1
  · by_cases h : v = s
    · rw [if_pos h, if_pos h]; rfl
    · rw [if_neg h, if_neg h]; rfl
  · rw [List.filter_flatMap, List.length_flatMap]
    generalize List.range v = l
    induction l with
    | nil => rfl
    | cons u l ih =>
      rw [List.map_cons, List.sum_cons, ih, List.filter_map, List.length_map]
      have e : ((fun es : List Ed => es.all A) ∘ fun es : List Ed => es ++ [(u, v)]) = fun es => es.all A && A (u, v) := by funext es; simp
      rw [e]
      cases h : A (u, v) with
      | true => simp [h]
      | false => simp [h]
end Mine
end
section
open PySem PySem.W
set_option Elab.async false
set_option maxRecDepth 100000
namespace Mine
structure Tb (n : Nat) (ah : List (Int × List Int)) (S : Int → Bool) : Prop where
  n6 : n ≤ 6
  key : ∀ v : Nat, v < n → ∃ row, ah.lookup (v : Int) = some row
  row : ∀ v row, ah.lookup v = some row → ∃ k : Nat, v = (k : Int) ∧ k < n ∧ row.Perm (((List.range k).filter fun (u : Nat) => row.any (· == (u : Int))).map fun (u : Nat) => (u : Int)) ∧ (S v = true → row = [])
def upF (ah : List (Int × List Int)) (S : Int → Bool) : Nat → Int → List (List Int)
  | 0, _ => []
  | f + 1, v => (if S v then [[v]] else []) ++ (aheadAt ah v).flatMap fun u => (upF ah S f u).map (· ++ [v])
def wF (ah : List (Int × List Int)) : Nat → Int → Nat
  | 0, _ => 0
  | f + 1, v => 2 + ((aheadAt ah v).map (wF ah f)).sum
section
variable {n : Nat} {ah : List (Int × List Int)} {S : Int → Bool}
theorem Tb.mem (T : Tb n ah S) {k : Nat} {row : List Int} (h : ah.lookup (k : Int) = some row) {u : Int} (hu : u ∈ row) : ∃ j : Nat, u = (j : Int) ∧ j < k := by
  obtain ⟨k', e, _, hp, _⟩ := T.row _ _ h
  have : k' = k := by omega
  subst this
  have := hp.mem_iff.mp hu
  simp only [List.mem_map, List.mem_filter, List.mem_range] at this
  obtain ⟨j, ⟨hj, _⟩, rfl⟩ := this
  exact ⟨j, rfl, hj⟩
theorem Tb.at (_ : Tb n ah S) {v : Int} {row : List Int} (h : ah.lookup v = some row) : aheadAt ah v = row := by unfold aheadAt; rw [h]; rfl
theorem upF_stable (T : Tb n ah S) : ∀ f (v : Nat), v < f → v < n → upF ah S f v = upF ah S (f + 1) v
  | f + 1, v, hf, hv => by
    obtain ⟨row, hr⟩ := T.key v hv
    show (_ ++ _ : List (List Int)) = _ ++ _
    congr 1
    refine flatMap_congr' fun u hu => ?_
    rw [T.at hr] at hu
    obtain ⟨j, rfl, hj⟩ := T.mem hr hu
    rw [upF_stable T f j (by omega) (by omega)]
theorem wF_stable (T : Tb n ah S) : ∀ f (v : Nat), v < f → v < n → wF ah f v = wF ah (f + 1) v
  | f + 1, v, hf, hv => by
    obtain ⟨row, hr⟩ := T.key v hv
    show 2 + _ = 2 + _
    congr 2
    refine List.map_congr_left fun u hu => ?_
    rw [T.at hr] at hu
    obtain ⟨j, rfl, hj⟩ := T.mem hr hu
    exact wF_stable T f j (by omega) (by omega)
theorem Tb.dag (T : Tb n ah S) : Dag ah S (upF ah S 7) (wF ah 7) where
  ent := fun v row h => by
    obtain ⟨k, rfl, hk, _, _⟩ := T.row _ _ h
    have := T.n6
    refine ⟨by omega, by omega, fun u hu => ?_⟩
    obtain ⟨j, rfl, hj⟩ := T.mem h hu
    exact ⟨by omega, T.key j (by omega)⟩
  up := fun v row h => by
    obtain ⟨k, rfl, hk, _, _⟩ := T.row _ _ h
    have := T.n6
    show (_ ++ _ : List (List Int)) = _ ++ _
    rw [T.at h]
    congr 1
    refine flatMap_congr' fun u hu => ?_
    obtain ⟨j, rfl, hj⟩ := T.mem h hu
    rw [upF_stable T 6 j (by omega) (by omega)]
  w := fun v row h => by
    obtain ⟨k, rfl, hk, _, _⟩ := T.row _ _ h
    have := T.n6
    show 2 + _ = 2 + _
    rw [T.at h]
    congr 2
    refine List.map_congr_left fun u hu => ?_
    obtain ⟨j, rfl, hj⟩ := T.mem h hu
    exact wF_stable T 6 j (by omega) (by omega)
  src := fun v row h hs => by obtain ⟨k, rfl, hk, _, h'⟩ := T.row _ _ h; exact h' hs
structure PF (ah : List (Int × List Int)) (S : Int → Bool) (v : Nat) (p : List Int) : Prop where
  pos : 0 < p.length
  len : p.length ≤ v + 1
  head : ∃ a, p[0]? = some a ∧ S a = true
  last : p[p.length - 1]? = some (v : Int)
  step : ∀ k, k + 1 < p.length → ∃ u w row, p[k]? = some u ∧ p[k + 1]? = some w ∧ ah.lookup w = some row ∧ row.any (· == u) = true
theorem up_facts (T : Tb n ah S) : ∀ f (v : Nat), v < n → ∀ p ∈ upF ah S f v, PF ah S v p
  | 0, v, _, p, hp => by simp [upF] at hp
  | f + 1, v, hv, p, hp => by
    obtain ⟨row, hr⟩ := T.key v hv
    have hp' : p ∈ (if S v then [[(v : Int)]] else []) ++ (aheadAt ah v).flatMap fun u => (upF ah S f u).map (· ++ [(v : Int)]) := hp
    rw [List.mem_append, T.at hr] at hp'
    rcases hp' with h | h
    · split at h
      · rename_i hs
        simp at h; subst h
        exact ⟨by simp, by simp, ⟨_, rfl, hs⟩, rfl, fun k hk => by simp at hk⟩
      · simp at h
    · simp only [List.mem_flatMap, List.mem_map] at h
      obtain ⟨u, hu, q, hq, rfl⟩ := h
      obtain ⟨j, rfl, hj⟩ := T.mem hr hu
      have F := up_facts T f j (by omega) q hq
      have h1 := F.pos
      have h2 := F.len
      refine ⟨by simp, by simp; omega, ?_, by simp, fun k hk => ?_⟩
      · obtain ⟨a, ha, hs⟩ := F.head
        exact ⟨a, by rw [List.getElem?_append_left h1]; exact ha, hs⟩
      · simp at hk
        by_cases hkl : k + 1 < q.length
        · obtain ⟨a, b, r, x1, x2, x3, x4⟩ := F.step k hkl
          exact ⟨a, b, r, by rw [List.getElem?_append_left (by omega)]; exact x1, by rw [List.getElem?_append_left hkl]; exact x2, x3, x4⟩
        · have hk' : k = q.length - 1 := by omega
          refine ⟨(j : Int), (v : Int), row, ?_, ?_, hr, ?_⟩
          · rw [List.getElem?_append_left (by omega), hk']; exact F.last
          · rw [List.getElem?_append_right (by omega)]
            rw [show k + 1 - q.length = 0 by omega]; rfl
          · rw [List.any_eq_true]; exact ⟨_, hu, by simp⟩
theorem Tb.nodup (T : Tb n ah S) {k : Nat} {row : List Int} (h : ah.lookup (k : Int) = some row) : row.Nodup ∧ row.length ≤ k := by
  obtain ⟨k', e, _, hp, _⟩ := T.row _ _ h
  have : k' = k := by omega
  subst this
  constructor
  · rw [hp.nodup_iff]
    have : ((List.range k').filter fun (u : Nat) => row.any (· == (u : Int))).Nodup := List.Nodup.sublist List.filter_sublist List.nodup_range
    exact List.Pairwise.map _ (fun a b hab h => hab (by omega)) this
  · rw [hp.length_eq, List.length_map]
    exact Nat.le_trans (List.length_filter_le _ _) (by rw [List.length_range]; exact Nat.le_refl _)
theorem up_nodup (T : Tb n ah S) : ∀ f (v : Nat), v < n → (upF ah S f v).Nodup
  | 0, v, _ => .nil
  | f + 1, v, hv => by
    obtain ⟨row, hr⟩ := T.key v hv
    show ((if S v then [[(v : Int)]] else []) ++ (aheadAt ah v).flatMap fun u => (upF ah S f u).map (· ++ [(v : Int)])).Nodup
    rw [T.at hr]
    cases hs : S v with
    | true =>
      obtain ⟨k, _, _, _, h'⟩ := T.row _ _ hr
      rw [h' hs]; simp
    | false =>
      simp only [Bool.false_eq_true, if_false, List.nil_append]
      unfold List.Nodup
      rw [List.pairwise_flatMap]
      constructor
      · intro u hu
        obtain ⟨j, rfl, hj⟩ := T.mem hr hu
        exact List.Pairwise.map _ (fun a b hab h => hab (List.append_cancel_right h)) (up_nodup T f j (by omega))
      · refine List.Pairwise.imp_of_mem ?_ (T.nodup hr).1
        intro a b ha hb hab x hx y hy hxy
        obtain ⟨i, rfl, hi⟩ := T.mem hr ha
        obtain ⟨j, rfl, hj⟩ := T.mem hr hb
        simp only [List.mem_map] at hx hy
        obtain ⟨p, hp, rfl⟩ := hx
        obtain ⟨q, hq, rfl⟩ := hy
        have e := List.append_cancel_right hxy
        subst e
        have l1 := (up_facts T f i (by omega) p hp).last
        have l2 := (up_facts T f j (by omega) p hq).last
        rw [l1] at l2; injection l2 with l2; exact hab l2
theorem sum_le {α : Type} (f : α → Nat) (b : Nat) : ∀ l : List α, (∀ x ∈ l, f x ≤ b) → (l.map f).sum ≤ l.length * b
  | [], _ => by simp
  | a :: l, h => by
    have := sum_le f b l fun x hx => h x (.tail _ hx)
    have := h a (.head _)
    rw [List.map_cons, List.sum_cons, List.length_cons, Nat.succ_mul]; omega
theorem up_len (T : Tb n ah S) : ∀ f (v : Nat), v < n → (upF ah S f v).length ≤ 6 ^ v
  | 0, v, _ => by simp [upF]
  | f + 1, v, hv => by
    obtain ⟨row, hr⟩ := T.key v hv
    show ((if S v then [[(v : Int)]] else []) ++ (aheadAt ah v).flatMap fun u => (upF ah S f u).map (· ++ [(v : Int)])).length ≤ _
    rw [T.at hr, List.length_append, List.length_flatMap]
    have h0 : (if S v then [[(v : Int)]] else []).length ≤ 1 := by split <;> simp
    have hrl := (T.nodup hr).2
    have hn := T.n6
    cases v with
    | zero =>
      have : row = [] := by cases row with | nil => rfl | cons _ _ => simp at hrl
      subst this; simpa using h0
    | succ v =>
      have hs := sum_le (fun u => ((upF ah S f u).map (· ++ [((v + 1 : Nat) : Int)])).length) (6 ^ v) row fun u hu => by
        obtain ⟨j, rfl, hj⟩ := T.mem hr hu
        rw [List.length_map]
        exact Nat.le_trans (up_len T f j (by omega)) (Nat.pow_le_pow_right (by decide) (by omega))
      have h5 : row.length * 6 ^ v ≤ 5 * 6 ^ v := Nat.mul_le_mul_right _ (by omega)
      have h1 : 1 ≤ 6 ^ v := Nat.pos_of_ne_zero (by intro h; simp at h)
      rw [Nat.pow_succ]
      omega
def edA (ah : List (Int × List Int)) (e : Ed) : Bool := (aheadAt ah (e.2 : Int)).any (· == (e.1 : Int))
theorem up_count (T : Tb n ah S) {s : Nat} (hs : S (s : Int) = true) : ∀ f (v : Nat), v < n → ((upF ah S f v).filter fun p => p.headD 0 == (s : Int)).length = wayN (edA ah) s f v
  | 0, v, _ => rfl
  | f + 1, v, hv => by
    obtain ⟨row, hr⟩ := T.key v hv
    rw [wayN_step]
    show (((if S v then [[(v : Int)]] else []) ++ (aheadAt ah v).flatMap fun u => (upF ah S f u).map (· ++ [(v : Int)])).filter _).length = _
    rw [T.at hr, List.filter_append, List.length_append]
    congr 1
    · by_cases h : v = s
      · subst h; rw [if_pos hs, if_pos rfl]; simp
      · rw [if_neg h]
        split
        · have : ((v : Int) == (s : Int)) = false := by simp; omega
          simp [this]
        · rfl
    · obtain ⟨k, e, hk, hp, _⟩ := T.row _ _ hr
      have : k = v := by omega
      subst this
      rw [List.filter_flatMap, List.length_flatMap, (hp.map _).sum_nat, List.map_map]
      have ef : ((List.range k).filter fun u => edA ah (u, k)) = (List.range k).filter fun (u : Nat) => row.any (· == (u : Int)) := by
        unfold edA; simp only [T.at hr]
      rw [ef]
      congr 1
      refine List.map_congr_left fun u hu => ?_
      have hu' : u < k := List.mem_range.mp (List.mem_filter.mp hu).1
      rw [← up_count T hs f u (by omega)]
      show (List.filter _ (List.map _ _)).length = _
      rw [List.filter_map, List.length_map]
      congr 1
      refine List.filter_congr fun q hq => ?_
      have := (up_facts T f u (by omega) q hq).pos
      cases q with
      | nil => simp at this
      | cons a t => rfl
end
end Mine
end
section
open PySem PySem.W
set_option Elab.async false
set_option maxRecDepth 100000
namespace Mine
section
variable {F : Nat → List Int}
theorem lk1 : ∀ (l : List Nat) (k : Nat), k ∈ l → (l.map fun (v : Nat) => ((v : Int), F v)).lookup (k : Int) = some (F k)
  | a :: l, k, h => by
    rw [List.map_cons, List.lookup_cons]
    by_cases e : k = a
    · subst e; simp
    · have : ((k : Int) == (a : Int)) = false := by simp; omega
      rw [this]
      exact lk1 l k (by cases h with | head => exact absurd rfl e | tail _ h => exact h)
theorem lk2 : ∀ (l : List Nat) (x : Int) (row : List Int), (l.map fun (v : Nat) => ((v : Int), F v)).lookup x = some row → ∃ k ∈ l, x = (k : Int) ∧ row = F k
  | [], x, row, h => by simp at h
  | a :: l, x, row, h => by
    rw [List.map_cons, List.lookup_cons] at h
    cases e : x == (a : Int) with
    | true => rw [e] at h; injection h with h; exact ⟨a, .head _, by simpa using e, h.symm⟩
    | false =>
      rw [e] at h
      obtain ⟨k, hk, r⟩ := lk2 l x row h
      exact ⟨k, .tail _ hk, r⟩
end
theorem getD_range {α : Type} (d : α) (l : List α) : (List.range l.length).map (fun i => l.getD i d) = l := by
  apply List.ext_getElem?
  intro i
  rw [List.getElem?_map]
  by_cases h : i < l.length
  · rw [List.getElem?_range h, List.getElem?_eq_getElem h]; simp [List.getD_eq_getElem?_getD, List.getElem?_eq_getElem h]
  · rw [List.getElem?_eq_none (by simpa using h), List.getElem?_eq_none (by simpa using h)]; rfl
theorem pairs_at : ∀ n : Nat, n < 7 → ∀ k : Nat, k < n → ((pairsOf n).filter fun p => p.2 == (k : Int)).map (·.1) = (List.range k).map fun (u : Nat) => (u : Int) := by decide +kernel
theorem row_sub {f1 f2 f3 : Int} {n k : Nat} (hn : n ≤ 6) (hk : k < n) : (rowOf (tiesOf f1 f2 n) (firstOf f3 n) k).Sublist ((List.range k).map fun (u : Nat) => (u : Int)) := by
  rw [← pairs_at n (by omega) k hk]
  unfold rowOf tiesOf
  have h1 : (((List.range (pairsOf n).length).filter (tieB f1 f2)).map fun k => (pairsOf n).getD k (0, 0)).Sublist (pairsOf n) := by
    have := (List.filter_sublist (p := tieB f1 f2) (l := List.range (pairsOf n).length)).map fun k => (pairsOf n).getD k (0, 0)
    rw [getD_range] at this
    exact this
  refine List.Sublist.map _ ?_
  have h2 : ∀ l : List (Int × Int), (l.filter fun p => p.2 == (k : Int) && !(firstOf f3 n).any (· == (k : Int))).Sublist (l.filter fun p => p.2 == (k : Int)) := fun l => by
    have : (l.filter fun p => p.2 == (k : Int) && !(firstOf f3 n).any (· == (k : Int))) = (l.filter fun p => p.2 == (k : Int)).filter fun _ => !(firstOf f3 n).any (· == (k : Int)) := by
      rw [List.filter_filter]
      refine List.filter_congr fun p _ => ?_
      exact Bool.and_comm _ _
    rw [this]; exact List.filter_sublist
  exact (h2 _).trans (h1.filter _)
theorem turned_perm (f : Int) (r : List Int) : (turned f r).Perm r := by
  unfold turned
  refine List.perm_append_comm.trans ?_
  rw [List.take_append_drop]
theorem first_bound {f3 : Int} {n : Nat} (hn : 1 ≤ n) : ∀ st ∈ firstOf f3 n, ∃ s : Nat, st = (s : Int) ∧ s < n := by
  intro st h
  have hk := (kOf_bound f3 hn).1
  unfold firstOf at h
  split at h
  · simp at h; exact ⟨0, by omega, by omega⟩
  · split at h
    · simp at h; exact ⟨0, by omega, by omega⟩
    · simp at h
      rcases h with h | h
      · exact ⟨0, by omega, by omega⟩
      · exact ⟨_, h, hk⟩
theorem goal_bound {f5 : Int} {n : Nat} (hn : 1 ≤ n) : ∃ g : Nat, goalOf f5 n = (g : Int) ∧ g < n := by
  unfold goalOf
  split
  · exact ⟨n - 1, by omega, by omega⟩
  · have h1 := Int.fmod_nonneg_of_pos (f5.fdiv 3) (b := (n : Int)) (by omega)
    have h2 := Int.fmod_lt_of_pos (f5.fdiv 3) (b := (n : Int)) (by omega)
    exact ⟨((f5.fdiv 3).fmod n).toNat, by omega, by omega⟩
theorem tb_of {f1 f2 f3 f4 : Int} {n : Nat} (hn : n ≤ 6) : Tb n (aheadOf f1 f2 f3 f4 n) (fun k => (firstOf f3 n).any (· == k)) where
  n6 := hn
  key := fun v hv => ⟨_, lk1 (List.range n) v (List.mem_range.mpr hv)⟩
  row := fun v row h => by
    obtain ⟨k, hk, rfl, rfl⟩ := lk2 (List.range n) v row h
    have hk' := List.mem_range.mp hk
    refine ⟨k, rfl, hk', ?_, fun hs => ?_⟩
    · have hsub := row_sub (f1 := f1) (f2 := f2) (f3 := f3) hn hk'
      have hp := turned_perm f4 (rowOf (tiesOf f1 f2 n) (firstOf f3 n) k)
      have hnr : ((List.range k).map fun (u : Nat) => (u : Int)).Nodup := List.Pairwise.map _ (fun a b hab h => hab (by omega)) List.nodup_range
      have hnd : (turned f4 (rowOf (tiesOf f1 f2 n) (firstOf f3 n) k)).Nodup := hp.nodup_iff.mpr (hnr.sublist hsub)
      have hmem : ∀ a ∈ turned f4 (rowOf (tiesOf f1 f2 n) (firstOf f3 n) k), ∃ u : Nat, u < k ∧ (u : Int) = a := fun a ha => by
        have := hsub.subset (hp.mem_iff.mp ha)
        simpa using this
      generalize turned f4 (rowOf (tiesOf f1 f2 n) (firstOf f3 n) k) = row at hnd hmem
      refine (List.perm_ext_iff_of_nodup hnd (List.Pairwise.map _ (fun a b hab h => hab (by omega)) (List.nodup_range.sublist List.filter_sublist))).mpr fun a => ?_
      simp only [List.mem_map, List.mem_filter, List.mem_range, List.any_eq_true]
      constructor
      · intro ha
        obtain ⟨u, hu, rfl⟩ := hmem a ha
        exact ⟨u, ⟨hu, ⟨_, ha, by simp⟩⟩, rfl⟩
      · rintro ⟨u, ⟨_, x, hx, hxu⟩, rfl⟩
        have : x = (u : Int) := by simpa using hxu
        rw [← this]; exact hx
    · have : rowOf (tiesOf f1 f2 n) (firstOf f3 n) k = [] := by
        unfold rowOf
        rw [List.filter_eq_nil_iff.mpr (fun p _ => by simp only [hs]; simp)]; rfl
      rw [this]; simp [turned]
end Mine
end
section
open PySem PySem.W
set_option Elab.async false
set_option maxRecDepth 100000
namespace Mine
theorem edgy_val (A : Ed → Bool) (u v : Nat) : edgy A u v = 0 ∨ edgy A u v = 1 ∨ edgy A u v = -1 := by
  unfold edgy
  split
  · simp
  · split
    · split <;> simp
    · simp
theorem tab_ok {A : Ed → Bool} {us vs : List Nat} (h : us.length = vs.length) (h5 : us.length ≤ 5) : TableOk (tabOf A us vs) where
  len := by unfold tabOf; rw [List.length_map]; exact h5
  rows := fun r hr => by
    unfold tabOf at hr ⊢
    rw [List.length_map]
    obtain ⟨u, _, rfl⟩ := List.mem_map.mp hr
    rw [List.length_map]; exact h.symm
  ents := fun r hr x hx => by
    unfold tabOf at hr
    obtain ⟨u, _, rfl⟩ := List.mem_map.mp hr
    obtain ⟨v, _, rfl⟩ := List.mem_map.mp hx
    exact edgy_val A u v
theorem minor_tab {n : Nat} {ah : List (Int × List Int)} {S : Int → Bool} (T : Tb n ah S) (g s : Nat) : minorOf n ah (g : Int) (s : Int) = tabOf (edA ah) (rowsOf n g) (rowsOf n s) := by
  unfold minorOf tabOf rowsOf
  have hb : ∀ g : Nat, ((List.range n).filter fun (u : Nat) => (u : Int) != (g : Int)) = (List.range n).filter fun u => u != g := fun g => by
    refine List.filter_congr fun u _ => ?_
    by_cases h : u = g
    · subst h; simp
    · have : ((u : Int) == (g : Int)) = false := by simp; omega
      simp [bne, this, h]
  rw [hb, hb]
  refine List.map_congr_left fun u hu => List.map_congr_left fun v hv => ?_
  have hv' : v < n := List.mem_range.mp (List.mem_filter.mp hv).1
  obtain ⟨row, hr⟩ := T.key v hv'
  unfold cellOf edgy edA
  rw [T.at hr]
  by_cases h : u = v
  · subst h; simp
  · have e1 : ((u : Int) == (v : Int)) = false := by simp; omega
    rw [e1, if_neg h]
    simp only [Bool.false_eq_true, if_false]
    by_cases h2 : u < v
    · rw [if_pos h2]
    · rw [if_neg h2]
      have : row.any (· == (u : Int)) = false := by
        rw [List.any_eq_false]
        intro x hx hxu
        obtain ⟨j, rfl, hj⟩ := T.mem hr hx
        have : (j : Int) = (u : Int) := by simpa using hxu
        omega
      rw [this]; rfl
theorem piled_le (b : Nat) (ts : List Str) (h : ∀ t ∈ ts, t.length ≤ b) : piled ts ≤ ts.length * (b + 2) := by
  unfold piled
  exact sum_le _ _ _ fun t ht => by have := h t ht; omega
theorem listText_len : ∀ ts : List Str, (listText ts).length ≤ 2 + piled ts
  | [] => by decide
  | t :: r => by
    unfold listText textFrom
    rw [strLen_append, textFrom_length_pos _ _ _ (by decide), strLen_append, strLen_append, piled_cons]
    have h1 : ("[" : Str).length = 1 := rfl
    have h2 : ("]" : Str).length = 1 := rfl
    have h3 : (((if (0 : Nat) > 0 then ", " else "" : String)) : Str).length = 0 := rfl
    omega
theorem dictText_len (ps : List Str) : (dictText ps).length ≤ 2 + piled ps := by
  unfold dictText
  rw [strLen_append, strLen_append]
  have h1 : ("{" : Str).length = 1 := rfl
  have h2 : ("}" : Str).length = 1 := rfl
  cases ps with
  | nil => decide
  | cons t r =>
    have := join_length_add (t :: r) (by simp)
    omega
theorem small6 : ∀ j : Nat, j < 6 → (j : Int).natAbs.log2 < 1920 ∧ (toString (j : Int) : Str).length ≤ 1 := by decide +kernel
theorem txt_len {ah : List (Int × List Int)} (hlen : ah.length ≤ 6) (hx : ∀ x ∈ ah, (∃ k : Nat, x.1 = (k : Int) ∧ k < 6) ∧ x.2.length ≤ 6 ∧ ∀ i ∈ x.2, ∃ j : Nat, i = (j : Int) ∧ j < 6) : (dtxt ah).length ≤ sizeLine := by
  unfold dtxt
  have h := dictText_len (ah.map etxt)
  have h2 := piled_le 30 (ah.map etxt) fun t ht => by
    obtain ⟨x, hxm, rfl⟩ := List.mem_map.mp ht
    obtain ⟨⟨k, hk, hk6⟩, hl, hi⟩ := hx x hxm
    have e : (etxt x).length = (toString x.1 : Str).length + 2 + (ltxt x.2).length := by
      unfold etxt
      rw [strLen_append, strLen_append]; rfl
    have h1 : (toString x.1 : Str).length ≤ 1 := by rw [hk]; exact (small6 k hk6).2
    have h3 : (ltxt x.2).length ≤ 20 := by
      unfold ltxt
      split
      · decide
      · have a := listText_len (x.2.map fun i => (toString i : Str))
        have b := piled_le 1 (x.2.map fun i => (toString i : Str)) fun t ht => by
          obtain ⟨i, him, rfl⟩ := List.mem_map.mp ht
          obtain ⟨j, rfl, hj⟩ := hi i him
          exact (small6 j hj).2
        rw [List.length_map] at b
        omega
    omega
  rw [List.length_map] at h2
  rw [sizeLine_eq]
  omega
theorem law_ok (f0 f1 f2 f3 f4 f5 : Int) : ∃ (UP : Int → List (List Int)) (W : Int → Nat), Dag (aheadOf f1 f2 f3 f4 (nOf f0)) (fun k => (firstOf f3 (nOf f0)).any (· == k)) UP W ∧ LawOk (nOf f0) (firstOf f3 (nOf f0)) (aheadOf f1 f2 f3 f4 (nOf f0)) (goalOf f5 (nOf f0)) (UP (goalOf f5 (nOf f0))) := by
  obtain ⟨n1, n6, _⟩ := nOf_bound f0
  generalize nOf f0 = n at n1 n6
  have T := tb_of (f1 := f1) (f2 := f2) (f3 := f3) (f4 := f4) n6
  obtain ⟨g, hg, hgn⟩ := goal_bound (f5 := f5) n1
  have hfb := first_bound (f3 := f3) n1
  have hah : ∀ x ∈ aheadOf f1 f2 f3 f4 n, ∃ k : Nat, x.1 = (k : Int) ∧ k < n ∧ (aheadOf f1 f2 f3 f4 n).lookup (k : Int) = some x.2 := fun x hx => by
    unfold aheadOf at hx ⊢
    obtain ⟨k, hk, rfl⟩ := List.mem_map.mp hx
    exact ⟨k, rfl, List.mem_range.mp hk, lk1 _ k hk⟩
  have hfl : (firstOf f3 n).length ≤ 2 := by
    unfold firstOf
    split
    · simp
    · split <;> simp
  have hal : (aheadOf f1 f2 f3 f4 n).length = n := by unfold aheadOf; rw [List.length_map, List.length_range]
  have hSin : ∀ st ∈ firstOf f3 n, (firstOf f3 n).any (· == st) = true := fun st h => List.any_eq_true.mpr ⟨st, h, by simp⟩
  generalize aheadOf f1 f2 f3 f4 n = ah at *
  generalize firstOf f3 n = first at *
  rw [hg]
  refine ⟨_, _, T.dag, ?_⟩
  have e7 : upF ah (fun k => first.any (· == k)) 7 (g : Int) = upF ah (fun k => first.any (· == k)) 6 (g : Int) := (upF_stable T 6 g (by omega) hgn).symm
  rw [e7]
  refine ⟨n6, T.key, ?_, fun x hx => ?_, ?_, by omega, fun st h => ?_, by omega, T.key g hgn, ?_, fun p hp => ?_, fun st h => ?_, fun st h => ?_⟩
  · cases e : ah.lookup ((n : Int) + 7) with
    | none => rfl
    | some row => obtain ⟨k, h1, h2, _⟩ := T.row _ _ e; omega
  · obtain ⟨k, h1, h2, h3⟩ := hah x hx
    refine ⟨by rw [h1]; exact (small6 k (by omega)).1, fun i hi => ?_⟩
    obtain ⟨j, rfl, hj⟩ := T.mem h3 hi
    exact (small6 j (by omega)).1
  · refine txt_len (by omega) fun x hx => ?_
    obtain ⟨k, h1, h2, h3⟩ := hah x hx
    refine ⟨⟨k, h1, by omega⟩, by have := (T.nodup h3).2; omega, fun i hi => ?_⟩
    obtain ⟨j, rfl, hj⟩ := T.mem h3 hi
    exact ⟨j, rfl, by omega⟩
  · obtain ⟨s, rfl, hs⟩ := hfb st h; omega
  · have h1 := up_len T 6 g hgn
    have h2 : 6 ^ g ≤ 6 ^ 5 := Nat.pow_le_pow_right (by decide) (by omega)
    exact Nat.le_trans h1 (Nat.le_trans h2 (by decide))
  · have P := up_facts T 6 g hgn p hp
    have hp2 := P.len
    exact ⟨by omega, P.pos, P.head, P.last, by rw [(up_nodup T 6 g hgn).count, if_pos hp], P.step⟩
  · obtain ⟨s, rfl, hs⟩ := hfb st h
    have a := rows_len n g hgn
    have b := rows_len n s hs
    rw [minor_tab T]
    exact tab_ok (by omega) (by omega)
  · obtain ⟨s, rfl, hs⟩ := hfb st h
    rw [minor_tab T, show ((s : Int) + (g : Int)).toNat = s + g by omega, det_ways n6 hgn hs, up_count T (hSin _ h) 6 g hgn]
    rfl
end Mine
end
section
open PySem PySem.W PyProof.Rows
set_option Elab.async false
set_option maxRecDepth 100000
set_option maxHeartbeats 8000000
namespace Mine

theorem t : PySem.Challenge.rw_bz6003_01.Holds := hd (by
  w_on
  k_fill
  intro w s₀ s₁ mg mb G Y fa o pm cd doc dV kV ho hd hcd hD hmg hg args vals as hpre hlay hrd hwl hlo
  have KX := kIn_of Y
  refine Ground.open G ?_
  intro T B D TE TW
  have N : Names mg := ⟨mg_of KX T.g (by k_is), mg_of KX T.g (by k_is), mg_of KX T.g (by k_is), mg_of KX T.g (by k_is), mg_of KX T.g (by k_is), mg_of KX T.g (by k_is), fun x hx => mg_none_of KX T.g (by
    simp only [List.mem_cons, List.not_mem_nil, or_false] at hx
    rcases hx with rfl | rfl | rfl | rfl | rfl | rfl | rfl | rfl <;> k_is)⟩
  have hlaw : mg "law" = some (.ref 95) := mg_of KX T.g (by k_is)
  have hs : specOf Mine.hd.view_39 "NetworkXNoPath" = some ("Exception.__new__", [.type "Exception", .type "BaseException", .type "object"]) := by rfl
  obtain ⟨C, OQ, _⟩ := T.ownAt hs
  have hC : C = 61 := by
    have h := OQ.bound
    have h' := N.nopath
    rw [show (Str.ofString "NetworkXNoPath") = ("NetworkXNoPath" : Str) from rfl] at h
    rw [h'] at h; injection h with h; injection h with h; exact h.symm
  subst hC
  wrow_args hpre hlay hrd hwl hlo
  rename_i xs _ _ _ _ _ _ _ a vs' _ hL ra w1 r0 hI hr hc1 hc2
  have hfa : fa = 95 := by
    have h : mg "law" = some (.ref fa) := hmg
    rw [h] at hlaw; injection hlaw with h; injection h
  subst hfa
  have hx : xs.length ≤ 63 := by
    have := hc1
    omega
  have hnl := nums_length xs
  obtain ⟨f0, f1, f2, f3, f4, f5, hn⟩ : ∃ f0 f1 f2 f3 f4 f5, nums xs = [f0, f1, f2, f3, f4, f5] := by
    match nums xs, hnl with
    | [a, b, c, d, e, f], _ => exact ⟨a, b, c, d, e, f, rfl⟩
  obtain ⟨UP, W, DD, LL⟩ := law_ok f0 f1 f2 f3 f4 f5
  have hlist : s₁.heap.get? a = some { cls := .type "list", data := .seq vs'.toArray } := by
    cases w1 with
    | list hg _ =>
      have hu := isList_unique (⟨_, hg, rfl, _, rfl⟩ : s₁.heap.IsList a _) hL
      rw [hu] at hg; exact hg
  have hall : ∀ {is : List Int} {vs : List Value}, IntsAre vs is → All2 (vw (fun _ => False) s₁.heap) (is.map pint) vs := by
    intro is vs h
    induction h with
    | nil => trivial
    | cons n t _ ih => exact ⟨⟨t, rfl⟩, ih⟩
  have G' : Gl (cfg w mg mb) s₁.heap := ⟨T.g, T.b, T.nolimit, T.seer (by rfl), T.nodigits, KX, T.builtins⟩
  have AA : AC callerA 10 := ⟨rfl, by decide, by decide, rfl⟩
  show wpAny (cfg w mg mb).M callerA (call (.ref 95) [.ref a]) _ _ s₁
  refine law_call N hx hn rfl rfl rfl rfl DD LL PySem.F.excBase_Exception (by decide +kernel) AA rfl OQ T.g G' ⟨⟨a, _, _, rfl, ⟨fun h => h, hlist⟩, by simpa using hall hI⟩, trivial⟩ fun s' hb hge hos => ?_
  refine ⟨.inl ⟨.bool true, .bool true, [], rfl, ?_, ?_, ?_, ?_⟩, .of_keep hb, hos, hge.1 (.of_eq hg)⟩
  · exact fun cls => by first | rfl | wrow_none_raised | (intro cls; rfl)
  · first | exact .bool true | exact .py (.bool true)
  · first | wrow_post | rfl
  · exact fun _ => ⟨.nil, fun _ h => nomatch h⟩)
end Mine
end
theorem PySem.Challenge.cw_bz6003_01_holds : PySem.Challenge.rw_bz6003_01.Holds :=
  Mine.t
