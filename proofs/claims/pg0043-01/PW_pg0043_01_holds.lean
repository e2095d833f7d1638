import PyProof.Rows.All
import Wide.All
import OpenK.AllK
import Wide.FinOn
import KE.KEqDict
import KE.KSortTup
import PySem.Challenge.RW_pg0043_01
open PySem PySem.W PyProof.Rows PySem.Calls
set_option Elab.async false
set_option linter.unusedVariables false
set_option linter.unusedSimpArgs false
set_option maxRecDepth 100000

/-! ### MyBase -/
namespace Mine

/-! ## data and how a heap bears them -/

/-- the data that the walk speaks of -/
inductive Dt where
  | int (i : Int)
  | bool (b : Bool)
  | str (x : Str)
  | list (xs : List Dt)
  | tup (xs : List Dt)
  | dict (kvs : List (Int × Int))
  | numl (xs : List Int)
  | range (a : Int) (n : Nat)
  | comp (C : Addr) (keys : Dt)

abbrev FM := Addr → Obj → Prop

/-- the frozen part of a heap: what stands outside the places that may turn -/
def fz (h : Heap) (X : Addr → Prop) : FM := fun a o => h.get? a = some o ∧ ¬ X a

/-- an int dict's entries, told by its pairs -/
inductive EntsAre : List DictEntry → List (Int × Int) → Prop
  | nil : EntsAre [] []
  | cons {k v : Int} {t u : Tok} {es : List DictEntry} {kvs : List (Int × Int)} : EntsAre es kvs → EntsAre (⟨hashInt k, .int k t, .int v u⟩ :: es) ((k, v) :: kvs)

abbrev lstObj (vs : List Value) (n : Nat) : Obj := { cls := .type "list", data := .seq vs.toArray n }
abbrev tupObj (vs : List Value) (n : Nat) : Obj := { cls := .type "tuple", data := .seq vs.toArray n }
abbrev rngObj (a b : Int) (t u v : Tok) : Obj := { cls := .type "range", data := .fields #[.int a t, .int b u, .int 1 v] }

mutual
inductive Rep (F : FM) : Value → Dt → Prop
  | int (i : Int) (t : Tok) : Rep F (.int i t) (.int i)
  | bool (b : Bool) : Rep F (.bool b) (.bool b)
  | str (x : Str) (t : Tok) : Rep F (.str x t) (.str x)
  | list {a : Addr} {vs : List Value} {n : Nat} {xs : List Dt} : F a (lstObj vs n) → RepAll F vs xs → Rep F (.ref a) (.list xs)
  | tup {a : Addr} {vs : List Value} {n : Nat} {xs : List Dt} : F a (tupObj vs n) → RepAll F vs xs → Rep F (.ref a) (.tup xs)
  | dict {a : Addr} {es : List DictEntry} {n : Nat} {kvs : List (Int × Int)} : F a (dictOf es n) → EntsAre es kvs → (kvs.map (·.1)).Nodup → (a == sysModules) = false → Rep F (.ref a) (.dict kvs)
  | numl {a : Addr} {o : Obj} {vs : List Value} {n : Nat} {xs : List Int} : F a o → o.cls = .type "list" → o.data = .seq vs.toArray n → IntsAre vs xs → Rep F (.ref a) (.numl xs)
  | range {r : Addr} {a : Int} {n : Nat} {t u v : Tok} : F r (rngObj a (a + n) t u v) → Rep F (.ref r) (.range a n)
  | comp {x d C : Addr} {es : List DictEntry} {n : Nat} {v : Value} {keys : Dt} : F x (instObj C d) → F d (dictOf es n) → getL (Str.ofString "comp_select_list") es = some (some v) →
      getL (Str.ofString "compare") es = some none → handedIn v = true → Rep F v keys → Rep F (.ref x) (.comp C keys)
inductive RepAll (F : FM) : List Value → List Dt → Prop
  | nil : RepAll F [] []
  | cons {v : Value} {vs : List Value} {d : Dt} {ds : List Dt} : Rep F v d → RepAll F vs ds → RepAll F (v :: vs) (d :: ds)
end

mutual
theorem Rep.mono {F G : FM} (hs : ∀ a o, F a o → G a o) : ∀ {v : Value} {d : Dt}, Rep F v d → Rep G v d
  | _, _, .int i t => .int i t
  | _, _, .bool b => .bool b
  | _, _, .str x t => .str x t
  | _, _, .list h r => .list (hs _ _ h) (RepAll.mono hs r)
  | _, _, .tup h r => .tup (hs _ _ h) (RepAll.mono hs r)
  | _, _, .dict h r n m => .dict (hs _ _ h) r n m
  | _, _, .numl h a b c => .numl (hs _ _ h) a b c
  | _, _, .range h => .range (hs _ _ h)
  | _, _, .comp h1 h2 a b c r => .comp (hs _ _ h1) (hs _ _ h2) a b c (Rep.mono hs r)
theorem RepAll.mono {F G : FM} (hs : ∀ a o, F a o → G a o) : ∀ {vs : List Value} {ds : List Dt}, RepAll F vs ds → RepAll G vs ds
  | _, _, .nil => .nil
  | _, _, .cons h r => .cons (Rep.mono hs h) (RepAll.mono hs r)
end

theorem RepAll.length {F : FM} : ∀ {vs : List Value} {ds : List Dt}, RepAll F vs ds → vs.length = ds.length
  | _, _, .nil => rfl
  | _, _, .cons _ r => by simp [RepAll.length r]
theorem RepAll.append {F : FM} : ∀ {vs ws : List Value} {ds es : List Dt}, RepAll F vs ds → RepAll F ws es → RepAll F (vs ++ ws) (ds ++ es)
  | _, _, _, _, .nil, k => k
  | _, _, _, _, .cons h r, k => .cons h (RepAll.append r k)
theorem RepAll.one {F : FM} {v : Value} {d : Dt} (h : Rep F v d) : RepAll F [v] [d] := .cons h .nil
theorem RepAll.get {F : FM} : ∀ {vs : List Value} {ds : List Dt}, RepAll F vs ds → ∀ {k : Nat} {d : Dt}, ds[k]? = some d → ∃ v, vs[k]? = some v ∧ Rep F v d
  | _, _, .nil, k, d, hk => by simp at hk
  | _, _, .cons (v := v) h r, 0, d, hk => by simp at hk; subst hk; exact ⟨v, rfl, h⟩
  | _, _, .cons h r, k + 1, d, hk => by simp at hk; obtain ⟨v, hv, hr⟩ := r.get hk; exact ⟨v, by simpa using hv, hr⟩
theorem RepAll.getV {F : FM} : ∀ {vs : List Value} {ds : List Dt}, RepAll F vs ds → ∀ {k : Nat} {v : Value}, vs[k]? = some v → ∃ d, ds[k]? = some d ∧ Rep F v d
  | _, _, .nil, k, d, hk => by simp at hk
  | _, _, .cons (d := d) h r, 0, v, hk => by simp at hk; subst hk; exact ⟨d, rfl, h⟩
  | _, _, .cons h r, k + 1, v, hk => by simp at hk; obtain ⟨d, hd, hr⟩ := r.getV hk; exact ⟨d, by simpa using hd, hr⟩
theorem RepAll.ints {F : FM} : ∀ {vs : List Value} {ns : List Int}, RepAll F vs (ns.map .int) → IntsAre vs ns
  | _, [], h => by cases h; exact .nil
  | _, n :: ns, h => by
    cases h with
    | cons h r => cases h; exact .cons _ _ (RepAll.ints r)
theorem RepAll.ofInts {F : FM} : ∀ {vs : List Value} {ns : List Int}, IntsAre vs ns → RepAll F vs (ns.map .int)
  | _, _, .nil => .nil
  | _, _, .cons n t r => .cons (.int n t) (RepAll.ofInts r)

theorem Rep.handed {F : FM} {v : Value} {d : Dt} (h : Rep F v d) : handedIn v = true := by cases h <;> rfl

/-! ## keeping -/
abbrev HLe (h h' : Heap) : Prop := ∀ b o, h.get? b = some o → h'.get? b = some o
theorem HLe.refl (h : Heap) : HLe h h := fun _ _ e => e
theorem HLe.trans {a b c : Heap} (x : HLe a b) (y : HLe b c) : HLe a c := fun _ _ e => y _ _ (x _ _ e)
theorem HLe.push (h : Heap) (o : Obj) : HLe h (h.push o) := fun _ _ e => Heap.get?_push_of_some _ e

/-- every place that may turn stands in the heap -/
def Low (X : Addr → Prop) (h : Heap) : Prop := ∀ a, X a → ∃ o, h.get? a = some o
theorem Low.mono {X : Addr → Prop} {h h' : Heap} (l : Low X h) (k : HLe h h') : Low X h' := fun a ha => let ⟨o, e⟩ := l a ha; ⟨o, k _ _ e⟩
theorem Low.fresh {X : Addr → Prop} {h : Heap} (l : Low X h) {a : Addr} (ha : h.get? a = none) : ¬ X a := fun hx => by obtain ⟨o, e⟩ := l a hx; rw [ha] at e; cases e
theorem get?_size (h : Heap) : h.get? h.objs.size = none := by
  cases e : h.get? h.objs.size with
  | none => rfl
  | some o => exact absurd (Heap.lt_size e) (Nat.lt_irrefl _)
theorem Low.size {X : Addr → Prop} {h : Heap} (l : Low X h) : ¬ X h.objs.size := l.fresh (get?_size h)
theorem Low.size_of {X : Addr → Prop} {h : Heap} (l : Low X h) {a : Addr} (ha : h.objs.size ≤ a) : ¬ X a := fun hx => by
  obtain ⟨o, e⟩ := l a hx; exact absurd (Heap.lt_size e) (Nat.not_lt.mpr ha)

theorem fz_mono {h h' : Heap} {X : Addr → Prop} (k : HLe h h') : ∀ a o, fz h X a o → fz h' X a o := fun _ _ e => ⟨k _ _ e.1, e.2⟩
theorem Rep.up {h h' : Heap} {X : Addr → Prop} {v : Value} {d : Dt} (r : Rep (fz h X) v d) (k : HLe h h') : Rep (fz h' X) v d := r.mono (fz_mono k)
theorem RepAll.up {h h' : Heap} {X : Addr → Prop} {v : List Value} {d : List Dt} (r : RepAll (fz h X) v d) (k : HLe h h') : RepAll (fz h' X) v d := r.mono (fz_mono k)
/-- from one heap to a later one, the places that may turn changed to new ones -/
theorem Rep.shift {h h' : Heap} {X X' : Addr → Prop} {v : Value} {d : Dt} (r : Rep (fz h X) v d) (k : ∀ a o, h.get? a = some o → ¬ X a → h'.get? a = some o ∧ ¬ X' a) : Rep (fz h' X') v d :=
  r.mono fun a o e => k a o e.1 e.2
theorem RepAll.shift {h h' : Heap} {X X' : Addr → Prop} {v : List Value} {d : List Dt} (r : RepAll (fz h X) v d) (k : ∀ a o, h.get? a = some o → ¬ X a → h'.get? a = some o ∧ ¬ X' a) : RepAll (fz h' X') v d :=
  r.mono fun a o e => k a o e.1 e.2

theorem Keeps.hle {s s' : Shared} (k : Keeps s s') : HLe s.heap s'.heap := by obtain ⟨h', tk, rfl, hk⟩ := k; exact hk
theorem Keeps.rfl' (s : Shared) : Keeps s s := ⟨s.heap, s.toks, rfl, fun _ _ e => e⟩
theorem Keeps.trans' {a b c : Shared} (x : Keeps a b) (y : Keeps b c) : Keeps a c := by
  obtain ⟨h, t, rfl, k⟩ := x
  obtain ⟨h', t', rfl, k'⟩ := y
  exact ⟨h', t', rfl, fun _ _ e => k' _ _ (k _ _ e)⟩
theorem Keeps.mk' {s : Shared} {h : Heap} {t : Nat} (k : HLe s.heap h) : Keeps s { s with heap := h, toks := t } := ⟨h, t, rfl, k⟩

/-! ## room -/
structure Room (A : Around) (n : Nat) : Prop where
  handled : A.handled = none
  depth : A.depth + n ≤ 900
  units : A.units + 100 + 100 * n ≤ 9000
theorem Room.le {A : Around} {n m : Nat} (r : Room A n) (h : m ≤ n) : Room A m := ⟨r.handled, by have := r.depth; omega, by have := r.units; omega⟩
theorem Room.deeper {A : Around} {n : Nat} (r : Room A (n + 1)) (env : Env) : Room (A.deeper env) n := ⟨r.handled, by have := r.depth; show A.depth + 1 + n ≤ 900; omega, by have := r.units; show A.units + 3 + 100 + 100 * n ≤ 9000; omega⟩
theorem Room.lim {A : Around} {n : Nat} (r : Room A n) : A.depth < recursionLimit := by have := r.depth; show A.depth < 1000; omega
theorem Room.u {A : Around} {n : Nat} (r : Room A n) : A.units + 64 < cLine := by have := r.units; show A.units + 64 < 9900; omega
theorem Room.in1 {A : Around} {n : Nat} (r : Room A (n + 1)) : Room A.in1 n := ⟨r.handled, by have := r.depth; show A.depth + n ≤ 900; omega, by have := r.units; show A.units + 1 + 100 + 100 * n ≤ 9000; omega⟩

end Mine

/-! ### MyEv -/
namespace Mine

/-! ## the world, names, the judgements -/
structure Wrld where
  prog : Program
  w : World
  K : Frag
  mg : Str → Option Value
  mb : Str → Option Value

structure Wrld.Ok (G : Wrld) (h : Heap) : Prop where
  frag : G.K.In h
  g : h.Ns mainGlobals G.mg
  b : h.Ns builtinsNs G.mb
  bb : ∀ x : Str, x ≠ "__name__" → G.mb x = bootBuiltins x
  nolim : h.NoLimit
theorem Wrld.Ok.up {G : Wrld} {h h' : Heap} (x : G.Ok h) (k : HLe h h') : G.Ok h' := ⟨x.frag.keeps k, x.g.keeps k, x.b.keeps k, x.bb, x.nolim.keeps k⟩

abbrev Wrld.M (G : Wrld) : Model := model G.prog G.w

structure EnvOk (env : Env) : Prop where
  kind : env.scope.kind = .function
  g : env.globals = mainGlobals
  b : env.builtins = builtinsNs

def NameIs (env : Env) (h : Heap) (x : Str) (v : Value) : Prop :=
  (env.kindOf x = some .local ∧ ∃ m, h.Ns env.locals m ∧ m x = some v) ∨
  ((env.kindOf x = some .cell ∨ env.kindOf x = some .free) ∧ ∃ c, env.cells.lookup x = some c ∧ h.IsCell c (some v))
theorem NameIs.up {env : Env} {h h' : Heap} {x : Str} {v : Value} (n : NameIs env h x v) (k : HLe h h') : NameIs env h' x v := by
  rcases n with ⟨a, m, b, c⟩ | ⟨a, c, b, d⟩
  · exact .inl ⟨a, m, b.keeps k, c⟩
  · exact .inr ⟨a, c, b, d.keeps k⟩

abbrev Ctx := List (Str × Dt)

def Has (env : Env) (Γ : Ctx) (h : Heap) (X : Addr → Prop) : Prop := ∀ p ∈ Γ, ∃ v, NameIs env h p.1 v ∧ Rep (fz h X) v p.2
theorem Has.up {env : Env} {Γ : Ctx} {h h' : Heap} {X : Addr → Prop} (x : Has env Γ h X) (k : HLe h h') : Has env Γ h' X := fun p hp =>
  let ⟨v, n, r⟩ := x p hp; ⟨v, n.up k, r.up k⟩

structure Inv (G : Wrld) (env : Env) (Γ : Ctx) (h : Heap) (X : Addr → Prop) : Prop where
  ok : G.Ok h
  envok : EnvOk env
  low : Low X h
  has : Has env Γ h X
theorem Inv.up {G : Wrld} {env : Env} {Γ : Ctx} {h h' : Heap} {X : Addr → Prop} (x : Inv G env Γ h X) (k : HLe h h') : Inv G env Γ h' X := ⟨x.ok.up k, x.envok, x.low.mono k, x.has.up k⟩

/-- the expression gives the datum, and keeps all that stood -/
def Ev (G : Wrld) (A : Around) (env : Env) (Γ : Ctx) (e : Expr) (d : Dt) : Prop :=
  ∀ (s : Shared) (X : Addr → Prop) (E : Value → Shared → Prop) (Q : Value → Shared → Prop), Inv G env Γ s.heap X →
    (∀ v s', Keeps s s' → Rep (fz s'.heap X) v d → Q v s') → wpAny G.M A (eval e env) Q E s

/-- the test comes out so -/
def EvT (G : Wrld) (A : Around) (env : Env) (Γ : Ctx) (e : Expr) (b : Bool) : Prop :=
  ∀ (s : Shared) (X : Addr → Prop) (E : Value → Shared → Prop) (Q : Bool → Shared → Prop), Inv G env Γ s.heap X →
    (∀ s', Keeps s s' → Q b s') → wpAny G.M A (isTrue e env (eval e env)) Q E s

section
variable {G : Wrld} {A : Around} {env : Env} {Γ : Ctx}

theorem mem_lookup {α : Type} : ∀ {l : List (Str × α)} {x : Str} {d : α}, l.lookup x = some d → (x, d) ∈ l := PySem.mem_of_lookup

theorem ev_name {x : Str} {pos : Pos} {d : Dt} (hx : Γ.lookup x = some d) (h1 : (x == ("__debug__" : Str)) = false := by decide) (h2 : (x == ("__classdict__" : Str)) = false := by decide) :
    Ev G A env Γ (.Name x pos) d := by
  intro s X E Q I h
  obtain ⟨v, n, r⟩ := I.has _ (mem_lookup hx)
  rcases n with ⟨a, m, b, c⟩ | ⟨a | a, c, b, dd⟩
  · exact wpAny_Name (wpAny_loadName_local I.envok.kind a b c (h v s (Keeps.rfl' s) r)) h1
  · exact wpAny_Name (wpAny_loadName_cell I.envok.kind a b dd (h v s (Keeps.rfl' s) r)) h1
  · exact wpAny_Name (wpAny_loadName_free I.envok.kind a b dd (h v s (Keeps.rfl' s) r) h2) h1

theorem ev_int (i : Int) (k : Nat) (pos : Pos) : Ev G A env Γ (.Constant (.int i) k pos) (.int i) := by
  intro s X E Q I h
  exact wpAny_Constant_int (h _ _ (Keeps.mk' (HLe.refl _)) (.int _ _))

/-- what a binary operator makes of two ints -/
def BinIs (G : Wrld) (op : Operator) (a b c : Int) : Prop :=
  ∀ (A : Around) (s : Shared) (E : Value → Shared → Prop) (Q : Value → Shared → Prop) (t u : Tok), (∀ t', Q (.int c t') { s with toks := s.toks + 1 }) → wpAny G.M A (binaryOp op (.int a t) (.int b u)) Q E s

theorem ev_bin {l r : Expr} {op : Operator} {pos : Pos} {a b c : Int} (hop : BinIs G op a b c) (hl : Ev G A env Γ l (.int a)) (hr : Ev G A env Γ r (.int b)) :
    Ev G A env Γ (.BinOp l op r pos) (.int c) := by
  intro s X E Q I h
  refine wpAny_BinOp (hl s X E _ I fun v s₁ k₁ r₁ => hr s₁ X E _ (I.up (Keeps.hle k₁)) fun v' s₂ k₂ r₂ => ?_)
  cases r₁; cases r₂
  exact hop A s₂ E Q _ _ fun t' => h _ _ (Keeps.trans' k₁ (Keeps.trans' k₂ (Keeps.mk' (HLe.refl _)))) (.int _ _)

theorem bin_add (a b : Int) : BinIs G .Add a b (a + b) := fun _ _ _ _ _ _ h => add_int (h _)
theorem bin_sub (a b : Int) : BinIs G .Sub a b (a - b) := fun _ _ _ _ _ _ h => sub_int' (h _)
theorem bin_mul {a b : Int} (hm : IntMulOk a b) : BinIs G .Mult a b (a * b) := fun _ _ _ _ _ _ h => mul_int (h _) hm
theorem bin_div {a b : Int} (hb : b ≠ 0) (hd : Builtin.divisionGoesByPylong a b = false) : BinIs G .FloorDiv a b (a.fdiv b) := fun _ _ _ _ _ _ h => floordiv_int hb (h _) (.inl hd)
theorem bin_mod {a b : Int} (hb : b ≠ 0) : BinIs G .Mod a b (a.fmod b) := fun _ _ _ _ _ _ h => mod_int' hb (h _)
theorem bin_pow {a b : Int} (hn : 0 ≤ b) (hb : b ≤ 1000000) (ha : a.natAbs < 2 ^ 64) : BinIs G .Pow a b (a ^ b.toNat) := fun _ _ _ _ _ _ h => pow_int_small hn hb ha (h _)
theorem bin_shr {a b : Int} (hn : 0 ≤ b) : BinIs G .RShift a b (a.fdiv (2 ^ b.toNat)) := fun _ _ _ _ _ _ h => rshift_int hn (h _)
theorem bin_and (a b : Int) : BinIs G .BitAnd a b (Builtin.bitAnd a b) := fun _ _ _ _ _ _ h => and_int (h _)
theorem bin_xor (a b : Int) : BinIs G .BitXor a b (Builtin.bitXor a b) := fun _ _ _ _ _ _ h => xor_int (h _)

theorem ev_neg {x : Expr} {pos : Pos} {a : Int} (hx : Ev G A env Γ x (.int a)) : Ev G A env Γ (.UnaryOp .USub x pos) (.int (-a)) := by
  intro s X E Q I h
  refine wpAny_UnaryOp (hx s X E _ I fun v s₁ k₁ r₁ => ?_)
  cases r₁
  exact neg_int (h _ _ (Keeps.trans' k₁ (Keeps.mk' (HLe.refl _))) (.int _ _))
end
end Mine

/-! ### MyEv2 -/
namespace Mine

section
variable {G : Wrld} {A : Around} {env : Env} {Γ : Ctx}

/-! ## comparisons and tests -/
def CmpIs (G : Wrld) (A : Around) (op : CmpOp) (d₁ d₂ : Dt) (b : Bool) : Prop :=
  ∀ (s : Shared) (X : Addr → Prop) (E : Value → Shared → Prop) (Q : Value → Shared → Prop) (v v' : Value), Rep (fz s.heap X) v d₁ → Rep (fz s.heap X) v' d₂ →
    (∀ s', Keeps s s' → Q (.bool b) s') → wpAny G.M A (compareOp op v v') Q E s

theorem ev_cmp {l r : Expr} {op : CmpOp} {pos : Pos} {d₁ d₂ : Dt} {b : Bool} (hc : CmpIs G A op d₁ d₂ b) (hl : Ev G A env Γ l d₁) (hr : Ev G A env Γ r d₂)
    (hm : behindInMarks op r = false := by with_unfolding_all rfl) : Ev G A env Γ (.Compare l [op] [r] pos) (.bool b) := by
  intro s X E Q I h
  refine wpAny_Compare1 (hl s X E _ I fun v s₁ k₁ r₁ => hr s₁ X E _ (I.up (Keeps.hle k₁)) fun v' s₂ k₂ r₂ => ?_) hm
  exact hc s₂ X E Q v v' (r₁.up (Keeps.hle k₂)) r₂ fun s' k₃ => h _ _ (Keeps.trans' k₁ (Keeps.trans' k₂ k₃)) (.bool _)

theorem evt_cmp {l r : Expr} {op : CmpOp} {pos : Pos} {d₁ d₂ : Dt} {b : Bool} (hc : CmpIs G A op d₁ d₂ b) (hl : Ev G A env Γ l d₁) (hr : Ev G A env Γ r d₂)
    (hm : behindInMarks op r = false := by with_unfolding_all rfl) : EvT G A env Γ (.Compare l [op] [r] pos) b := by
  intro s X E Q I h
  refine wpAny_isTrue_Compare1 (hl s X E _ I fun v s₁ k₁ r₁ => hr s₁ X E _ (I.up (Keeps.hle k₁)) fun v' s₂ k₂ r₂ => ?_) hm
  exact hc s₂ X E _ v v' (r₁.up (Keeps.hle k₂)) r₂ fun s' k₃ => wpAny_truthy_bool (h _ (Keeps.trans' k₁ (Keeps.trans' k₂ k₃)))

theorem cmp_lt (a b : Int) : CmpIs G A .Lt (.int a) (.int b) (decide (a < b)) := by
  intro s X E Q v v' r₁ r₂ h; cases r₁; cases r₂; exact wpAny_lt_int (h s (Keeps.rfl' s))
theorem cmp_gt (a b : Int) : CmpIs G A .Gt (.int a) (.int b) (decide (b < a)) := by
  intro s X E Q v v' r₁ r₂ h; cases r₁; cases r₂; exact gt_int (h s (Keeps.rfl' s))
theorem cmp_ge (a b : Int) : CmpIs G A .GtE (.int a) (.int b) (decide (b ≤ a)) := by
  intro s X E Q v v' r₁ r₂ h; cases r₁; cases r₂; exact ge_int (h s (Keeps.rfl' s))
theorem cmp_eq (a b : Int) : CmpIs G A .Eq (.int a) (.int b) (a == b) := by
  intro s X E Q v v' r₁ r₂ h; cases r₁; cases r₂; exact eq_int (h s (Keeps.rfl' s))
theorem cmp_ne_str (a b : Str) : CmpIs G A .NotEq (.str a) (.str b) (!(a == b)) := by
  intro s X E Q v v' r₁ r₂ h; cases r₁; cases r₂; exact ne_str (h s (Keeps.rfl' s))

theorem Rep.isList {s : Shared} {X : Addr → Prop} {v : Value} {xs : List Dt} (r : Rep (fz s.heap X) v (.list xs)) : ∃ a vs n, v = .ref a ∧ s.heap.get? a = some (lstObj vs n) ∧ ¬ X a ∧ RepAll (fz s.heap X) vs xs := by
  cases r with
  | list h r => exact ⟨_, _, _, rfl, h.1, h.2, r⟩
theorem Rep.isTup {s : Shared} {X : Addr → Prop} {v : Value} {xs : List Dt} (r : Rep (fz s.heap X) v (.tup xs)) : ∃ a vs n, v = .ref a ∧ s.heap.get? a = some (tupObj vs n) ∧ ¬ X a ∧ RepAll (fz s.heap X) vs xs := by
  cases r with
  | tup h r => exact ⟨_, _, _, rfl, h.1, h.2, r⟩

theorem cmp_in (a : Int) (ns : List Int) : CmpIs G A .In (.int a) (.list (ns.map .int)) (ns.any (· == a)) := by
  intro s X E Q v v' r₁ r₂ h
  cases r₁
  obtain ⟨l, vs, n, rfl, hl, _, r⟩ := r₂.isList
  exact in_list_ints ⟨_, hl, rfl, _, rfl⟩ r.ints (h s (Keeps.rfl' s))
theorem cmp_notin (a : Int) (ns : List Int) : CmpIs G A .NotIn (.int a) (.list (ns.map .int)) (!(ns.any (· == a))) := by
  intro s X E Q v v' r₁ r₂ h
  cases r₁
  obtain ⟨l, vs, n, rfl, hl, _, r⟩ := r₂.isList
  exact notin_list_ints ⟨_, hl, rfl, _, rfl⟩ r.ints (h s (Keeps.rfl' s))

theorem evt_truth_int {e : Expr} {a : Int} (he : Ev G A env Γ e (.int a)) (hs : ∀ w, isTrue e env w = (do let v ← w; standAt e.pos; holding [v] (truthy v)) := by intro _; rfl) : EvT G A env Γ e (a != 0) := by
  intro s X E Q I h
  rw [hs]
  refine wpAny_bind (he s X E _ I fun v s₁ k₁ r₁ => wpAny_bind (wpAny_standAt (wpAny_holding ?_)))
  cases r₁
  exact truthy_int (h _ k₁)

theorem evt_and {x y : Expr} {pos : Pos} {a b : Bool} (hx : EvT G A env Γ x a) (hy : a = true → EvT G A env Γ y b) : EvT G A env Γ (.BoolOp .And [x, y] pos) (a && b) := by
  intro s X E Q I h
  refine isTrue_and (hx s X E _ I fun s₁ k₁ => ?_)
  cases a with
  | false => exact h _ k₁
  | true => 
    refine isTrue_and (hy rfl s₁ X E _ (I.up (Keeps.hle k₁)) fun s₂ k₂ => ?_)
    cases b with
    | false => exact h _ (Keeps.trans' k₁ k₂)
    | true => exact isTrue_and_nil (h _ (Keeps.trans' k₁ k₂))
theorem evt_or {x y : Expr} {pos : Pos} {a b : Bool} (hx : EvT G A env Γ x a) (hy : a = false → EvT G A env Γ y b) : EvT G A env Γ (.BoolOp .Or [x, y] pos) (a || b) := by
  intro s X E Q I h
  refine isTrue_or (hx s X E _ I fun s₁ k₁ => ?_)
  cases a with
  | true => exact h _ k₁
  | false => 
    refine isTrue_or (hy rfl s₁ X E _ (I.up (Keeps.hle k₁)) fun s₂ k₂ => ?_)
    cases b with
    | true => exact h _ (Keeps.trans' k₁ k₂)
    | false => exact isTrue_or_nil (h _ (Keeps.trans' k₁ k₂))

theorem ev_ifexp {t x y : Expr} {pos : Pos} {b : Bool} {d : Dt} (ht : EvT G A env Γ t b) (hx : b = true → Ev G A env Γ x d) (hy : b = false → Ev G A env Γ y d) : Ev G A env Γ (.IfExp t x y pos) d := by
  intro s X E Q I h
  refine wpAny_IfExp (ht s X E _ I fun s₁ k₁ => ?_)
  cases b with
  | true => exact hx rfl s₁ X E Q (I.up (Keeps.hle k₁)) fun v s₂ k₂ r => h v s₂ (Keeps.trans' k₁ k₂) r
  | false => exact hy rfl s₁ X E Q (I.up (Keeps.hle k₁)) fun v s₂ k₂ r => h v s₂ (Keeps.trans' k₁ k₂) r

/-! ## displays -/
def EvAll (G : Wrld) (A : Around) (env : Env) (Γ : Ctx) (es : List Expr) (ds : List Dt) : Prop :=
  ∀ (s : Shared) (X : Addr → Prop) (E : Value → Shared → Prop) (Q : List Value → Shared → Prop) (pos : Pos), Inv G env Γ s.heap X →
    (∀ vs s', Keeps s s' → RepAll (fz s'.heap X) vs ds → Q vs s') → wpAny G.M A (spliced (backTo pos (starEach es env))) Q E s
theorem evAll_nil : EvAll G A env Γ [] [] := by
  intro s X E Q pos I h
  exact spliced_nil (h _ _ (Keeps.rfl' s) .nil)
theorem evAll_cons {e : Expr} {es : List Expr} {d : Dt} {ds : List Dt} (he : Ev G A env Γ e d) (hes : EvAll G A env Γ es ds) (hs : starEach (e :: es) env = (false, eval e env) :: starEach es env := by rfl) : EvAll G A env Γ (e :: es) (d :: ds) := by
  intro s X E Q pos I h
  rw [hs]
  refine spliced_cons (he s X E _ I fun v s₁ k₁ r₁ => ?_)
  exact hes s₁ X E _ pos (I.up (Keeps.hle k₁)) fun vs s₂ k₂ r₂ => h _ _ (Keeps.trans' k₁ k₂) (.cons (r₁.up (Keeps.hle k₂)) r₂)

theorem Rep.newTup {s : Shared} {X : Addr → Prop} {vs : List Value} {ds : List Dt} (l : Low X s.heap) (r : RepAll (fz s.heap X) vs ds) : Rep (fz (s.heap.push (tupObj vs 0)) X) (.ref s.heap.objs.size) (.tup ds) :=
  .tup ⟨Heap.get?_push_size _ rfl, l.size⟩ (r.up (HLe.push _ _))
theorem Rep.newList {s : Shared} {X : Addr → Prop} {vs : List Value} {ds : List Dt} (l : Low X s.heap) (r : RepAll (fz s.heap X) vs ds) : Rep (fz (s.heap.push (lstObj vs 0)) X) (.ref s.heap.objs.size) (.list ds) :=
  .list ⟨Heap.get?_push_size _ rfl, l.size⟩ (r.up (HLe.push _ _))

theorem ev_tup {es : List Expr} {k : Nat} {pos : Pos} {ds : List Dt} (hes : EvAll G A env Γ es ds) (hn : ds.length ≤ 1000 := by simp) : Ev G A env Γ (.Tuple es k pos) (.tup ds) := by
  intro s X E Q I h
  refine Tuple_ (hes s X E _ pos I fun vs s₁ k₁ r₁ => ?_)
  refine wpAny_newObj_type (h _ _ (Keeps.trans' k₁ (Keeps.mk' (HLe.push _ _))) (Rep.newTup (I.low.mono (Keeps.hle k₁)) r₁)) ?_
  show vs.toArray.size ≤ sizeLine
  rw [List.size_toArray, r₁.length, sizeLine_eq]; omega
theorem ev_list {es : List Expr} {pos : Pos} {ds : List Dt} (hes : EvAll G A env Γ es ds) (hn : ds.length ≤ 1000 := by simp) : Ev G A env Γ (.List es pos) (.list ds) := by
  intro s X E Q I h
  refine List_ (hes s X E _ pos I fun vs s₁ k₁ r₁ => ?_)
  refine wpAny_newObj_type (h _ _ (Keeps.trans' k₁ (Keeps.mk' (HLe.push _ _))) (Rep.newList (I.low.mono (Keeps.hle k₁)) r₁)) ?_
  show vs.toArray.size ≤ sizeLine
  rw [List.size_toArray, r₁.length, sizeLine_eq]; omega

theorem ev_cat {l r : Expr} {pos : Pos} {xs ys : List Dt} (hl : Ev G A env Γ l (.list xs)) (hr : Ev G A env Γ r (.list ys)) (hn : xs.length + ys.length ≤ 1000) : Ev G A env Γ (.BinOp l .Add r pos) (.list (xs ++ ys)) := by
  intro s X E Q I h
  refine wpAny_BinOp (hl s X E _ I fun v s₁ k₁ r₁ => hr s₁ X E _ (I.up (Keeps.hle k₁)) fun v' s₂ k₂ r₂ => ?_)
  obtain ⟨a, vs, n, rfl, ha, _, ra⟩ := (r₁.up (Keeps.hle k₂)).isList
  obtain ⟨b, us, m, rfl, hb, _, rb⟩ := r₂.isList
  refine P.add_list ha hb ?_ (by simp only [List.size_toArray]; rw [ra.length, rb.length, sizeLine_eq]; omega)
  have hk := Keeps.trans' k₁ k₂
  have := Rep.newList (I.low.mono (Keeps.hle hk)) (ra.append rb)
  rw [List.append_toArray]
  exact h _ _ (Keeps.trans' hk (Keeps.mk' (HLe.push _ _))) this

/-! ## items -/
theorem ev_item {o i : Expr} {pos : Pos} {xs : List Dt} {k : Int} {d : Dt} (ho : Ev G A env Γ o (.list xs)) (hi : Ev G A env Γ i (.int k)) (h0 : 0 ≤ k) (hd : xs[k.toNat]? = some d) (hk : k < 1000)
    (hs : ∀ (l : Addr) (u : Tok), subscripted i false (.ref l) (.int k u) = operate [.ref l, .int k u] (getItem (.ref l) (.int k u)) := by intro _ _; with_unfolding_all rfl) : Ev G A env Γ (.Subscript o i pos) d := by
  intro s X E Q I h
  refine Subscript_ (ho s X E _ I fun v s₁ k₁ r₁ => hi s₁ X E _ (I.up (Keeps.hle k₁)) fun v' s₂ k₂ r₂ => ?_)
  obtain ⟨a, vs, n, rfl, ha, _, ra⟩ := (r₁.up (Keeps.hle k₂)).isList
  cases r₂
  obtain ⟨x, hx, rx⟩ := ra.get hd
  have hl : s₂.heap.IsList a vs.toArray := ⟨_, ha, rfl, _, rfl⟩
  exact tail_any hl.typeIs slot_list_getitem.lookup (wpAny_getItem_list hl h0 (by omega) (by simpa using hx) (h _ _ (Keeps.trans' k₁ k₂) rx)) (hs _ _)
theorem ev_titem {o i : Expr} {pos : Pos} {xs : List Dt} {k : Int} {d : Dt} (ho : Ev G A env Γ o (.tup xs)) (hi : Ev G A env Γ i (.int k)) (h0 : 0 ≤ k) (hd : xs[k.toNat]? = some d) (hk : k < 1000)
    (hs : ∀ (l : Addr) (u : Tok), subscripted i false (.ref l) (.int k u) = operate [.ref l, .int k u] (getItem (.ref l) (.int k u)) := by intro _ _; with_unfolding_all rfl) : Ev G A env Γ (.Subscript o i pos) d := by
  intro s X E Q I h
  refine Subscript_ (ho s X E _ I fun v s₁ k₁ r₁ => hi s₁ X E _ (I.up (Keeps.hle k₁)) fun v' s₂ k₂ r₂ => ?_)
  obtain ⟨a, vs, n, rfl, ha, _, ra⟩ := (r₁.up (Keeps.hle k₂)).isTup
  cases r₂
  obtain ⟨x, hx, rx⟩ := ra.get hd
  have hlt : k.toNat < vs.length := (List.getElem?_eq_some_iff.mp hx).1
  refine item_tupleT (l := vs) (j := k.toNat) ⟨_, ha, rfl, _, rfl⟩ (by omega) (by omega) ?_ hx (h _ _ (Keeps.trans' k₁ k₂) rx) (hs _ _)
  unfold seqIndex?
  have h1 : ¬ k < 0 := by omega
  have h2 : k < (vs.length : Int) := by omega
  simp [h1, h0, h2]
end
end Mine

/-! ### MyCalls -/
namespace Mine

/-! ## names of the top and of the built-ins; calls -/
def GlobIs (G : Wrld) (x : Str) (v : Value) : Prop :=
  nsIn G.K mainGlobals x = some (some v) ∨ (nsIn G.K mainGlobals x = some none ∧ bootBuiltins x = some v ∧ x ≠ "__name__")

def Callable (G : Wrld) (f : Value) : Prop := (∃ id, f = .builtin id) ∨ (∃ T, f = .type T) ∨ keepIn G.K f = true

def CallIs (G : Wrld) (A : Around) (f : Value) (ds : List Dt) (d : Dt) : Prop :=
  ∀ (s : Shared) (X : Addr → Prop) (E : Value → Shared → Prop) (Q : Value → Shared → Prop) (vs : List Value), G.Ok s.heap → Low X s.heap → RepAll (fz s.heap X) vs ds →
    (∀ v s', Keeps s s' → Rep (fz s'.heap X) v d → Q v s') → wpAny G.M A (call f vs) Q E s

section
variable {G : Wrld} {A : Around} {env : Env} {Γ : Ctx}

theorem eval_glob {s : Shared} {X : Addr → Prop} {E : Value → Shared → Prop} {x : Str} {pos : Pos} {v : Value} {Q : Value → Shared → Prop} (I : Inv G env Γ s.heap X) (hg : GlobIs G x v) (hk : env.kindOf x = some .globalImplicit)
    (h : Q v s) (hd : (x == ("__debug__" : Str)) = false := by decide) : wpAny G.M A (eval (.Name x pos) env) Q E s := by
  have e1 : s.heap.Ns env.globals G.mg := by rw [I.envok.g]; exact I.ok.g
  have e2 : s.heap.Ns env.builtins G.mb := by rw [I.envok.b]; exact I.ok.b
  rcases hg with hg | ⟨hn, hb, hne⟩
  · exact Name_function_global I.envok.kind hk (loadGlobal_global e1 (mg_of I.ok.frag I.ok.g hg) h) hd
  · exact Name_function_global I.envok.kind hk (loadGlobal_builtin e1 (mg_none_of I.ok.frag I.ok.g hn) e2 ((I.ok.bb x hne).trans hb) h) hd

theorem callWith_any {s : Shared} {X : Addr → Prop} {E : Value → Shared → Prop} {Q : Value → Shared → Prop} {pos : Pos} {f : Value} {first : List Value} {e : Expr} {rest : List Expr} {ds : List Dt} (hf : Callable G f) (I : Inv G env Γ s.heap X)
    (ha : EvAll G A env Γ (e :: rest) ds) (h : ∀ vs s', Keeps s s' → RepAll (fz s'.heap X) vs ds → wpAny G.M A (call f (first ++ vs)) Q E s')
    (he : starEach (e :: rest) env = (false, eval e env) :: starEach rest env := by rfl) (hplain : (backTo pos (starEach rest env)).any (·.1) = false := by rfl) :
    wpAny G.M A (callWith pos f first (backTo pos (starEach (e :: rest) env)) []) Q E s := by
  have ha' := ha s X E (fun vs s' => G.K.In s'.heap ∧ wpAny G.M A (call f (first ++ vs)) Q E s') pos I fun vs s' k r => ⟨I.ok.frag.keeps (Keeps.hle k), h vs s' k r⟩
  have hany : ((false, eval e env) :: backTo pos (starEach rest env)).any (·.1) = false := by show (false || (backTo pos (starEach rest env)).any (·.1)) = false; rw [hplain]; rfl
  rw [he] at ha' ⊢
  rcases hf with ⟨id, rfl⟩ | ⟨T, rfl⟩ | hk
  · exact Calls.callWith_builtin hany (Calls.evalArgs_plain (wpAny_mono ha' (fun vs s' x => x.2) fun _ _ x => x))
  · exact PyProof.Rows.callWith_type hany (Calls.evalArgs_plain (wpAny_mono ha' (fun vs s' x => x.2) fun _ _ x => x))
  · exact callWith_of (P := G.K.In) (by
      have : (((false, eval e env) :: backTo pos (starEach rest env)).any fun x => x.1) = false := hany
      show ((((false, eval e env) :: backTo pos (starEach rest env)).any fun x => x.1) || _) = false
      rw [this]; rfl) (keeps_K hk) (Calls.evalArgs_plain ha')

theorem ev_call {x : Str} {p pos : Pos} {e : Expr} {rest : List Expr} {f : Value} {ds : List Dt} {d : Dt} (hg : GlobIs G x f) (hf : Callable G f) (hk : env.kindOf x = some .globalImplicit) (ha : EvAll G A env Γ (e :: rest) ds) (hc : CallIs G A f ds d)
    (hd : (x == ("__debug__" : Str)) = false := by decide)
    (he : starEach (e :: rest) env = (false, eval e env) :: starEach rest env := by rfl) (hplain : (backTo pos (starEach rest env)).any (·.1) = false := by rfl) : Ev G A env Γ (.Call (.Name x p) (e :: rest) [] pos) d := by
  intro s X E Q I h
  refine PyProof.Rows.Call_Name rfl (eval_glob I hg hk ?_ hd)
  exact callWith_any hf I ha (fun vs s' k r => hc s' X E Q _ (I.ok.up (Keeps.hle k)) (I.low.mono (Keeps.hle k)) r fun v s'' k' r' => h v s'' (Keeps.trans' k k') r') he hplain
end

/-! ## sources of a loop -/
/-- what an iteration over the datum gives, one after the other -/
def Dt.items : Dt → Option (List Dt)
  | .list xs => some xs
  | .numl xs => some (xs.map .int)
  | .range a n => some ((List.range n).map fun (i : Nat) => Dt.int (a + (i : Int)))
  | _ => none
def Dt.srcOk : Dt → Prop
  | .range a n => -(2 ^ 62) ≤ a ∧ a + n < 2 ^ 62
  | _ => True

section
variable {G : Wrld} {A : Around}

/-- an iterator over xs stands at I, i of them taken; what it reads lies in fp, what it turns is I -/
structure ItAt (G : Wrld) (A : Around) (X : Addr → Prop) (s₀ : Heap) (I : Addr) (fp : List Addr) (xs : List Dt) (P : Nat → Value → Prop) (St : Nat → Heap → Prop) (h : Heap) : Prop where
  w : Walks G.prog G.w A I fp [I] xs.length P St
  st : St 0 h
  fresh : s₀.get? I = none
  mem : I ∈ fp
  live : ∀ i h, St i h → ∃ o, h.get? I = some o
  kind : ∀ i h, St i h → ∃ o, h.get? I = some o ∧ (o.cls = .type "list_iterator" ∨ o.cls = .type "range_iterator")
  old : ∀ b ∈ fp, b ≠ I → (∃ o, s₀.get? b = some o) ∧ ¬ X b
  rep : ∀ i v, P i v → ∃ d, xs[i]? = some d ∧ Rep (fz s₀ X) v d

theorem letGo_quiet {s : Shared} {E : Value → Shared → Prop} {target : Expr} {I : Addr} {v : Value} {Q : Unit → Shared → Prop} {o : Obj} (ho : s.heap.get? I = some o) (hc : o.cls = .type "list_iterator" ∨ o.cls = .type "range_iterator") (h : Q () s) :
    wpAny G.M A (letOwnedTupleGo target (.ref I) v) Q E s := by
  have core : ∀ a, wpAny G.M A (do
      let o ← load I
      match o.cls, o.data with
      | .type n, .fields vs =>
        if ["enumerate", "zip", "dict_itemiterator", "dict_reverseitemiterator", "odict_iterator", "itertools.zip_longest", "itertools.pairwise"].contains n && vs[0]? == some (rawInt a) then
          rule "for.unpacks-the-owned-tuple"
          updateField I 0 .none
      | _, _ => pure ()) Q E s := fun a => by
    refine wpAny_bind (wpAny_load ho ?_)
    obtain ⟨cl, dd, dt, sl⟩ := o
    rcases hc with hc | hc <;> (dsimp only at hc; subst hc; cases dt <;> first | exact wpAny_pure h | (dsimp only; rw [if_neg (by simp)]; exact wpAny_pure h))
  unfold letOwnedTupleGo
  cases target <;> first | exact wpAny_pure h | (cases v <;> first | exact wpAny_pure h | exact core _)

theorem itAt_list {s : Shared} {X : Addr → Prop} {a : Addr} {o : Obj} {vs : List Value} {n : Nat} {xs : List Dt} (hh : A.handled = none) (ho : s.heap.get? a = some o) (hX : ¬ X a) (hc : o.cls = .type "list") (hd : o.data = .seq vs.toArray n) (r : RepAll (fz s.heap X) vs xs) :
    ItAt G A X s.heap s.heap.objs.size [s.heap.objs.size, a] xs (fun i v => vs.toArray[i]? = some v) (fun i h => h.IsListIter s.heap.objs.size a i ∧ h.IsList a vs.toArray)
      (s.heap.push { cls := .type "list_iterator", data := .fields #[.ref a, .int 0 0] }) := by
  have hl : s.heap.IsList a vs.toArray := ⟨_, ho, hc, _, hd⟩
  have ne : a ≠ s.heap.objs.size := Nat.ne_of_lt (Heap.lt_size ho)
  have W := Walks.list (prog := G.prog) (w := G.w) (A := A) hh s.heap.objs.size a ne vs.toArray
  have e : vs.toArray.size = xs.length := by rw [List.size_toArray, r.length]
  rw [e] at W
  refine ⟨W, ⟨⟨_, Heap.get?_push_size _ rfl, rfl, rfl⟩, hl.push _⟩, get?_size _, by simp, fun _ _ st => let ⟨o, ho, _⟩ := st.1; ⟨o, ho⟩, fun _ _ st => let ⟨o, ho, hc, _⟩ := st.1; ⟨o, ho, .inl hc⟩, ?_, ?_⟩
  · intro b hb hne
    simp at hb
    rcases hb with rfl | rfl
    · exact absurd rfl hne
    · exact ⟨⟨_, ho⟩, hX⟩
  · intro i v hv
    exact r.getV (by simpa using hv)

theorem itAt_range {s : Shared} {X : Addr → Prop} {a : Int} {n : Nat} (hh : A.handled = none) :
    ItAt G A X s.heap s.heap.objs.size [s.heap.objs.size] ((List.range n).map fun (i : Nat) => Dt.int (a + (i : Int))) (fun i v => i < n ∧ ∃ t, v = .int (a + i * 1) t) (fun i h => IsRangeIter h s.heap.objs.size (a + (i : Nat) * 1) ((n : Int) - (i : Nat)) 1)
      (s.heap.push { cls := .type "range_iterator", data := .fields #[rawInt a, rawInt n, rawInt 1] }) := by
  have W := (Walks.range (prog := G.prog) (w := G.w) (A := A) hh s.heap.objs.size a 1 n).bound
  have el : ((List.range n).map fun (i : Nat) => Dt.int (a + (i : Int))).length = n := by simp
  refine ⟨by rw [el]; exact W, ?_, get?_size _, by simp, fun _ _ st => ⟨_, st⟩, fun _ _ st => ⟨_, st, .inr rfl⟩, ?_, ?_⟩
  · show IsRangeIter _ _ _ _ _
    simpa using Heap.get?_push_size _ rfl
  · intro b hb hne
    simp at hb
    exact absurd hb hne
  · rintro i v ⟨hi, t', rfl⟩
    refine ⟨.int (a + i * 1), ?_, .int _ _⟩
    simp [hi]

theorem iter_src {s : Shared} {X : Addr → Prop} {E : Value → Shared → Prop} {v : Value} {d : Dt} {xs : List Dt} {Q : Value → Shared → Prop} (hh : A.handled = none) (r : Rep (fz s.heap X) v d) (hx : d.items = some xs) (ok : d.srcOk)
    (h : ∀ I fp P St s', Keeps s s' → ItAt G A X s.heap I fp xs P St s'.heap → Q (.ref I) s') : wpAny G.M A (pyIter v) Q E s := by
  cases r with
  | list hF r =>
    cases hx
    exact wpAny_pyIter_list ⟨_, hF.1, rfl, _, rfl⟩ (h _ _ _ _ _ (Keeps.mk' (HLe.push _ _)) (itAt_list hh hF.1 hF.2 rfl rfl r))
  | numl hF hc hd hi =>
    cases hx
    exact wpAny_pyIter_list ⟨_, hF.1, hc, _, hd⟩ (h _ _ _ _ _ (Keeps.mk' (HLe.push _ _)) (itAt_list hh hF.1 hF.2 hc hd (RepAll.ofInts hi)))
  | range hF =>
    cases hx
    rename_i r0 a n t u v
    have hsm : Builtin.Range.small a (a + n) 1 = true := small_one ok.1 (by have := ok.2; omega) (by have := ok.1; omega) ok.2
    have hsz : Builtin.Range.rangeSize a (a + n) 1 = (n : Int) := by rw [rangeSize_one]; split <;> omega
    refine wpAny_pyIter_range hF.1 hsm ?_
    rw [hsz]
    exact h _ _ _ _ _ (Keeps.mk' (HLe.push _ _)) (itAt_range hh)
  | _ => cases hx
end
end Mine

/-! ### MyBuilt -/
namespace Mine

theorem preSum_get (ns : List Int) : ∀ j, j ≤ ns.length → preSum (fun i => ns.getD i 0) j = (ns.take j).sum
  | 0, _ => by simp [preSum]
  | j + 1, h => by
    have hj : j < ns.length := h
    rw [preSum, preSum_get ns j (by omega), List.take_add_one, List.getElem?_eq_getElem hj, List.sum_append]
    simp [hj]

theorem keeps_but {s s' : Shared} {I : Addr} {h' : Heap} {tk : Nat} (k : Keeps s s') (fresh : s.heap.get? I = none) (hk : ∀ b o, b ∉ [I] → s'.heap.get? b = some o → h'.get? b = some o) : Keeps s { s' with heap := h', toks := tk } := by
  obtain ⟨h₁, t₁, rfl, k₁⟩ := k
  refine ⟨h', tk, rfl, fun b o e => hk b o ?_ (k₁ b o e)⟩
  intro hb
  rw [List.mem_singleton] at hb
  subst hb
  rw [fresh] at e
  cases e

section
variable {G : Wrld} {A : Around} {n : Nat}

theorem items_int {xs : List Dt} {ns : List Int} (e : xs = ns.map .int) {F : FM} {i : Nat} {v : Value} {d : Dt} (hd : xs[i]? = some d) (r : Rep F v d) : ∃ t, v = .int (ns.getD i 0) t := by
  subst e
  rw [List.getElem?_map] at hd
  cases h : ns[i]? with
  | none => rw [h] at hd; cases hd
  | some k =>
    rw [h] at hd; cases hd; cases r
    exact ⟨_, by rw [List.getD_eq_getElem?_getD, h]; rfl⟩

theorem call_sum {d : Dt} {ns : List Int} (R : Room A (n + 1)) (hx : d.items = some (ns.map .int)) (ok : d.srcOk) : CallIs G A (.builtin "sum") [d] (.int ns.sum) := by
  intro s X E Q vs o l r h
  cases r with
  | cons r r' =>
  cases r'
  refine call_sum_walkG (iter_src (G := G) R.in1.handled r hx ok fun I fp P St s' k it => ?_)
  refine ⟨I, fp, [I], _, P, St, fun i => ns.getD i 0, rfl, it.w, it.st, ?_, ?_, ?_⟩
  · intro b hb
    by_cases e : b = I
    · subst e; obtain ⟨o, ho⟩ := it.live _ _ it.st; exact Heap.lt_size ho
    · obtain ⟨⟨o, ho⟩, _⟩ := it.old b hb e; exact Heap.lt_size (Keeps.hle k _ _ ho)
  · intro i v hv
    obtain ⟨d', hd', rd⟩ := it.rep i v hv
    exact items_int rfl hd' rd
  · intro h' tk t' hk
    have e : preSum (fun i => ns.getD i 0) ((ns.map Dt.int).length) = ns.sum := by rw [List.length_map, preSum_get ns _ (Nat.le_refl _), List.take_length]
    rw [e]
    exact h _ _ (keeps_but k it.fresh hk) (.int _ _)

theorem ItAt.lt {X : Addr → Prop} {s s' : Shared} {I : Addr} {fp : List Addr} {xs : List Dt} {P : Nat → Value → Prop} {St : Nat → Heap → Prop} (it : ItAt G A X s.heap I fp xs P St s'.heap) (k : Keeps s s') : ∀ b ∈ fp, b < s'.heap.objs.size := by
  intro b hb
  by_cases e : b = I
  · subst e; obtain ⟨o, ho⟩ := it.live _ _ it.st; exact Heap.lt_size ho
  · obtain ⟨⟨o, ho⟩, _⟩ := it.old b hb e; exact Heap.lt_size (Keeps.hle k _ _ ho)

theorem call_len {xs : List Dt} (hn : xs.length ≤ 1000000) : CallIs G A (.builtin "len") [.list xs] (.int xs.length) := by
  intro s X E Q vs o l r h
  cases r with
  | cons r r' =>
  cases r'
  obtain ⟨a, vs, m, rfl, ha, _, ra⟩ := r.isList
  refine len_list ⟨_, ha, rfl, _, rfl⟩ (by rw [List.size_toArray, ra.length]; omega) ?_
  rw [List.size_toArray, ra.length]
  exact h _ _ (Keeps.mk' (HLe.refl _)) (.int _ _)

theorem call_range1 (k : Nat) : CallIs G A (.type "range") [.int k] (.range 0 k) := by
  intro s X E Q vs o l r h
  cases r with
  | cons r r' =>
  cases r'
  cases r
  rename_i t
  refine call_range_1 (h _ _ (Keeps.mk' (HLe.push _ _)) (.range (t := s.toks) (u := t) (v := s.toks + 1) ⟨?_, l.size⟩))
  rw [Int.zero_add]; exact Heap.get?_push_size _ rfl
theorem call_range2 (a : Int) (k : Nat) : CallIs G A (.type "range") [.int a, .int (a + k)] (.range a k) := by
  intro s X E Q vs o l r h
  cases r with
  | cons r r' =>
  cases r' with
  | cons r2 r' =>
  cases r'
  cases r
  cases r2
  exact call_range_2 (h _ _ (Keeps.mk' (HLe.push _ _)) (.range (t := _) (u := _) (v := s.toks) ⟨Heap.get?_push_size _ rfl, l.size⟩))

theorem call_str {a : Int} (ha : a.natAbs.log2 < 1920) : CallIs G A (.type "str") [.int a] (.str (toString a)) := by
  intro s X E Q vs o l r h
  cases r with
  | cons r r' =>
  cases r'
  cases r
  exact P.str_of_int ha (h _ _ (Keeps.mk' (HLe.refl _)) (.str _ _))

/-- the largest of the items, the first one of equals (their values alone matter) -/
def maxOf (ns : List Int) : Int := ns.getD (argBest (fun i j => decide (ns.getD i 0 > ns.getD j 0)) (ns.length - 1)) 0
theorem call_max {d : Dt} {ns : List Int} (R : Room A (n + 1)) (hx : d.items = some (ns.map .int)) (ok : d.srcOk) (h0 : 0 < ns.length) : CallIs G A (.builtin "max") [d] (.int (maxOf ns)) := by
  intro s X E Q vs o l r h
  cases r with
  | cons r r' =>
  cases r'
  refine call_max_walk (iter_src (G := G) R.in1.handled r hx ok fun I fp P St s' k it => ?_)
  have hP : ∀ i v, P i v → ∃ t, v = .int (ns.getD i 0) t := fun i v hv => by
    obtain ⟨d', hd', rd⟩ := it.rep i v hv
    exact items_int rfl hd' rd
  refine ⟨I, fp, [I], _, P, St, fun i j => decide (ns.getD i 0 > ns.getD j 0), rfl, it.w, it.st, it.lt k, by simpa using h0, ?_, ?_⟩
  · intro i j vi vj s Q E hi hj hQ
    obtain ⟨t, rfl⟩ := hP i vi hi
    obtain ⟨u, rfl⟩ := hP j vj hj
    exact gt_int (by simpa using hQ)
  · intro v h' tk hv hk
    obtain ⟨t, rfl⟩ := hP _ v hv
    rw [List.length_map]
    exact h _ _ (keeps_but k it.fresh hk) (.int _ _)

theorem call_max2 (a b : Int) (hh : A.handled = none) : CallIs G A (.builtin "max") [.int a, .int b] (.int (if b > a then b else a)) := by
  intro s X E Q vs o l r h
  cases r with
  | cons r r' =>
  cases r' with
  | cons r2 r' =>
  cases r'
  cases r
  cases r2
  refine max_two_ints hh fun h' tk hk => ?_
  split
  · rename_i c; exact h _ _ (Keeps.mk' hk) (by rw [if_pos c]; exact .int _ _)
  · rename_i c; exact h _ _ (Keeps.mk' hk) (by rw [if_neg c]; exact .int _ _)
theorem call_min2 (a b : Int) (hh : A.handled = none) : CallIs G A (.builtin "min") [.int a, .int b] (.int (if b < a then b else a)) := by
  intro s X E Q vs o l r h
  cases r with
  | cons r r' =>
  cases r' with
  | cons r2 r' =>
  cases r'
  cases r
  cases r2
  refine min_two_ints hh fun h' tk hk => ?_
  split
  · rename_i c; exact h _ _ (Keeps.mk' hk) (by rw [if_pos c]; exact .int _ _)
  · rename_i c; exact h _ _ (Keeps.mk' hk) (by rw [if_neg c]; exact .int _ _)
end

/-! ## a stepped slice of ints -/
theorem IntsAre.getElem {vs : List Value} {ns : List Int} (h : IntsAre vs ns) : ∀ i : Nat, (vs[i]? = none ∧ ns[i]? = none) ∨ ∃ n t, vs[i]? = some (.int n t) ∧ ns[i]? = some n := by
  induction h with
  | nil => intro i; simp
  | cons n t _ ih =>
    intro i
    cases i with
    | zero => exact .inr ⟨n, t, by simp, by simp⟩
    | succ i => simpa using ih i
theorem IntsAre.picked {vs : List Value} {ns : List Int} (h : IntsAre vs ns) : ∀ idx : List Nat, IntsAre (idx.filterMap (vs[·]?)) (idx.filterMap (ns[·]?))
  | [] => .nil
  | i :: r => by
    rcases IntsAre.getElem h i with ⟨a, b⟩ | ⟨n, t, a, b⟩
    · simp only [List.filterMap_cons, a, b]; exact IntsAre.picked h r
    · simp only [List.filterMap_cons, a, b]; exact .cons _ _ (IntsAre.picked h r)

def sliceInts (ns : List Int) (lo st : Int) : List Int :=
  (sliceRange (sliceBounds (some lo) none (some st) ns.length).1 (sliceBounds (some lo) none (some st) ns.length).2.1 (sliceBounds (some lo) none (some st) ns.length).2.2).filterMap (ns[·]?)

section
variable {G : Wrld} {A : Around} {env : Env} {Γ : Ctx}
theorem ev_slice {o k st : Expr} {p pos : Pos} {ns : List Int} {a c : Int} (ho : Ev G A env Γ o (.numl ns)) (hk : Ev G A env Γ k (.int a)) (hst : Ev G A env Γ st (.int c)) (hc : c ≠ 0) (hn : ns.length ≤ 1000000)
    (ht : ∀ v r, letTemporaryGo o v r = pure () := by intro _ _; rfl) : Ev G A env Γ (.Subscript o (.Slice (some k) none (some st) p) pos) (.list ((sliceInts ns a c).map .int)) := by
  intro s X E Q I h
  refine wpAny_Subscript_Slice_step (T := "list") list_getitem_lookup (ho s X E _ I fun v s₁ k₁ r₁ => ?_) ht
  refine wpAny_Slice ?_
  rw [evalPart_some, evalPart_none, evalPart_some]
  refine hk s₁ X E _ (I.up (Keeps.hle k₁)) fun v₂ s₂ k₂ r₂ => wpAny_pure ?_
  refine hst s₂ X E _ (I.up (Keeps.hle (Keeps.trans' k₁ k₂))) fun v₃ s₃ k₃ r₃ => ?_
  have kk := Keeps.trans' k₁ (Keeps.trans' k₂ k₃)
  have r₁' := r₁.up (Keeps.hle (Keeps.trans' k₂ k₃))
  cases r₁' with
  | numl hF hcl hd hi =>
  rename_i al ol vs m
  cases r₂
  cases r₃
  rename_i t₂ t₃
  have hl : s₃.heap.IsList al vs.toArray := ⟨_, hF.1, hcl, _, hd⟩
  have hl' := hl.push { cls := .type "slice", data := .fields #[.int a t₂, .none, .int c t₃] }
  refine ⟨hl'.typeIs, wpAny_getItem_list_slice hl' (Heap.IsSliceOf.new ..) (.int _ _) .none (.int _ _) (by simpa using hc) ?_ (by rw [List.size_toArray, hi.length, sizeLine_eq]; omega)⟩
  have e : slicePick vs.toArray (some a) none (some c) = ((sliceRange (sliceBounds (some a) none (some c) ns.length).1 (sliceBounds (some a) none (some c) ns.length).2.1 (sliceBounds (some a) none (some c) ns.length).2.2).filterMap (vs[·]?)).toArray := by
    unfold slicePick
    simp only [List.size_toArray, hi.length, List.getElem?_toArray]
  rw [e]
  refine h _ _ (Keeps.trans' kk (Keeps.mk' (HLe.trans (HLe.push _ _) (HLe.push _ _)))) ?_
  exact .list ⟨Heap.get?_push_size _ rfl, ((I.low.mono (Keeps.hle kk)).mono (HLe.push _ _)).size⟩ (RepAll.ofInts (IntsAre.picked hi _))

/-! ## methods of a list that only look -/
theorem ev_meth1 {o e : Expr} {name : Str} {apos pos : Pos} {id : String} {xs : List Dt} {d₂ d : Dt} (ho : Ev G A env Γ o (.list xs)) (he : Ev G A env Γ e d₂) (hc : CallIs G A (.builtin id) [.list xs, d₂] d)
    (slot : Slot "list" name id) (hty : typeOf (.builtin id) = pure (.type "method_descriptor"))
    (hbase : attributeBase o name env (eval o env) = eval o env := by rfl) (hs : starEach [e] env = [(false, eval e env)] := by rfl) (hline : (apos.endLine == pos.line) = true := by rfl) :
    Ev G A env Γ (.Call (.Attribute o name apos) [e] [] pos) d := by
  intro s X E Q I h
  refine Call_method1 hbase hs hline (ho s X E _ I fun v s₁ k₁ r₁ => ?_)
  obtain ⟨a, vs, n, rfl, ha, hX, ra⟩ := r₁.isList
  refine ⟨"list", id, PySem.F.plainAttrs_list, slot, hty, ⟨_, ha, rfl⟩, fun b e => by cases e; exact ⟨_, ha, rfl⟩, ?_⟩
  refine Calls.callWith_builtin rfl (Calls.evalArgs_plain (Calls.spliced_cons (he s₁ X E _ (I.up (Keeps.hle k₁)) fun v₂ s₂ k₂ r₂ => Calls.spliced_nil ?_)))
  have kk := Keeps.trans' k₁ k₂
  exact hc s₂ X E Q [.ref a, v₂] (I.ok.up (Keeps.hle kk)) (I.low.mono (Keeps.hle kk)) (.cons (r₁.up (Keeps.hle k₂)) (.cons r₂ .nil)) fun v' s' k' r' => h v' s' (Keeps.trans' kk k') r'

theorem call_count (ns : List Int) (a : Int) : CallIs G A (.builtin "list.count") [.list (ns.map .int), .int a] (.int (ns.count a)) := by
  intro s X E Q vs o l r h
  cases r with
  | cons r r' =>
  cases r' with
  | cons r2 r' =>
  cases r'
  cases r2
  obtain ⟨b, us, m, rfl, hb, _, rb⟩ := r.isList
  exact count_list_ints ⟨_, hb, rfl, _, rfl⟩ rb.ints (h _ _ (Keeps.mk' (HLe.refl _)) (.int _ _))

theorem isInt_at {vs : List Value} {ns : List Int} (hi : IntsAre vs ns) (k : Int) {m : Nat} (hm : m < vs.length) (hn : m < ns.length) : isInt k vs[m] = (ns[m] == k) := by
  rcases IntsAre.getElem hi m with ⟨a, _⟩ | ⟨n, t, a, b⟩
  · rw [List.getElem?_eq_getElem hm] at a; cases a
  · rw [List.getElem?_eq_getElem hm] at a
    rw [List.getElem?_eq_getElem hn] at b
    injection a with a
    injection b with b
    rw [a, b]; rfl

theorem call_index {ns : List Int} {a : Int} (ha : a ∈ ns) (hn : ns.length ≤ 1000000) : CallIs G A (.builtin "list.index") [.list (ns.map .int), .int a] (.int (ns.idxOf a)) := by
  intro s X E Q vs o l r h
  cases r with
  | cons r r' =>
  cases r' with
  | cons r2 r' =>
  cases r'
  cases r2
  rename_i tk
  obtain ⟨b, us, m, rfl, hb, _, rb⟩ := r.isList
  have hi := rb.ints
  have hlen := hi.length
  have hj : ns.idxOf a < ns.length := List.idxOf_lt_length_iff.mpr ha
  refine call_meets PySem.F.slot_list_index ⟨_, hb, rfl⟩ PySem.F.entry_list_index (PySem.F.args_list_index_2 _ _)
    (SeqAt.list_indexAt b us.toArray m none #[] (.int a tk) (isInt a) (ns.idxOf a) (by simpa [hlen] using hj) (by omega) ?_ ?_) ⟨hb, fun y hy => (eq_isInt a tk hi y (by simpa using hy)).at _ _, h _ _ (Keeps.mk' (HLe.refl _)) (.int _ _)⟩
  · rw [List.getElem_toArray, isInt_at hi a (by omega) hj]
    simp
  · intro q hq hqj
    have hq' : q < us.length := by simpa using hq
    rw [List.getElem_toArray, isInt_at hi a hq' (by omega)]
    have := List.not_of_lt_findIdx (p := (· == a)) (xs := ns) (i := q) (by simpa [List.idxOf] using hqj)
    simpa using this
end
end Mine

/-! ### MyComp -/
namespace Mine

/-- the tests of a comprehension, together -/
def EvTs (G : Wrld) (A : Around) (env : Env) (Γ : Ctx) (ifs : List Expr) (b : Bool) : Prop :=
  ∀ (s : Shared) (X : Addr → Prop) (E : Value → Shared → Prop) (Q : Bool → Shared → Prop), Inv G env Γ s.heap X →
    (∀ s', Keeps s s' → Q b s') → wpAny G.M A (forIn ifs true fun c r => if r = true then do let ok ← isTrue c env (eval c env); pure (ForInStep.yield ok) else pure (ForInStep.yield r)) Q E s
section
variable {G : Wrld} {A : Around} {env : Env} {Γ : Ctx}
theorem evTs_nil : EvTs G A env Γ [] true := fun s _ _ _ _ h => wpAny_tests_nil (h s (Keeps.rfl' s))
theorem evTs_one {c : Expr} {b : Bool} (hc : EvT G A env Γ c b) : EvTs G A env Γ [c] b := fun s X E Q I h => wpAny_tests_one (hc s X E Q I h)
end

/-- how an item is bound: the places O alone turn (new things may come) -/
structure BindsBy (G : Wrld) (A : Around) (env : Env) (target : Expr) (O : List Addr) (Fr : Heap → Prop) (xs : List Dt) (Γb : Dt → Ctx) : Prop where
  keep : ∀ h h', Fr h → (∀ b ∈ O, ∀ o, h.get? b = some o → h'.get? b = some o) → Fr h'
  live : ∀ h, Fr h → ∀ b ∈ O, ∃ o, h.get? b = some o
  bind : ∀ (s : Shared) (X : Addr → Prop) (E : Value → Shared → Prop) (Q : Unit → Shared → Prop) (v : Value) (d : Dt), d ∈ xs → (∀ b ∈ O, X b) → Rep (fz s.heap X) v d → Fr s.heap →
    (∀ h' tk, (∀ b o, b ∉ O → s.heap.get? b = some o → h'.get? b = some o) → Fr h' → Has env (Γb d) h' X → Q () { s with heap := h', toks := tk }) → wpAny G.M A (assign target env v) Q E s

def XO (X : Addr → Prop) (I D : Addr) (O : List Addr) : Addr → Prop := fun a => X a ∨ a = I ∨ a = D ∨ a ∈ O

section
variable {G : Wrld} {A : Around} {R : Result → Shared → Prop}

/-- the block's loop, whatever its target -/
theorem comp_turns {s : Shared} {elt target iter : Expr} {ifs : List Expr} {scope : Scope} {pos : Pos} {it acc : Value} {env : Env} (J : Nat → Shared → Prop)
    (turn : ∀ n s, J n s → wpAny G.M A (pyNext it) (fun r s₁ => match r with
      | none => R (.ok .next) s₁
      | some v => wpAny G.M A (letOwnedTupleGo target it v) (fun _ s₁' => wpAny G.M A (assign target env v) (fun _ s₂ =>
          wpAny G.M A (forIn ifs true fun c r => if r = true then do let ok ← isTrue c env (eval c env); pure (ForInStep.yield ok) else pure (ForInStep.yield r)) (fun ok s₃ =>
            if ok = true then wpAny G.M A (eval elt env) (fun x s₄ =>
              wpAny G.M A (call (.builtin "list.append") [acc, x]) (fun _ s₅ => ∃ m, m < n ∧ J m s₅) (notedBy G.M A env fun e s' => R (.error e) s') s₄) (notedBy G.M A env fun e s' => R (.error e) s') s₃
            else ∃ m, m < n ∧ J m s₃) (notedBy G.M A env fun e s' => R (.error e) s') s₂) (notedBy G.M A env fun e s' => R (.error e) s') s₁') (notedBy G.M A env fun e s' => R (.error e) s') s₁) (notedBy G.M A env fun e s' => R (.error e) s') s)
    (n : Nat) (h : J n s) : codeAny G.M A (.compLoop (.ListComp elt [⟨target, iter, ifs, 0⟩] scope pos) 0 it acc env) R s := by
  refine codeAny_loop rfl J (fun n s hJ => ?_) n h
  show wpAny _ A ((compTurn (.ListComp elt [⟨target, iter, ifs, 0⟩] scope pos) 0 it acc env).onRaise (fun x => do noteFrame x env; theTreesLotGoes x)) _ _ s
  refine wpAny_noted ?_
  rw [compTurn_list]
  refine wpAny_bind (wpAny_standAt (wpAny_bind (wpAny_mono (turn n s hJ) (fun r s₁ h₁ => ?_) fun _ _ h' => h')))
  cases r with
  | none => exact wpAny_pure h₁
  | some v =>
    refine wpAny_bind (wpAny_mono h₁ (fun _ s₁' h₁' => wpAny_bind (wpAny_mono h₁' (fun _ s₂ h₂ => wpAny_bind (wpAny_mono h₂ (fun ok s₃ h₃ => ?_) fun _ _ h' => h')) fun _ _ h' => h')) fun _ _ h' => h')
    cases ok with
    | false => exact wpAny_pure ⟨rfl, h₃⟩
    | true => exact wpAny_bind (wpAny_bind (wpAny_mono h₃ (fun x s₄ h₄ => wpAny_bind (wpAny_mono h₄ (fun _ s₅ h₅ => wpAny_pure (wpAny_pure ⟨rfl, h₅⟩)) fun _ _ h' => h')) fun _ _ h' => h'))

theorem comp_loop {s : Shared} {h0 : Heap} {X : Addr → Prop} {elt iter target : Expr} {ifs : List Expr} {scope : Scope} {pos : Pos} {I D : Addr} {O : List Addr} {fp : List Addr} {xs : List Dt} {P : Nat → Value → Prop} {St : Nat → Heap → Prop} {env : Env}
    {Fr : Heap → Prop} {Γb : Dt → Ctx} {Γ : Ctx} (p : Dt → Bool) (f : Dt → Dt)
    (it : ItAt G A X h0 I fp xs P St s.heap) (B : BindsBy G A env target O Fr xs Γb) (ok : G.Ok h0) (hk : EnvOk env) (low : Low X h0) (has : Has env Γ h0 X)
    (k0 : HLe h0 s.heap) (hD : s.heap.PlainList D #[]) (hDf : h0.get? D = none) (hOf : ∀ b ∈ O, h0.get? b = none) (hDI : D ≠ I) (hDO : D ∉ O) (hIO : I ∉ O) (hFr : Fr s.heap) (hsz : xs.length ≤ 1000000)
    (htest : ∀ d, d ∈ xs → EvTs G A env (Γb d ++ Γ) ifs (p d)) (helt : ∀ d, d ∈ xs → p d = true → Ev G A env (Γb d ++ Γ) elt (f d))
    (hR : ∀ h' tk ys, HLe h0 h' → h'.PlainList D ys.toArray → Fr h' → RepAll (fz h' (XO X I D O)) ys ((xs.filter p).map f) → R (.ok .next) { s with heap := h', toks := tk }) :
    codeAny G.M A (.compLoop (.ListComp elt [⟨target, iter, ifs, 0⟩] scope pos) 0 (.ref I) (.ref D) env) R s := by
  have hfpO : ∀ b ∈ fp, b ∉ O := fun b hb hO => by
    by_cases e : b = I
    · exact hIO (e ▸ hO)
    · obtain ⟨⟨o, ho⟩, _⟩ := it.old b hb e; rw [hOf b hO] at ho; cases ho
  have hfpD : ∀ b ∈ fp, b ≠ D := fun b hb e => by
    subst e
    obtain ⟨⟨o, ho⟩, _⟩ := it.old b hb hDI; rw [hDf] at ho; cases ho
  have h0X : ∀ a o, h0.get? a = some o → ¬ X a → ¬ XO X I D O a := fun a o e hx hx' => by
    rcases hx' with h | rfl | rfl | h
    · exact hx h
    · rw [it.fresh] at e; cases e
    · rw [hDf] at e; cases e
    · rw [hOf a h] at e; cases e
  refine comp_turns
    (fun k s' => ∃ h' tk i ys, s' = { s with heap := h', toks := tk } ∧ i ≤ xs.length ∧ k = xs.length + 1 - i ∧ St i h' ∧ HLe h0 h' ∧ h'.PlainList D ys.toArray ∧ Fr h' ∧ RepAll (fz h' (XO X I D O)) ys (((xs.take i).filter p).map f)) ?_
    (xs.length + 1) ⟨s.heap, s.toks, 0, [], rfl, Nat.zero_le _, rfl, it.st, k0, hD, hFr, by simpa using RepAll.nil⟩
  rintro k s' ⟨h, tk, i, ys, rfl, hi, rfl, hst, hk0, hacc, hfr, hys⟩
  by_cases hlt : i < xs.length
  · refine it.w.item i _ _ _ hlt hst fun v h₁ tk₁ hPv hst₁ hk₁ => ?_
    obtain ⟨d, hd, rd⟩ := it.rep i v hPv
    have hmem : d ∈ xs := List.mem_of_getElem? hd
    have hk01 : HLe h0 h₁ := fun b o e => hk₁ b o (by intro hb; rw [List.mem_singleton] at hb; subst hb; rw [it.fresh] at e; cases e) (hk0 b o e)
    have hfr₁ : Fr h₁ := B.keep _ _ hfr fun b hb o e => hk₁ b o (by intro hb'; rw [List.mem_singleton] at hb'; exact hIO (hb' ▸ hb)) e
    have rd₁ : Rep (fz h₁ (XO X I D O)) v d := rd.shift fun a o e hx => ⟨hk01 a o e, h0X a o e hx⟩
    obtain ⟨oI, hoI, hcI⟩ := it.kind _ _ hst₁
    refine letGo_quiet hoI hcI ?_
    refine B.bind _ (XO X I D O) _ _ v d hmem (fun b hb => .inr (.inr (.inr hb))) rd₁ hfr₁ fun h₂ tk₂ hk₂ hfr₂ hb₂ => ?_
    have hk02 : HLe h0 h₂ := fun b o e => hk₂ b o (fun hb => by rw [hOf b hb] at e; cases e) (hk01 b o e)
    have hst₂ : St (i + 1) h₂ := it.w.frame _ _ _ hst₁ fun b hb o e => hk₂ b o (hfpO b hb) e
    have hacc₂ : h₂.PlainList D ys.toArray := hacc.at fun o e => hk₂ _ o hDO (hk₁ _ o (by simpa using hDI) e)
    have low₂ : Low (XO X I D O) h₂ := fun a ha => by
      rcases ha with h | rfl | rfl | h
      · obtain ⟨o, ho⟩ := low a h; exact ⟨o, hk02 _ _ ho⟩
      · exact it.live _ _ hst₂
      · obtain ⟨n, e⟩ := hacc₂; exact ⟨_, e⟩
      · exact B.live _ hfr₂ a h
    have inv : Inv G env (Γb d ++ Γ) h₂ (XO X I D O) := ⟨ok.up hk02, hk, low₂, fun q hq => by
      rcases List.mem_append.mp hq with hq | hq
      · exact hb₂ q hq
      · obtain ⟨u, n, r⟩ := has q hq
        exact ⟨u, n.up hk02, r.shift fun a o e hx => ⟨hk02 a o e, h0X a o e hx⟩⟩⟩
    have ys₂ : RepAll (fz h₂ (XO X I D O)) ys (((xs.take i).filter p).map f) := hys.shift fun a o e hx =>
      ⟨hk₂ a o (fun hO => hx (.inr (.inr (.inr hO)))) (hk₁ a o (by intro hb; rw [List.mem_singleton] at hb; exact hx (.inr (.inl hb))) e), hx⟩
    have etake : ((xs.take (i + 1)).filter p).map f = ((xs.take i).filter p).map f ++ (if p d then [f d] else []) := by
      rw [take_succ_filter p xs i d hd, List.map_append]; split <;> simp
    refine htest d hmem _ (XO X I D O) _ _ inv fun s₃ k₃ => ?_
    obtain ⟨h₃, tk₃, rfl, hk₃⟩ := k₃
    have hst₃ : St (i + 1) h₃ := it.w.frame _ _ _ hst₂ fun b _ o e => hk₃ b o e
    cases hp : p d with
    | false =>
      simp only [Bool.false_eq_true, if_false]
      refine ⟨xs.length + 1 - (i + 1), by omega, h₃, tk₃, i + 1, ys, rfl, hlt, rfl, hst₃, HLe.trans hk02 hk₃, hacc₂.at fun o e => hk₃ _ o e, B.keep _ _ hfr₂ fun b _ o e => hk₃ b o e, ?_⟩
      rw [etake, hp]
      simpa using ys₂.up hk₃
    | true =>
      simp only [if_true]
      refine helt d hmem hp _ (XO X I D O) _ _ (inv.up hk₃) fun y s₄ k₄ r₄ => ?_
      obtain ⟨h₄, tk₄, rfl, hk₄⟩ := k₄
      have hacc₄ : h₄.PlainList D ys.toArray := hacc₂.at fun o e => hk₄ _ o (hk₃ _ o e)
      refine wpAny_list_append_plain hacc₄ (fun h₅ hacc₅ hs₅ => ?_) (by rw [List.size_toArray, ys₂.length, sizeLine_eq, List.length_map]; exact Nat.le_trans (List.length_filter_le _ _) (by rw [List.length_take]; omega))
      refine ⟨xs.length + 1 - (i + 1), by omega, h₅, tk₄, i + 1, ys ++ [y], rfl, hlt, rfl, it.w.frame _ _ _ hst₃ fun b hb o e => hs₅.extBut b o (hfpD b hb) (hk₄ _ o e), fun b o e => hs₅.extBut b o (fun h => by subst h; rw [hDf] at e; cases e) (hk₄ _ o (hk₃ _ o (hk02 b o e))), ?_, ?_, ?_⟩
      · simpa using hacc₅
      · exact B.keep _ _ hfr₂ fun b hb o e => hs₅.extBut b o (fun h => hDO (h ▸ hb)) (hk₄ _ o (hk₃ _ o e))
      · rw [etake, hp]
        have sh : ∀ a o, h₄.get? a = some o → ¬ XO X I D O a → h₅.get? a = some o ∧ ¬ XO X I D O a := fun a o e hx => ⟨hs₅.extBut a o (fun h => hx (.inr (.inr (.inl h)))) e, hx⟩
        exact RepAll.append (((ys₂.up hk₃).up hk₄).shift sh) (RepAll.one (r₄.shift sh))
  · obtain rfl : i = xs.length := by omega
    refine it.w.done _ _ _ hst fun h₁ tk₁ hk₁ => ?_
    refine hR h₁ tk₁ ys (fun b o e => hk₁ b o (by intro hb; rw [List.mem_singleton] at hb; subst hb; rw [it.fresh] at e; cases e) (hk0 b o e)) (hacc.at fun o e => hk₁ _ o (by simpa using hDI) e)
      (B.keep _ _ hfr fun b hb o e => hk₁ b o (by intro hb'; rw [List.mem_singleton] at hb'; exact hIO (hb' ▸ hb)) e) ?_
    rw [List.take_length] at hys
    exact hys.shift fun a o e hx => ⟨hk₁ a o (by intro hb; rw [List.mem_singleton] at hb; exact hx (.inr (.inl hb))) e, hx⟩
end
end Mine

/-! ### MyComp2 -/
namespace Mine

/-! ## closures of a comprehension -/
def cloOf (env : Env) : List (Str × NameKind) → List (Str × Addr) → List (Str × Addr)
  | [], cs => cs
  | (n, k) :: r, cs => cloOf env r (if k == .free then (n, (env.cells.lookup n).getD 0) :: cs else cs)

def cloOk (names : List (Str × NameKind)) (env : Env) : Bool := names.all fun y => y.2 != .free || ((env.cells.lookup y.1).isSome && (env.kindOf y.1 == some .cell || env.kindOf y.1 == some .free))

theorem cloOk_mem {names : List (Str × NameKind)} {env : Env} (h : cloOk names env = true) {y : Str} (hy : (y, NameKind.free) ∈ names) : (env.cells.lookup y).isSome = true ∧ (env.kindOf y = some .cell ∨ env.kindOf y = some .free) := by
  have := List.all_eq_true.mp h _ hy
  simpa using this

theorem clo_go (env : Env) (F : Str × NameKind → List (Str × Addr) → Sem (ForInStep (List (Str × Addr))))
    (hf : ∀ name kind cs, F (name, kind) cs = if kind == NameKind.free then (do let c ← cellOf env name; pure (ForInStep.yield ((name, c) :: cs))) else pure (ForInStep.yield cs)) :
    ∀ (names : List (Str × NameKind)) (cs : List (Str × Addr)), cloOk names env = true → forIn names cs F = pure (cloOf env names cs)
  | [], cs, _ => rfl
  | (n, k) :: r, cs, hok => by
    have hr : cloOk r env = true := by
      unfold cloOk at hok ⊢
      rw [List.all_cons] at hok
      exact (Bool.and_eq_true_iff.mp hok).2
    rw [List.forIn_cons, hf, cloOf]
    by_cases hk : (k == NameKind.free) = true
    · have hk' : k = .free := by simpa using hk
      subst hk'
      obtain ⟨hs, _⟩ := cloOk_mem hok (List.mem_cons_self)
      obtain ⟨c, hc⟩ := Option.isSome_iff_exists.mp hs
      have e : cellOf env n = pure c := by unfold cellOf; rw [hc]
      rw [if_pos hk, if_pos hk, e, pure_bind, pure_bind, hc]
      exact clo_go env F hf r _ hr
    · rw [if_neg hk, if_neg hk, pure_bind]
      exact clo_go env F hf r _ hr
theorem closureFor_eq {scope : Scope} {env : Env} (h : cloOk scope.names env = true) : closureFor scope env = pure (cloOf env scope.names []) := by
  unfold closureFor
  dsimp only
  rw [clo_go env _ (fun name kind cs => by cases hkc : kind == NameKind.free <;> simp) scope.names [] h]
  rfl

theorem cloOf_keep (env : Env) {y : Str} : ∀ (names : List (Str × NameKind)) (cs : List (Str × Addr)), cs.lookup y = some ((env.cells.lookup y).getD 0) → (cloOf env names cs).lookup y = some ((env.cells.lookup y).getD 0)
  | [], _, h => h
  | (n, k) :: r, cs, h => by
    rw [cloOf]
    refine cloOf_keep env r _ ?_
    split
    · rw [List.lookup_cons]
      cases hn : y == n with
      | true => rw [← eq_of_beq hn]
      | false => exact h
    · exact h
theorem cloOf_get (env : Env) {y : Str} : ∀ (names : List (Str × NameKind)) (cs : List (Str × Addr)), names.lookup y = some .free → (cloOf env names cs).lookup y = some ((env.cells.lookup y).getD 0)
  | [], _, h => by cases h
  | (n, k) :: r, cs, h => by
    rw [List.lookup_cons] at h
    rw [cloOf]
    cases hn : y == n with
    | true =>
      rw [hn] at h
      injection h with h
      subst h
      refine cloOf_keep env r _ ?_
      have hfree : (NameKind.free == NameKind.free) = true := by decide
      rw [if_pos hfree, List.lookup_cons, hn, eq_of_beq hn]
    | false =>
      rw [hn] at h
      exact cloOf_get env r _ h

theorem relabel_free {env : Env} : ∀ {names : List (Str × NameKind)} {x : Str}, names.lookup x = some .free →
    (names.map fun (n, k) => if (k == NameKind.free && env.scope.kind == .function && env.kindOf n == some .cell) then (n, NameKind.cell) else (n, k)).lookup x = some .cell ∨
    (names.map fun (n, k) => if (k == NameKind.free && env.scope.kind == .function && env.kindOf n == some .cell) then (n, NameKind.cell) else (n, k)).lookup x = some .free
  | [], _, h => by cases h
  | (n, k) :: r, x, h => by
    rw [List.lookup_cons] at h
    show List.lookup x ((if (k == NameKind.free && env.scope.kind == .function && env.kindOf n == some .cell) = true then (n, NameKind.cell) else (n, k)) :: _) = _ ∨ List.lookup x ((if (k == NameKind.free && env.scope.kind == .function && env.kindOf n == some .cell) = true then (n, NameKind.cell) else (n, k)) :: _) = _
    cases hx : x == n with
    | true =>
      rw [hx] at h
      injection h with h
      subst h
      by_cases hc : (NameKind.free == NameKind.free && env.scope.kind == .function && env.kindOf n == some .cell) = true
      · rw [if_pos hc]; left; rw [List.lookup_cons, hx]
      · rw [if_neg hc]; right; rw [List.lookup_cons, hx]
    | false =>
      rw [hx] at h
      have ih := relabel_free (env := env) (names := r) h
      by_cases hc : (k == NameKind.free && env.scope.kind == .function && env.kindOf n == some .cell) = true
      · rw [if_pos hc]; rw [List.lookup_cons, hx]; exact ih
      · rw [if_neg hc]; rw [List.lookup_cons, hx]; exact ih

/-- what of the context a comprehension sees: its free names -/
def seen (scope : Scope) (Γ : Ctx) : Ctx := Γ.filter fun p => scope.names.lookup p.1 == some .free

abbrev cEnv (scope : Scope) (C : Addr) (env : Env) : Env := compEnvC scope (cloOf env scope.names []) C env

theorem lookup_mem {α : Type} : ∀ {l : List (Str × α)} {x : Str} {a : α}, l.lookup x = some a → (x, a) ∈ l := PySem.mem_of_lookup

theorem has_seen {scope : Scope} {env : Env} {Γ : Ctx} {h : Heap} {X : Addr → Prop} {C : Addr} (hc : cloOk scope.names env = true) (has : Has env Γ h X) : Has (cEnv scope C env) (seen scope Γ) h X := by
  intro q hq
  obtain ⟨hq, hf⟩ := List.mem_filter.mp hq
  have hf : scope.names.lookup q.1 = some .free := by simpa using hf
  obtain ⟨v, n, r⟩ := has q hq
  obtain ⟨hs, hk⟩ := cloOk_mem hc (lookup_mem hf)
  refine ⟨v, .inr ⟨relabel_free (env := env) hf, ?_⟩, r⟩
  rcases n with ⟨a, _⟩ | ⟨_, c, e, ce⟩
  · rcases hk with hk | hk <;> (rw [a] at hk; cases hk)
  · refine ⟨c, ?_, ce⟩
    show (cloOf env scope.names []).lookup q.1 = some c
    rw [cloOf_get env _ _ hf, e]; rfl

theorem cEnv_ok {scope : Scope} {env : Env} {C : Addr} (hk : scope.kind = .function) (h : EnvOk env) : EnvOk (cEnv scope C env) := ⟨hk, h.g, h.b⟩

/-- a name of the block's own -/
theorem binds_name {G : Wrld} {A : Around} {scope : Scope} {env : Env} {C : Addr} {x : Str} {px : Pos} {xs : List Dt} (hk : scope.kind = .function) (hx : scope.names.lookup x = some .local) :
    BindsBy G A (cEnv scope C env) (.Name x px) [C] (fun h => ∃ m, h.Ns C m) xs (fun d => [(x, d)]) where
  keep := fun h h' ⟨m, n⟩ k => ⟨m, n.at' fun o e => k C (by simp) o e⟩
  live := fun h ⟨m, n⟩ b hb => by
    rw [List.mem_singleton] at hb; subst hb
    obtain ⟨o, _, _, ho, _⟩ := n
    exact ⟨o, ho⟩
  bind := fun s X E Q v d _ hX r ⟨m, n⟩ h => by
    have hkl : (cEnv scope C env).kindOf x = some .local := lookup_relabel_local hx
    refine wpAny_assign_Name (wpAny_storeName_local hkl n (fun h' hn' hs' => ?_) (by simp [compEnvC, relabel, hk]))
    refine h h' _ (fun b o hb e => hs'.extBut b o (fun hh => hb (List.mem_singleton.mpr hh)) e) ⟨_, hn'⟩ fun q hq => ?_
    rw [List.mem_singleton] at hq
    subst hq
    refine ⟨v, .inl ⟨hkl, _, hn', by simp⟩, r.shift fun a o e hx' => ⟨hs'.extBut a o (fun hh => hx' (by rw [hh]; exact hX C (by simp))) e, hx'⟩⟩

section
variable {G : Wrld} {A : Around} {E : Value → Shared → Prop}

/-- from the iterator on: the new list, the block's own names, the loop -/
theorem comp_block {s₁ s₂ : Shared} {X : Addr → Prop} {elt iter : Expr} {x : Str} {px : Pos} {ifs : List Expr} {scope : Scope} {pos : Pos} {I : Addr} {fp : List Addr} {xs : List Dt} {P : Nat → Value → Prop} {St : Nat → Heap → Prop} {env : Env} {Γ : Ctx}
    {RR : Value → Addr → Result → Shared → Prop} (p : Dt → Bool) (f : Dt → Dt)
    (inv : Inv G env Γ s₁.heap X) (k : Keeps s₁ s₂) (it : ItAt G A X s₁.heap I fp xs P St s₂.heap) (hc : cloOk scope.names env = true) (hcell : ∀ y ∈ scope.names, y.2 ≠ .cell) (hkind : scope.kind = .function) (hx : scope.names.lookup x = some .local) (hsz : xs.length ≤ 1000000)
    (htest : ∀ C d, d ∈ xs → EvTs G A (cEnv scope C env) ((x, d) :: seen scope Γ) ifs (p d)) (helt : ∀ C d, d ∈ xs → p d = true → Ev G A (cEnv scope C env) ((x, d) :: seen scope Γ) elt (f d))
    (hRR : ∀ D C h' tk m' ys, s₁.heap.get? D = none → s₁.heap.get? C = none → ¬ X D → D ≠ C → HLe s₁.heap h' → h'.Ns C m' → h'.PlainList D ys.toArray → RepAll (fz h' (XO X I D [C])) ys ((xs.filter p).map f) → RR (.ref D) C (.ok .next) { s₂ with heap := h', toks := tk }) :
    wpAny G.M A (newList []) (fun acc s₃ => wpAny G.M A (newFunctionEnv scope env.globals (cloOf env scope.names []) [] env.qual none .none (some env)) (fun cenv s₄ =>
      codeAny G.M A (.compStart (.ListComp elt [⟨.Name x px, iter, ifs, 0⟩] scope pos) 0 (.ref I) acc { cenv with scope := relabel scope env }) (RR acc cenv.locals) s₄) E s₃) E s₂ := by
  refine wpAny_newObj_type (wpAny_newFunctionEnv hcell (by intro y hy; simp at hy) (fun h₁ hns₁ hsb₁ => ?_) hkind)
  dsimp only at hns₁ hsb₁ ⊢
  generalize hH2 : s₂.heap.push { cls := .type "list", dict := none, data := .seq ([] : List Value).toArray } = H2 at hns₁ hsb₁ ⊢
  have hC : H2.objs.size = s₂.heap.objs.size + 1 := by rw [← hH2, Heap.size_push]
  have hDC : s₂.heap.objs.size ≠ H2.objs.size := by rw [hC]; exact Nat.ne_of_lt (Nat.lt_succ_self _)
  have below : ∀ b, b < s₂.heap.objs.size → b ≠ H2.objs.size := fun b hb => by rw [hC]; exact Nat.ne_of_lt (Nat.lt_succ_of_lt hb)
  have old : HLe s₂.heap h₁ := fun b o e => hsb₁.extBut b o (below b (Heap.lt_size e)) (Heap.get?_push_of_some _ (hH2 ▸ Heap.get?_push_of_some _ e))
  have hacc : h₁.PlainList s₂.heap.objs.size #[] := ⟨_, hsb₁.extBut _ _ hDC (Heap.get?_push_of_some _ (hH2 ▸ Heap.get?_push_size _ rfl))⟩
  have fresh : ∀ a, s₂.heap.objs.size ≤ a → s₁.heap.get? a = none := fun a ha => by
    cases e : s₁.heap.get? a with
    | none => rfl
    | some o' => exact absurd (Heap.lt_size (Keeps.hle k _ _ e)) (Nat.not_lt.mpr ha)
  obtain ⟨oI, hoI⟩ := it.live _ _ it.st
  have hIlt : I < s₂.heap.objs.size := Heap.lt_size hoI
  have it' : ItAt G A X s₁.heap I fp xs P St h₁ := ⟨it.w, it.w.frame _ _ _ it.st fun b _ o e => old b o e, it.fresh, it.mem, it.live, it.kind, it.old, it.rep⟩
  have loop : ∀ s₃ : Shared, s₃ = { s₂ with heap := h₁, toks := s₂.toks + ([] : List (Str × Value)).length } →
      codeAny G.M A (.compLoop (.ListComp elt [⟨.Name x px, iter, ifs, 0⟩] scope pos) 0 (.ref I) (.ref s₂.heap.objs.size) (cEnv scope H2.objs.size env)) (RR (.ref s₂.heap.objs.size) H2.objs.size) s₃ := by
    rintro s₃ rfl
    refine comp_loop (h0 := s₁.heap) (X := X) (O := [H2.objs.size]) (Γ := seen scope Γ) p f it' (binds_name hkind hx) inv.ok (cEnv_ok hkind inv.envok) inv.low (has_seen hc inv.has) (HLe.trans (Keeps.hle k) old) hacc
      (fresh _ (Nat.le_refl _)) (fun b hb => by rw [List.mem_singleton] at hb; subst hb; exact fresh _ (by omega)) (Nat.ne_of_gt hIlt) (by simpa using hDC) (by simpa using below I hIlt) ⟨_, hns₁⟩ hsz
      (fun d hd => htest _ d hd) (fun d hd hp => helt _ d hd hp) fun h' tk ys hk' hpl hfr hrep => ?_
    obtain ⟨m', hn'⟩ := hfr
    exact hRR _ _ h' tk m' ys (fresh _ (Nat.le_refl _)) (fresh _ (by omega)) ((inv.low.mono (Keeps.hle k)).size) hDC hk' hn' hpl hrep
  exact codeAny_compStart_list (loop _ rfl) (it'.w.self 0 _ _ _ it'.st (loop _ rfl))
end
end Mine

/-! ### MyComp3 -/
namespace Mine

/-- a block whose one own name is x -/
def blockOk (scope : Scope) (x : Str) : Bool :=
  scope.kind == .function && (scope.names.all fun y => y.2 != .cell) && (scope.names.all fun y => y.2 != .local || scope.names.lookup y.1 == some .local) && scope.names.lookup x == some .local
theorem blockOk_of {scope : Scope} {x : Str} (h : blockOk scope x = true) : scope.kind = .function ∧ (∀ y ∈ scope.names, y.2 ≠ .cell) ∧ (∀ y ∈ scope.names, y.2 = .local → scope.names.lookup y.1 = some .local) ∧ scope.names.lookup x = some .local := by
  unfold blockOk at h
  simp only [Bool.and_eq_true, List.all_eq_true, bne_iff_ne, ne_eq, Bool.or_eq_true, beq_iff_eq] at h
  obtain ⟨⟨⟨a, b⟩, c⟩, d⟩ := h
  exact ⟨a, b, fun y hy hl => (c y hy).resolve_left (fun hn => hn hl), d⟩

section
variable {G : Wrld} {A : Around} {env : Env} {Γ : Ctx}

theorem ev_comp {elt iter : Expr} {x : Str} {px : Pos} {ifs : List Expr} {scope : Scope} {pos : Pos} {d : Dt} {xs : List Dt} (p : Dt → Bool) (f : Dt → Dt) (hh : A.handled = none) (hb : blockOk scope x = true) (hc : cloOk scope.names env = true)
    (hiter : Ev G A env Γ iter d) (hx : d.items = some xs) (ok : d.srcOk) (hsz : xs.length ≤ 1000000)
    (htest : ∀ C d, d ∈ xs → EvTs G A (cEnv scope C env) ((x, d) :: seen scope Γ) ifs (p d)) (helt : ∀ C d, d ∈ xs → p d = true → Ev G A (cEnv scope C env) ((x, d) :: seen scope Γ) elt (f d))
    (hs : ∀ v, foldedSetIterable iter env v = pure v := by intro _; rfl) : Ev G A env Γ (.ListComp elt [⟨.Name x px, iter, ifs, 0⟩] scope pos) (.list ((xs.filter p).map f)) := by
  intro s X E Q inv h
  obtain ⟨hkind, hcell, hnames, hxl⟩ := blockOk_of hb
  rw [eval_ListComp]
  refine wpAny_comprehension_free (use := none) rfl hs (closureFor_eq hc) hkind hnames (hiter s X E _ inv fun v s₁ k₁ r₁ => iter_src (G := G) hh r₁ hx ok fun I fp P St s₂ k₂ it => ?_)
  refine comp_block (RR := fun acc C => compPost G.M A E none Q acc C) p f (inv.up (Keeps.hle k₁)) k₂ it hc hcell hkind hxl hsz htest helt ?_
  intro D C h' tk m' ys hD hC hXD hDC hk' hn' hpl hrep
  refine ⟨m', hn', fun h'' hs'' => ?_⟩
  have hk'' : HLe s₁.heap h'' := fun b o e => hs''.extBut b o (fun hb => by subst hb; rw [hC] at e; cases e) (hk' b o e)
  obtain ⟨n, hpl⟩ := hpl
  have hK : Keeps s₁ { s₂ with heap := h'', toks := tk } := by
    obtain ⟨h₂, t₂, rfl, _⟩ := k₂
    exact ⟨h'', tk, rfl, hk''⟩
  refine h _ _ (Keeps.trans' k₁ hK) (.list ⟨hs''.extBut _ _ hDC hpl, hXD⟩ (hrep.shift fun a o e hx' => ⟨hs''.extBut a o (fun hb => hx' (.inr (.inr (.inr (List.mem_singleton.mpr hb))))) e, fun hX => hx' (.inl hX)⟩))

/-- every item, none left out -/
theorem ev_map {elt iter : Expr} {x : Str} {px : Pos} {scope : Scope} {pos : Pos} {d : Dt} {xs : List Dt} (f : Dt → Dt) (hh : A.handled = none) (hb : blockOk scope x = true) (hc : cloOk scope.names env = true)
    (hiter : Ev G A env Γ iter d) (hx : d.items = some xs) (ok : d.srcOk) (hsz : xs.length ≤ 1000000)
    (helt : ∀ C d, d ∈ xs → Ev G A (cEnv scope C env) ((x, d) :: seen scope Γ) elt (f d))
    (hs : ∀ v, foldedSetIterable iter env v = pure v := by intro _; rfl) : Ev G A env Γ (.ListComp elt [⟨.Name x px, iter, [], 0⟩] scope pos) (.list (xs.map f)) := by
  have := ev_comp (pos := pos) (px := px) (fun _ => true) f hh hb hc hiter hx ok hsz (fun C d _ => evTs_nil) (fun C d hd _ => helt C d hd) hs
  rwa [List.filter_eq_self.mpr (fun _ _ => rfl)] at this

end
end Mine

/-! ### MyStmt -/
namespace Mine

def XU (X O : Addr → Prop) : Addr → Prop := fun a => X a ∨ O a

/-- an own list of the frame, that may still turn -/
def OwnAt (env : Env) (X O : Addr → Prop) (h : Heap) (q : Str × List Dt) : Prop :=
  ∃ a vs n, (O a ∧ ¬ X a) ∧ a ≠ env.locals ∧ (∀ y c, env.cells.lookup y = some c → a ≠ c) ∧ NameIs env h q.1 (.ref a) ∧ h.get? a = some (lstObj vs n) ∧ RepAll (fz h (XU X O)) vs q.2

/-- a frame at work: begun at s₀, its own places O (new since), its names Γ, its own lists Ω; since the mark c nothing but O has turned -/
structure FS (G : Wrld) (env : Env) (Γ : Ctx) (Ω : List (Str × List Dt)) (s₀ : Shared) (c : Heap) (X O : Addr → Prop) (s : Shared) : Prop where
  ok₀ : G.Ok s₀.heap
  keeps : Keeps s₀ s
  inv : Inv G env Γ s.heap (XU X O)
  fresh : ∀ a, O a → s₀.heap.get? a = none
  loc : O env.locals
  ns : ∃ m, s.heap.Ns env.locals m
  cells : ∀ y c, env.cells.lookup y = some c → O c ∧ c ≠ env.locals ∧ ∃ v, s.heap.IsCell c v
  apart : ∀ y y' c, env.cells.lookup y = some c → env.cells.lookup y' = some c → y = y'
  own : ∀ q ∈ Ω, OwnAt env X O s.heap q
  mod : ∀ b o, ¬ O b → c.get? b = some o → s.heap.get? b = some o

def put (x : Str) (d : Dt) (Γ : Ctx) : Ctx := (x, d) :: Γ.filter fun p => p.1 != x

section
variable {G : Wrld} {A : Around} {env : Env} {Γ : Ctx} {Ω : List (Str × List Dt)} {s₀ s : Shared} {c : Heap} {X O : Addr → Prop} {E : Value → Shared → Prop}

theorem FS.up (S : FS G env Γ Ω s₀ c X O s) {s' : Shared} (k : Keeps s s') : FS G env Γ Ω s₀ c X O s' where
  ok₀ := S.ok₀
  keeps := Keeps.trans' S.keeps k
  inv := S.inv.up (Keeps.hle k)
  fresh := S.fresh
  loc := S.loc
  ns := let ⟨m, n⟩ := S.ns; ⟨m, n.keeps (Keeps.hle k)⟩
  cells := fun y c e => let ⟨a, b, v, cv⟩ := S.cells y c e; ⟨a, b, v, cv.keeps (Keeps.hle k)⟩
  apart := S.apart
  own := fun q hq => let ⟨a, vs, n, h1, h2, h3, h4, h5, h6⟩ := S.own q hq; ⟨a, vs, n, h1, h2, h3, h4.up (Keeps.hle k), Keeps.hle k _ _ h5, h6.up (Keeps.hle k)⟩
  mod := fun b o hb e => Keeps.hle k b o (S.mod b o hb e)

theorem FS.sub (S : FS G env Γ Ω s₀ c X O s) {Γ' : Ctx} {Ω' : List (Str × List Dt)} (h : ∀ p ∈ Γ', p ∈ Γ) (h' : ∀ q ∈ Ω', q ∈ Ω) : FS G env Γ' Ω' s₀ c X O s :=
  { S with inv := ⟨S.inv.ok, S.inv.envok, S.inv.low, fun p hp => S.inv.has p (h p hp)⟩, own := fun q hq => S.own q (h' q hq) }

theorem FS.mark (S : FS G env Γ Ω s₀ c X O s) : FS G env Γ Ω s₀ s.heap X O s := { S with mod := fun _ _ _ e => e }
theorem FS.remark {c' : Heap} (S : FS G env Γ Ω s₀ c X O s) (h : ∀ b o, ¬ O b → c'.get? b = some o → c.get? b = some o) : FS G env Γ Ω s₀ c' X O s := { S with mod := fun b o hb e => S.mod b o hb (h b o hb e) }

theorem NameIs.uniq {h : Heap} {x : Str} {v v' : Value} (a : NameIs env h x v) (b : NameIs env h x v') : v = v' := by
  rcases a with ⟨a1, m, n, e⟩ | ⟨a1, c, n, e⟩ <;> rcases b with ⟨b1, m', n', e'⟩ | ⟨b1, c', n', e'⟩
  · obtain ⟨o, es, ep, h1, h2, _, h3⟩ := n
    obtain ⟨o', es', ep', h1', h2', _, h3'⟩ := n'
    rw [h1] at h1'; cases h1'
    rw [h2] at h2'; cases h2'
    have := h3 x
    rw [h3' x, e', e] at this
    injection this with this
    exact this.symm
  · rcases b1 with b1 | b1 <;> (rw [a1] at b1; cases b1)
  · rcases a1 with a1 | a1 <;> (rw [b1] at a1; cases a1)
  · rw [n] at n'; cases n'
    obtain ⟨o, h1, h2⟩ := e
    obtain ⟨o', h1', h2'⟩ := e'
    rw [h1] at h1'; cases h1'
    rw [h2] at h2'; cases h2'
    rfl

/-- a place of the frame's own turned: what does not speak of it stays -/
theorem FS.ev {e : Expr} {d : Dt} {Q : Value → Shared → Prop} (S : FS G env Γ Ω s₀ c X O s) (he : Ev G A env Γ e d)
    (h : ∀ v s', FS G env Γ Ω s₀ c X O s' → Keeps s s' → Rep (fz s'.heap (XU X O)) v d → Q v s') : wpAny G.M A (eval e env) Q E s :=
  he s (XU X O) E Q S.inv fun v s' k r => h v s' (S.up k) k r

theorem FS.tst {e : Expr} {b : Bool} {Q : Bool → Shared → Prop} (S : FS G env Γ Ω s₀ c X O s) (he : EvT G A env Γ e b)
    (h : ∀ s', FS G env Γ Ω s₀ c X O s' → Q b s') : wpAny G.M A (isTrue e env (eval e env)) Q E s :=
  he s (XU X O) E Q S.inv fun s' k => h s' (S.up k)

theorem mem_put {x : Str} {d : Dt} {q : Str × Dt} (h : q ∈ put x d Γ) : q = (x, d) ∨ (q ∈ Γ ∧ q.1 ≠ x) := by
  rcases List.mem_cons.mp h with h | h
  · exact .inl h
  · obtain ⟨a, b⟩ := List.mem_filter.mp h
    exact .inr ⟨a, by simpa using b⟩

/-- where a name of the frame may be stored -/
def canStore (env : Env) (x : Str) : Bool := env.kindOf x == some .local || (env.kindOf x == some .cell && (env.cells.lookup x).isSome)

theorem FS.turned {a : Addr} {x : Str} {v : Value} {d : Dt} {h' : Heap} {tk : Nat} (S : FS G env Γ Ω s₀ c X O s) (hΩ : ∀ q ∈ Ω, q.1 ≠ x) (r : Rep (fz s.heap (XU X O)) v d) (hOa : O a) (hs : Heap.SameBut a s.heap h') (hat : ∃ o, h'.get? a = some o)
    (hns : ∀ m, s.heap.Ns env.locals m → ∃ m', h'.Ns env.locals m' ∧ ∀ y, y ≠ x → m' y = m y) (hcl : ∀ y c, env.cells.lookup y = some c → (∃ w, h'.IsCell c w) ∧ ∀ w, y ≠ x → s.heap.IsCell c w → h'.IsCell c w)
    (hown : a = env.locals ∨ ∃ y, env.cells.lookup y = some a) (hnm : NameIs env h' x v) : FS G env (put x d Γ) Ω s₀ c X O { s with heap := h', toks := tk } := by
  have hle : ∀ b o, s.heap.get? b = some o → ¬ XU X O b → h'.get? b = some o ∧ ¬ XU X O b := fun b o e hx => ⟨hs.extBut b o (fun hb => hx (.inr (hb ▸ hOa))) e, hx⟩
  have hbase : HLe s₀.heap h' := fun b o e => hs.extBut b o (fun hb => by subst hb; rw [S.fresh _ hOa] at e; cases e) (Keeps.hle S.keeps b o e)
  have hname : ∀ y w, y ≠ x → NameIs env s.heap y w → NameIs env h' y w := by
    rintro y w hy (⟨k1, m, n, e⟩ | ⟨k1, c, n, e⟩)
    · obtain ⟨m', n', e'⟩ := hns m n
      exact .inl ⟨k1, m', n', by rw [e' y hy]; exact e⟩
    · exact .inr ⟨k1, c, n, (hcl y c n).2 _ hy e⟩
  have hkeeps : Keeps s₀ { s with heap := h', toks := tk } := by
    obtain ⟨h₁, t₁, es, k₁⟩ := S.keeps
    rw [es]; exact ⟨h', tk, rfl, hbase⟩
  refine ⟨S.ok₀, hkeeps, ⟨S.ok₀.up hbase, S.inv.envok, ?_, ?_⟩, S.fresh, S.loc, ?_, ?_, S.apart, ?_, fun b o hb e => hs.extBut b o (fun hh => hb (hh ▸ hOa)) (S.mod b o hb e)⟩
  · intro b hb
    by_cases e : b = a
    · rw [e]; exact hat
    · obtain ⟨o, ho⟩ := S.inv.low b hb
      exact ⟨o, hs.extBut b o e ho⟩
  · intro q hq
    rcases mem_put hq with rfl | ⟨hq, hne⟩
    · exact ⟨v, hnm, r.shift hle⟩
    · obtain ⟨u, n, ru⟩ := S.inv.has q hq
      exact ⟨u, hname _ _ hne n, ru.shift hle⟩
  · obtain ⟨m, n⟩ := S.ns
    obtain ⟨m', n', _⟩ := hns m n
    exact ⟨m', n'⟩
  · intro y c e
    obtain ⟨a1, a2, _⟩ := S.cells y c e
    exact ⟨a1, a2, (hcl y c e).1⟩
  · intro q hq
    obtain ⟨b, vs, n, h1, h2, h3, h4, h5, h6⟩ := S.own q hq
    refine ⟨b, vs, n, h1, h2, h3, hname _ _ (hΩ q hq) h4, hs.extBut b _ ?_ h5, h6.shift hle⟩
    rcases hown with rfl | ⟨y, e⟩
    · exact h2
    · exact h3 y a e

theorem FS.store {x : Str} {v : Value} {d : Dt} {Q : Unit → Shared → Prop} (S : FS G env Γ Ω s₀ c X O s) (hx : canStore env x = true) (hΩ : ∀ q ∈ Ω, q.1 ≠ x) (r : Rep (fz s.heap (XU X O)) v d)
    (h : ∀ h' tk, FS G env (put x d Γ) Ω s₀ c X O { s with heap := h', toks := tk } → (∀ b o, ¬ O b → s.heap.get? b = some o → h'.get? b = some o) → Q () { s with heap := h', toks := tk }) : wpAny G.M A (storeName env x v) Q E s := by
  have hk := S.inv.envok.kind
  unfold canStore at hx
  rcases Bool.or_eq_true_iff.mp hx with hl | hc
  · have hl : env.kindOf x = some .local := by simpa using hl
    obtain ⟨m, n⟩ := S.ns
    refine wpAny_storeName_local hl n (fun h' hn' hs' => ?_) (by rw [hk]; rfl)
    refine h h' _ (S.turned hΩ r S.loc hs' (let ⟨o, _, _, ho, _⟩ := hn'; ⟨o, ho⟩) (fun m₁ n₁ => ?_) (fun y c e => ?_) (.inl rfl) (.inl ⟨hl, _, hn', by simp⟩)) fun b o hb e => hs'.extBut b o (fun hh => hb (hh ▸ S.loc)) e
    · refine ⟨_, hn', fun y hy => ?_⟩
      rw [if_neg hy]
      obtain ⟨o, es, ep, h1, h2, _, h3⟩ := n
      obtain ⟨o', es', ep', h1', h2', _, h3'⟩ := n₁
      rw [h1] at h1'; cases h1'
      rw [h2] at h2'; cases h2'
      rw [← h3, ← h3']
    · obtain ⟨_, hne, w, hw⟩ := S.cells y c e
      exact ⟨⟨w, hw.sameBut hs' hne⟩, fun w' _ hw' => hw'.sameBut hs' hne⟩
  · obtain ⟨hl, hs⟩ := Bool.and_eq_true_iff.mp hc
    have hl : env.kindOf x = some .cell := by simpa using hl
    obtain ⟨q, hc⟩ := Option.isSome_iff_exists.mp hs
    obtain ⟨hOc, hne, w, hw⟩ := S.cells x q hc
    refine wpAny_storeName_cell hk hl hc hw fun h' hc' hs' => ?_
    refine h h' s.toks (S.turned hΩ r hOc hs' (let ⟨o, ho, _⟩ := hc'; ⟨o, ho⟩) (fun m₁ n₁ => ⟨m₁, n₁.sameBut hs' (Ne.symm hne), fun _ _ => rfl⟩) (fun y c' e => ?_) (.inr ⟨x, hc⟩) (.inr ⟨.inl hl, q, hc, hc'⟩)) fun b o hb e => hs'.extBut b o (fun hh => hb (hh ▸ hOc)) e
    by_cases hcc : c' = q
    · subst hcc
      exact ⟨⟨_, hc'⟩, fun w' hy _ => absurd (S.apart y x c' e hc) hy⟩
    · obtain ⟨_, _, w', hw'⟩ := S.cells y c' e
      exact ⟨⟨w', hw'.sameBut hs' hcc⟩, fun w'' _ hw'' => hw''.sameBut hs' hcc⟩

theorem FS.assign {x : Str} {px pos : Pos} {e : Expr} {d : Dt} {Q : Flow → Shared → Prop} (S : FS G env Γ Ω s₀ c X O s) (he : Ev G A env Γ e d) (hx : canStore env x = true) (hΩ : ∀ q ∈ Ω, q.1 ≠ x)
    (hs : swapsWith e (some (.Name x px)) pos.line env = pure false)
    (h : ∀ s', FS G env (put x d Γ) Ω s₀ c X O s' → Q .next s') : wpAny G.M A (exec (.Assign [.Name x px] e pos) env) Q E s :=
  wpAny_Assign_Name (S.ev he fun v s₁ S₁ _ r => S₁.store hx hΩ r fun h' tk S' _ => h _ S') hs

theorem FS.iff {t : Expr} {body orelse : List Stmt} {pos : Pos} {b : Bool} {Q : Flow → Shared → Prop} (S : FS G env Γ Ω s₀ c X O s) (ht : EvT G A env Γ t b)
    (h1 : b = true → ∀ s', FS G env Γ Ω s₀ c X O s' → wpAny G.M A (execs body env) Q E s') (h2 : b = false → ∀ s', FS G env Γ Ω s₀ c X O s' → wpAny G.M A (execs orelse env) Q E s') : wpAny G.M A (exec (.If t body orelse pos) env) Q E s := by
  refine wpAny_If (S.tst ht fun s' S' => ?_)
  cases b with
  | true => exact h1 rfl s' S'
  | false => exact h2 rfl s' S'

theorem FS.ret {e : Expr} {pos : Pos} {d : Dt} {Q : Flow → Shared → Prop} (S : FS G env Γ Ω s₀ c X O s) (he : Ev G A env Γ e d)
    (h : ∀ v s', Keeps s₀ s' → Rep (fz s'.heap X) v d → Q (.ret v) s') : wpAny G.M A (exec (.Return (some e) pos) env) Q E s :=
  wpAny_Return_some (S.ev he fun v s' S' _ r => h v s' S'.keeps (r.shift fun _ _ e hx => ⟨e, fun hX => hx (.inl hX)⟩))
end
end Mine

/-! ### MyLoop -/
namespace Mine

section
variable {G : Wrld} {A : Around} {env : Env} {Γ : Ctx} {Ω : List (Str × List Dt)} {s₀ s : Shared} {c : Heap} {X O : Addr → Prop} {E : Value → Shared → Prop}

def XI (X : Addr → Prop) (I : Addr) : Addr → Prop := fun a => X a ∨ a = I

/-- a new foreign place that may turn -/
theorem FS.foreign {I : Addr} {s' : Shared} (S : FS G env Γ Ω s₀ c X O s) (k : Keeps s s') (hI : s.heap.get? I = none) (hI' : ∃ o, s'.heap.get? I = some o) : FS G env Γ Ω s₀ c (XI X I) O s' := by
  have S' := S.up k
  have sh : ∀ a o, s.heap.get? a = some o → ¬ XU X O a → s'.heap.get? a = some o ∧ ¬ XU (XI X I) O a := fun a o e hx => ⟨Keeps.hle k a o e, fun h => by
    rcases h with (h | rfl) | h
    · exact hx (.inl h)
    · rw [hI] at e; cases e
    · exact hx (.inr h)⟩
  refine { S' with inv := ⟨S'.inv.ok, S'.inv.envok, fun a ha => ?_, fun q hq => ?_⟩, own := fun q hq => ?_ }
  · rcases ha with (h | rfl) | h
    · exact S'.inv.low a (.inl h)
    · exact hI'
    · exact S'.inv.low a (.inr h)
  · obtain ⟨v, n, r⟩ := S.inv.has q hq
    exact ⟨v, n.up (Keeps.hle k), r.shift sh⟩
  · obtain ⟨a, vs, n, h1, h2, h3, h4, h5, h6⟩ := S.own q hq
    exact ⟨a, vs, n, ⟨h1.1, fun h => h.elim h1.2 fun h => by subst h; rw [hI] at h5; cases h5⟩, h2, h3, h4.up (Keeps.hle k), Keeps.hle k _ _ h5, h6.shift sh⟩
theorem FS.unforeign {I : Addr} (S : FS G env Γ Ω s₀ c (XI X I) O s) : FS G env Γ Ω s₀ c X O s := by
  have sh : ∀ a o, s.heap.get? a = some o → ¬ XU (XI X I) O a → s.heap.get? a = some o ∧ ¬ XU X O a := fun a o e hx => ⟨e, fun h => hx (h.elim (fun h => .inl (.inl h)) .inr)⟩
  refine { S with inv := ⟨S.inv.ok, S.inv.envok, fun a ha => S.inv.low a (ha.elim (fun h => .inl (.inl h)) .inr), fun q hq => ?_⟩, own := fun q hq => ?_ }
  · obtain ⟨v, n, r⟩ := S.inv.has q hq
    exact ⟨v, n, r.shift sh⟩
  · obtain ⟨a, vs, n, h1, h2, h3, h4, h5, h6⟩ := S.own q hq
    exact ⟨a, vs, n, ⟨h1.1, fun h => h1.2 (.inl h)⟩, h2, h3, h4, h5, h6.shift sh⟩

/-- a foreign place has turned -/
theorem FS.foreignTurned {I : Addr} {h' : Heap} {tk : Nat} (S : FS G env Γ Ω s₀ c (XI X I) O s) (hO : ¬ O I) (h0 : s₀.heap.get? I = none) (hc : c.get? I = none) (hk : ∀ b o, b ∉ [I] → s.heap.get? b = some o → h'.get? b = some o) (hat : ∃ o, h'.get? I = some o) :
    FS G env Γ Ω s₀ c (XI X I) O { s with heap := h', toks := tk } := by
  have hk' : ∀ b o, b ≠ I → s.heap.get? b = some o → h'.get? b = some o := fun b o hb e => hk b o (by simpa using hb) e
  have hbase : HLe s₀.heap h' := fun b o e => hk' b o (fun hb => by subst hb; rw [h0] at e; cases e) (Keeps.hle S.keeps b o e)
  have hcells : ∀ y q, env.cells.lookup y = some q → q ≠ I := fun y q e hq => hO (hq ▸ (S.cells y q e).1)
  have hloc : env.locals ≠ I := fun h => hO (h ▸ S.loc)
  have sh : ∀ a o, s.heap.get? a = some o → ¬ XU (XI X I) O a → h'.get? a = some o ∧ ¬ XU (XI X I) O a := fun a o e hx => ⟨hk' a o (fun h => hx (.inl (.inr h))) e, hx⟩
  have hname : ∀ y w, NameIs env s.heap y w → NameIs env h' y w := by
    rintro y w (⟨k1, m, n, e⟩ | ⟨k1, q, n, e⟩)
    · exact .inl ⟨k1, m, n.at' fun o e => hk' _ o hloc e, e⟩
    · obtain ⟨o, ho, hd⟩ := e
      exact .inr ⟨k1, q, n, o, hk' _ o (hcells y q n) ho, hd⟩
  have hkeeps : Keeps s₀ { s with heap := h', toks := tk } := by
    obtain ⟨h₁, t₁, es, k₁⟩ := S.keeps
    rw [es]; exact ⟨h', tk, rfl, hbase⟩
  refine ⟨S.ok₀, hkeeps, ⟨S.ok₀.up hbase, S.inv.envok, fun a ha => ?_, fun q hq => ?_⟩, S.fresh, S.loc, ?_, ?_, S.apart, ?_, fun b o hb e => hk' b o (fun h => by subst h; rw [hc] at e; cases e) (S.mod b o hb e)⟩
  · by_cases e : a = I
    · rw [e]; exact hat
    · obtain ⟨o, ho⟩ := S.inv.low a ha
      exact ⟨o, hk' a o e ho⟩
  · obtain ⟨v, n, r⟩ := S.inv.has q hq
    exact ⟨v, hname _ _ n, r.shift sh⟩
  · obtain ⟨m, n⟩ := S.ns
    exact ⟨m, n.at' fun o e => hk' _ o hloc e⟩
  · intro y q e
    obtain ⟨a1, a2, v, o, ho, hd⟩ := S.cells y q e
    exact ⟨a1, a2, v, o, hk' _ o (hcells y q e) ho, hd⟩
  · intro q hq
    obtain ⟨a, vs, n, h1, h2, h3, h4, h5, h6⟩ := S.own q hq
    exact ⟨a, vs, n, h1, h2, h3, hname _ _ h4, hk' a _ (fun h => hO (h ▸ h1.1)) h5, h6.shift sh⟩

/-- a foreign place has done its work -/
theorem FS.foreignDone {I : Addr} {h' : Heap} {tk : Nat} (S : FS G env Γ Ω s₀ c (XI X I) O s) (hO : ¬ O I) (hX : ¬ X I) (h0 : s₀.heap.get? I = none) (hc : c.get? I = none) (hk : ∀ b o, b ∉ [I] → s.heap.get? b = some o → h'.get? b = some o) :
    FS G env Γ Ω s₀ c X O { s with heap := h', toks := tk } := by
  have hk' : ∀ b o, b ≠ I → s.heap.get? b = some o → h'.get? b = some o := fun b o hb e => hk b o (by simpa using hb) e
  have hbase : HLe s₀.heap h' := fun b o e => hk' b o (fun hb => by subst hb; rw [h0] at e; cases e) (Keeps.hle S.keeps b o e)
  have hcells : ∀ y q, env.cells.lookup y = some q → q ≠ I := fun y q e hq => hO (hq ▸ (S.cells y q e).1)
  have hloc : env.locals ≠ I := fun h => hO (h ▸ S.loc)
  have sh : ∀ a o, s.heap.get? a = some o → ¬ XU (XI X I) O a → h'.get? a = some o ∧ ¬ XU X O a := fun a o e hx => ⟨hk' a o (fun h => hx (.inl (.inr h))) e, fun h => hx (h.elim (fun h => .inl (.inl h)) .inr)⟩
  have hname : ∀ y w, NameIs env s.heap y w → NameIs env h' y w := by
    rintro y w (⟨k1, m, n, e⟩ | ⟨k1, q, n, e⟩)
    · exact .inl ⟨k1, m, n.at' fun o e => hk' _ o hloc e, e⟩
    · obtain ⟨o, ho, hd⟩ := e
      exact .inr ⟨k1, q, n, o, hk' _ o (hcells y q n) ho, hd⟩
  have hkeeps : Keeps s₀ { s with heap := h', toks := tk } := by
    obtain ⟨h₁, t₁, es, k₁⟩ := S.keeps
    rw [es]; exact ⟨h', tk, rfl, hbase⟩
  refine ⟨S.ok₀, hkeeps, ⟨S.ok₀.up hbase, S.inv.envok, fun a ha => ?_, fun q hq => ?_⟩, S.fresh, S.loc, ?_, ?_, S.apart, ?_, fun b o hb e => hk' b o (fun h => by subst h; rw [hc] at e; cases e) (S.mod b o hb e)⟩
  · have hne : a ≠ I := fun h => by subst h; exact ha.elim hX hO
    obtain ⟨o, ho⟩ := S.inv.low a (ha.elim (fun h => .inl (.inl h)) .inr)
    exact ⟨o, hk' a o hne ho⟩
  · obtain ⟨v, n, r⟩ := S.inv.has q hq
    exact ⟨v, hname _ _ n, r.shift sh⟩
  · obtain ⟨m, n⟩ := S.ns
    exact ⟨m, n.at' fun o e => hk' _ o hloc e⟩
  · intro y q e
    obtain ⟨a1, a2, v, o, ho, hd⟩ := S.cells y q e
    exact ⟨a1, a2, v, o, hk' _ o (hcells y q e) ho, hd⟩
  · intro q hq
    obtain ⟨a, vs, n, h1, h2, h3, h4, h5, h6⟩ := S.own q hq
    exact ⟨a, vs, n, ⟨h1.1, fun h => h1.2 (.inl h)⟩, h2, h3, hname _ _ h4, hk' a _ (fun h => hO (h ▸ h1.1)) h5, h6.shift sh⟩

/-- a for over any target -/
theorem FS.forAnyP {target : Expr} {pos : Pos} {iter : Expr} {body : List Stmt} {d : Dt} {xs : List Dt} {Q : Flow → Shared → Prop} (S : FS G env Γ Ω s₀ c X O s) (hh : A.handled = none) (hiter : Ev G A env Γ iter d) (hx : d.items = some xs) (ok : d.srcOk) (bnd : Dt → Ctx → Ctx)
    (Pu : Nat → Prop) (J : Nat → Ctx) (W : Nat → List (Str × List Dt)) (hP0 : Pu 0) (h0 : ∀ p ∈ J 0, p ∈ Γ) (hW0 : ∀ q ∈ W 0, q ∈ Ω) 
    (hb : ∀ i d v c' X' s' (E : Value → Shared → Prop) (Q : Unit → Shared → Prop), xs[i]? = some d → FS G env (J i) (W i) s₀ c' X' O s' → Rep (fz s'.heap (XU X' O)) v d → (∀ s'', FS G env (bnd d (J i)) (W i) s₀ c' X' O s'' → Q () s'') → wpAny G.M A (PySem.assign target env v) Q E s')
    (turn : ∀ i d c' X' s', Pu i → xs[i]? = some d → FS G env (bnd d (J i)) (W i) s₀ c' X' O s' → (∀ a, X a → X' a) →
      wpAny G.M A (execs body env) (fun f s'' => match f with | .next => Pu (i + 1) ∧ FS G env (J (i + 1)) (W (i + 1)) s₀ c' X' O s'' | .cont => False | .brk => False | .ret v => Q (.ret v) s'') (fun _ _ => False) s')
    (fin : ∀ s', Pu xs.length → FS G env (J xs.length) (W xs.length) s₀ c X O s' → Q .next s')
    (hs : ∀ v, foldedSetIterable iter env v = pure v := by intro _; rfl) : wpAny G.M A (exec (.For target iter body [] pos) env) Q E s := by
  refine wpAny_For (S.ev hiter fun v s₁ S₁ k₁ r₁ => iter_src (G := G) hh r₁ hx ok fun I fp P St s₂ k₂ it => ?_) hs
  have hIlive := it.live _ _ it.st
  have hIO : ¬ O I := fun hO => by
    obtain ⟨o, ho⟩ := S₁.inv.low I (.inr hO)
    rw [it.fresh] at ho; cases ho
  have hI0 : s₀.heap.get? I = none := by
    cases e : s₀.heap.get? I with
    | none => rfl
    | some o => have := Keeps.hle S₁.keeps _ _ e; rw [it.fresh] at this; cases this
  have hIc : c.get? I = none := by
    cases e : c.get? I with
    | none => rfl
    | some o => have := S₁.mod _ _ hIO e; rw [it.fresh] at this; cases this
  have S₂ : FS G env Γ Ω s₀ c (XI X I) O s₂ := S₁.foreign k₂ it.fresh hIlive
  have hfpO : ∀ b ∈ fp, ¬ O b := fun b hb hO => by
    by_cases e : b = I
    · exact hIO (e ▸ hO)
    · exact (it.old b hb e).2 (.inr hO)
  refine codeAny_forLoop_any
    (fun n s' => ∃ i, i ≤ xs.length ∧ n = xs.length + 1 - i ∧ St i s'.heap ∧ Pu i ∧ FS G env (J i) (W i) s₀ c (XI X I) O s' ∧ (∀ b o, b ≠ I → ¬ O b → s₁.heap.get? b = some o → s'.heap.get? b = some o)) ?_ (xs.length + 1)
    ⟨0, Nat.zero_le _, rfl, it.st, hP0, S₂.sub h0 hW0, fun b o _ _ e => Keeps.hle k₂ b o e⟩
  rintro n s' ⟨i, hi, rfl, hst', hPi, S', hm'⟩
  by_cases hlt : i < xs.length
  · refine it.w.item i _ _ _ hlt hst' fun v h₁ tk₁ hPv hst₁ hk₁ => ?_
    obtain ⟨d', hd', rd⟩ := it.rep i v hPv
    have S₃ := S'.foreignTurned (tk := tk₁) hIO hI0 hIc hk₁ (it.live _ _ hst₁)
    have hm₃ : ∀ b o, b ≠ I → ¬ O b → s₁.heap.get? b = some o → h₁.get? b = some o := fun b o hb hO e => hk₁ b o (by simpa using hb) (hm' b o hb hO e)
    have rd₃ : Rep (fz h₁ (XU (XI X I) O)) v d' := rd.shift fun a o e hx => ⟨hm₃ a o (fun h => by subst h; rw [it.fresh] at e; cases e) (fun hO => hx (.inr hO)) e, fun h => by
      rcases h with (h | rfl) | h
      · exact hx (.inl h)
      · rw [it.fresh] at e; cases e
      · exact hx (.inr h)⟩
    obtain ⟨oI, hoI, hcI⟩ := it.kind _ _ hst₁
    refine letGo_quiet hoI hcI ?_
    refine hb i d' v _ _ _ _ _ hd' S₃.mark rd₃ fun s₄ S₄ => ?_
    refine wpAny_mono (turn i d' _ _ _ hPi hd' S₄ fun a ha => .inl ha) (fun f s₅ h₅ => ?_) fun _ _ h => h.elim
    cases f with
    | next =>
      obtain ⟨hPi', h₅⟩ := h₅
      refine ⟨xs.length + 1 - (i + 1), by omega, i + 1, hlt, rfl, it.w.frame _ _ _ hst₁ fun b hb o e => h₅.mod b o (hfpO b hb) e, hPi', h₅.remark fun b o hb e => S₃.mod b o hb e, fun b o hb hO e => h₅.mod b o hO (hm₃ b o hb hO e)⟩
    | cont => exact h₅.elim
    | brk => exact h₅.elim
    | ret v => exact h₅
  · obtain rfl : i = xs.length := by omega
    refine it.w.done _ _ _ hst' fun h₁ tk₁ hk₁ => wpAny_execs_nil ?_
    have hXI : ¬ X I := fun hX => by
      obtain ⟨o, ho⟩ := S₁.inv.low I (.inl hX)
      rw [it.fresh] at ho; cases ho
    exact fin _ hPi (S'.foreignDone (tk := tk₁) hIO hXI hI0 hIc hk₁)

/-- a for over any target -/
theorem FS.forAny {target : Expr} {pos : Pos} {iter : Expr} {body : List Stmt} {d : Dt} {xs : List Dt} {Q : Flow → Shared → Prop} (S : FS G env Γ Ω s₀ c X O s) (hh : A.handled = none) (hiter : Ev G A env Γ iter d) (hx : d.items = some xs) (ok : d.srcOk) (bnd : Dt → Ctx → Ctx)
    (J : Nat → Ctx) (W : Nat → List (Str × List Dt)) (h0 : ∀ p ∈ J 0, p ∈ Γ) (hW0 : ∀ q ∈ W 0, q ∈ Ω) 
    (hb : ∀ i d v c' X' s' (E : Value → Shared → Prop) (Q : Unit → Shared → Prop), xs[i]? = some d → FS G env (J i) (W i) s₀ c' X' O s' → Rep (fz s'.heap (XU X' O)) v d → (∀ s'', FS G env (bnd d (J i)) (W i) s₀ c' X' O s'' → Q () s'') → wpAny G.M A (PySem.assign target env v) Q E s')
    (turn : ∀ i d c' X' s', xs[i]? = some d → FS G env (bnd d (J i)) (W i) s₀ c' X' O s' → (∀ a, X a → X' a) →
      wpAny G.M A (execs body env) (fun f s'' => match f with | .next => FS G env (J (i + 1)) (W (i + 1)) s₀ c' X' O s'' | .cont => False | .brk => False | .ret v => Q (.ret v) s'') (fun _ _ => False) s')
    (fin : ∀ s', FS G env (J xs.length) (W xs.length) s₀ c X O s' → Q .next s')
    (hs : ∀ v, foldedSetIterable iter env v = pure v := by intro _; rfl) : wpAny G.M A (exec (.For target iter body [] pos) env) Q E s :=
  S.forAnyP hh hiter hx ok bnd (fun _ => True) J W trivial h0 hW0 hb (fun i d c' X' s' _ hd S' hX => wpAny_mono (turn i d c' X' s' hd S' hX) (fun f s'' h => by cases f <;> first | exact ⟨trivial, h⟩ | exact h) fun _ _ h => h) (fun s' _ S' => fin s' S') hs

/-- a for over a name -/
theorem FS.forName {x : Str} {px pos : Pos} {iter : Expr} {body : List Stmt} {d : Dt} {xs : List Dt} {Q : Flow → Shared → Prop} (S : FS G env Γ Ω s₀ c X O s) (hh : A.handled = none) (hiter : Ev G A env Γ iter d) (hx : d.items = some xs) (ok : d.srcOk) (hst : canStore env x = true)
    (J : Nat → Ctx) (W : Nat → List (Str × List Dt)) (h0 : ∀ p ∈ J 0, p ∈ Γ) (hW0 : ∀ q ∈ W 0, q ∈ Ω) (hWx : ∀ i, ∀ q ∈ W i, q.1 ≠ x)
    (turn : ∀ i d c' X' s', xs[i]? = some d → FS G env (put x d (J i)) (W i) s₀ c' X' O s' → (∀ a, X a → X' a) →
      wpAny G.M A (execs body env) (fun f s'' => match f with | .next => FS G env (J (i + 1)) (W (i + 1)) s₀ c' X' O s'' | .cont => False | .brk => False | .ret v => Q (.ret v) s'') (fun _ _ => False) s')
    (fin : ∀ s', FS G env (J xs.length) (W xs.length) s₀ c X O s' → Q .next s')
    (hs : ∀ v, foldedSetIterable iter env v = pure v := by intro _; rfl) : wpAny G.M A (exec (.For (.Name x px) iter body [] pos) env) Q E s :=
  S.forAny hh hiter hx ok (fun d Γ => put x d Γ) J W h0 hW0 (fun i d v c' X' s' E Q hd S' r h => wpAny_assign_Name (S'.store hst (hWx i) r fun h' tk S'' _ => h _ S'')) turn fin hs

/-- a while with a measure; the state is told by the context at each turn -/
theorem FS.whil {σ : Type} {t : Expr} {body : List Stmt} {pos : Pos} {Q : Flow → Shared → Prop} (J : σ → Ctx) (W : σ → List (Str × List Dt)) (b : σ → Bool) (mes : σ → Nat) (Good : σ → Prop) (st₀ : σ) (hg : Good st₀) (S : FS G env (J st₀) (W st₀) s₀ c X O s)
    (ht : ∀ st s', Good st → FS G env (J st) (W st) s₀ c X O s' → ∀ (E : Value → Shared → Prop) (Q : Bool → Shared → Prop), (∀ s'', FS G env (J st) (W st) s₀ c X O s'' → Q (b st) s'') → wpAny G.M A (isTrue t env (eval t env)) Q E s')
    (hb : ∀ st s', Good st → b st = true → FS G env (J st) (W st) s₀ c X O s' → wpAny G.M A (execs body env) (fun f s'' => f = .next ∧ ∃ st', Good st' ∧ mes st' < mes st ∧ FS G env (J st') (W st') s₀ c X O s'') (fun _ _ => False) s')
    (fin : ∀ st s', Good st → b st = false → FS G env (J st) (W st) s₀ c X O s' → Q .next s') : wpAny G.M A (exec (.While t body [] pos) env) Q E s := by
  refine wpAny_While (codeAny_whileLoop (fun n s' => ∃ st, n = mes st ∧ Good st ∧ FS G env (J st) (W st) s₀ c X O s') ?_ (mes st₀) ⟨st₀, rfl, hg, S⟩)
  rintro n s' ⟨st, rfl, hgood, S'⟩
  refine ht st s' hgood S' _ _ fun s₂ S₂ => ?_
  cases hbs : b st with
  | false =>
    simp only [Bool.false_eq_true, if_false]
    exact wpAny_execs_nil (fin st s₂ hgood hbs S₂)
  | true =>
    simp only [if_true]
    refine wpAny_mono (hb st s₂ hgood hbs S₂) (fun f s₃ h₃ => ?_) fun _ _ h => h.elim
    obtain ⟨rfl, st', g', m', S₃⟩ := h₃
    exact ⟨_, m', st', rfl, g', S₃⟩

/-! ## own lists -/
def XM (X : Addr → Prop) (a : Addr) : Addr → Prop := fun b => X b ∧ b ≠ a

/-- an own list seen as a datum, as long as nothing turns -/
theorem FS.asDatum {y : Str} {ds : List Dt} (S : FS G env Γ [(y, ds)] s₀ c X O s) : ∃ a vs n, O a ∧ NameIs env s.heap y (.ref a) ∧ s.heap.get? a = some (lstObj vs n) ∧ Inv G env ((y, .list ds) :: Γ) s.heap (XM (XU X O) a) := by
  obtain ⟨a, vs, n, h1, h2, h3, h4, h5, h6⟩ := S.own _ (List.mem_singleton.mpr rfl)
  have sh : ∀ b o, s.heap.get? b = some o → ¬ XU X O b → s.heap.get? b = some o ∧ ¬ XM (XU X O) a b := fun b o e hx => ⟨e, fun h => hx h.1⟩
  refine ⟨a, vs, n, h1.1, h4, h5, S.inv.ok, S.inv.envok, fun b hb => S.inv.low b hb.1, fun q hq => ?_⟩
  rcases List.mem_cons.mp hq with rfl | hq
  · exact ⟨_, h4, .list ⟨h5, fun h => h.2 rfl⟩ (h6.shift sh)⟩
  · obtain ⟨v, n, r⟩ := S.inv.has q hq
    exact ⟨v, n, r.shift sh⟩

theorem FS.tstOwn {y : Str} {ds : List Dt} {e : Expr} {b : Bool} {Q : Bool → Shared → Prop} (S : FS G env Γ [(y, ds)] s₀ c X O s) (he : EvT G A env ((y, .list ds) :: Γ) e b)
    (h : ∀ s', FS G env Γ [(y, ds)] s₀ c X O s' → Q b s') : wpAny G.M A (isTrue e env (eval e env)) Q E s := by
  obtain ⟨a, vs, n, _, _, _, inv⟩ := S.asDatum
  exact he s _ E Q inv fun s' k => h s' (S.up k)
theorem FS.evOwnInt {y : Str} {ds : List Dt} {e : Expr} {i : Int} {Q : Value → Shared → Prop} (S : FS G env Γ [(y, ds)] s₀ c X O s) (he : Ev G A env ((y, .list ds) :: Γ) e (.int i))
    (h : ∀ v s', FS G env Γ [(y, ds)] s₀ c X O s' → Rep (fz s'.heap (XU X O)) v (.int i) → Q v s') : wpAny G.M A (eval e env) Q E s := by
  obtain ⟨a, vs, n, _, _, _, inv⟩ := S.asDatum
  refine he s _ E Q inv fun v s' k r => h v s' (S.up k) ?_
  cases r; exact .int _ _

/-- the own list turned -/
theorem FS.ownTurned {y : Str} {ds ds' : List Dt} {a : Addr} {vs vs' : List Value} {n n' : Nat} {h' : Heap} {tk : Nat} (S : FS G env Γ [(y, ds)] s₀ c X O s) (hn : NameIs env s.heap y (.ref a)) (hs : Heap.SameBut a s.heap h') (ho : h'.get? a = some (lstObj vs' n'))
    (r : RepAll (fz s.heap (XU X O)) vs' ds') : FS G env Γ [(y, ds')] s₀ c X O { s with heap := h', toks := tk } := by
  obtain ⟨b, us, k, h1, h2, h3, h4, h5, h6⟩ := S.own _ (List.mem_singleton.mpr rfl)
  have e := NameIs.uniq h4 hn
  injection e with e
  subst e
  have hle : ∀ q o, s.heap.get? q = some o → ¬ XU X O q → h'.get? q = some o ∧ ¬ XU X O q := fun q o e hx => ⟨hs.extBut q o (fun hb => hx (.inr (hb ▸ h1.1))) e, hx⟩
  have hbase : HLe s₀.heap h' := fun q o e => hs.extBut q o (fun hb => by subst hb; rw [S.fresh _ h1.1] at e; cases e) (Keeps.hle S.keeps q o e)
  have hname : ∀ z w, NameIs env s.heap z w → NameIs env h' z w := by
    rintro z w (⟨k1, m, n, e⟩ | ⟨k1, q, n, e⟩)
    · exact .inl ⟨k1, m, n.sameBut hs (Ne.symm h2), e⟩
    · exact .inr ⟨k1, q, n, e.sameBut hs (Ne.symm (h3 z q n))⟩
  have hkeeps : Keeps s₀ { s with heap := h', toks := tk } := by
    obtain ⟨h₁, t₁, es, k₁⟩ := S.keeps
    rw [es]; exact ⟨h', tk, rfl, hbase⟩
  refine ⟨S.ok₀, hkeeps, ⟨S.ok₀.up hbase, S.inv.envok, fun q hq => ?_, fun q hq => ?_⟩, S.fresh, S.loc, ?_, ?_, S.apart, ?_, fun q o hb e => hs.extBut q o (fun h => hb (h ▸ h1.1)) (S.mod q o hb e)⟩
  · by_cases e : q = b
    · rw [e]; exact ⟨_, ho⟩
    · obtain ⟨o, ho⟩ := S.inv.low q hq
      exact ⟨o, hs.extBut q o e ho⟩
  · obtain ⟨v, n, r⟩ := S.inv.has q hq
    exact ⟨v, hname _ _ n, r.shift hle⟩
  · obtain ⟨m, n⟩ := S.ns
    exact ⟨m, n.sameBut hs (Ne.symm h2)⟩
  · intro z q e
    obtain ⟨a1, a2, v, cv⟩ := S.cells z q e
    exact ⟨a1, a2, v, cv.sameBut hs (Ne.symm (h3 z q e))⟩
  · intro q hq
    rw [List.mem_singleton] at hq
    subst hq
    exact ⟨b, vs', n', h1, h2, h3, hname _ _ h4, ho, r.shift hle⟩

/-- from now on the list is a datum -/
theorem FS.freeze {y : Str} {ds : List Dt} (S : FS G env Γ [(y, ds)] s₀ c X O s) : ∃ O', FS G env ((y, .list ds) :: Γ) [] s₀ s.heap X O' s := by
  obtain ⟨a, vs, n, h1, h2, h3, h4, h5, h6⟩ := S.own _ (List.mem_singleton.mpr rfl)
  have hX : ¬ X a := h1.2
  refine ⟨XM O a, S.ok₀, S.keeps, ⟨S.inv.ok, S.inv.envok, fun b hb => S.inv.low b (hb.elim .inl fun h => .inr h.1), fun q hq => ?_⟩, fun b hb => S.fresh b hb.1, ⟨S.loc, Ne.symm h2⟩, S.ns, fun z q e => ?_, S.apart, fun q hq => (nomatch hq), fun _ _ _ e => e⟩
  · have sh : ∀ b o, s.heap.get? b = some o → ¬ XU X O b → s.heap.get? b = some o ∧ ¬ XU X (XM O a) b := fun b o e hx => ⟨e, fun h => hx (h.elim .inl fun h => .inr h.1)⟩
    rcases List.mem_cons.mp hq with rfl | hq
    · exact ⟨_, h4, .list ⟨h5, fun h => h.elim hX fun h => h.2 rfl⟩ (h6.shift sh)⟩
    · obtain ⟨v, n, r⟩ := S.inv.has q hq
      exact ⟨v, n, r.shift sh⟩
  · obtain ⟨a1, a2, v, cv⟩ := S.cells z q e
    exact ⟨⟨a1, Ne.symm (h3 z q e)⟩, a2, v, cv⟩
end
end Mine

/-! ### MyOwn -/
namespace Mine

def drop (x : Str) (Γ : Ctx) : Ctx := Γ.filter fun p => p.1 != x

section
variable {G : Wrld} {A : Around} {env : Env} {Γ : Ctx} {Ω : List (Str × List Dt)} {s₀ s : Shared} {c : Heap} {X O : Addr → Prop} {E : Value → Shared → Prop}

theorem FS.turned0 {a : Addr} {x : Str} {h' : Heap} {tk : Nat} (S : FS G env Γ Ω s₀ c X O s) (hΩ : ∀ q ∈ Ω, q.1 ≠ x) (hOa : O a) (hs : Heap.SameBut a s.heap h') (hat : ∃ o, h'.get? a = some o)
    (hns : ∀ m, s.heap.Ns env.locals m → ∃ m', h'.Ns env.locals m' ∧ ∀ y, y ≠ x → m' y = m y) (hcl : ∀ y c, env.cells.lookup y = some c → (∃ w, h'.IsCell c w) ∧ ∀ w, y ≠ x → s.heap.IsCell c w → h'.IsCell c w)
    (hown : a = env.locals ∨ ∃ y, env.cells.lookup y = some a) : FS G env (drop x Γ) Ω s₀ c X O { s with heap := h', toks := tk } := by
  have hle : ∀ b o, s.heap.get? b = some o → ¬ XU X O b → h'.get? b = some o ∧ ¬ XU X O b := fun b o e hx => ⟨hs.extBut b o (fun hb => hx (.inr (hb ▸ hOa))) e, hx⟩
  have hbase : HLe s₀.heap h' := fun b o e => hs.extBut b o (fun hb => by subst hb; rw [S.fresh _ hOa] at e; cases e) (Keeps.hle S.keeps b o e)
  have hname : ∀ y w, y ≠ x → NameIs env s.heap y w → NameIs env h' y w := by
    rintro y w hy (⟨k1, m, n, e⟩ | ⟨k1, c, n, e⟩)
    · obtain ⟨m', n', e'⟩ := hns m n
      exact .inl ⟨k1, m', n', by rw [e' y hy]; exact e⟩
    · exact .inr ⟨k1, c, n, (hcl y c n).2 _ hy e⟩
  have hkeeps : Keeps s₀ { s with heap := h', toks := tk } := by
    obtain ⟨h₁, t₁, es, k₁⟩ := S.keeps
    rw [es]; exact ⟨h', tk, rfl, hbase⟩
  refine ⟨S.ok₀, hkeeps, ⟨S.ok₀.up hbase, S.inv.envok, ?_, ?_⟩, S.fresh, S.loc, ?_, ?_, S.apart, ?_, fun b o hb e => hs.extBut b o (fun hh => hb (hh ▸ hOa)) (S.mod b o hb e)⟩
  · intro b hb
    by_cases e : b = a
    · rw [e]; exact hat
    · obtain ⟨o, ho⟩ := S.inv.low b hb
      exact ⟨o, hs.extBut b o e ho⟩
  · intro q hq
    obtain ⟨hq, hne⟩ := List.mem_filter.mp hq
    obtain ⟨u, n, ru⟩ := S.inv.has q hq
    exact ⟨u, hname _ _ (by simpa using hne) n, ru.shift hle⟩
  · obtain ⟨m, n⟩ := S.ns
    obtain ⟨m', n', _⟩ := hns m n
    exact ⟨m', n'⟩
  · intro y c e
    obtain ⟨a1, a2, _⟩ := S.cells y c e
    exact ⟨a1, a2, (hcl y c e).1⟩
  · intro q hq
    obtain ⟨b, vs, n, h1, h2, h3, h4, h5, h6⟩ := S.own q hq
    refine ⟨b, vs, n, h1, h2, h3, hname _ _ (hΩ q hq) h4, hs.extBut b _ ?_ h5, h6.shift hle⟩
    rcases hown with rfl | ⟨y, e⟩
    · exact h2
    · exact h3 y a e

theorem FS.storeRaw {x : Str} {v : Value} {Q : Unit → Shared → Prop} (S : FS G env Γ Ω s₀ c X O s) (hx : canStore env x = true) (hΩ : ∀ q ∈ Ω, q.1 ≠ x)
    (h : ∀ h' tk a, FS G env (drop x Γ) Ω s₀ c X O { s with heap := h', toks := tk } → NameIs env h' x v → (a = env.locals ∨ ∃ y, env.cells.lookup y = some a) → Heap.SameBut a s.heap h' → Q () { s with heap := h', toks := tk }) : wpAny G.M A (storeName env x v) Q E s := by
  have hk := S.inv.envok.kind
  unfold canStore at hx
  rcases Bool.or_eq_true_iff.mp hx with hl | hc
  · have hl : env.kindOf x = some .local := by simpa using hl
    obtain ⟨m, n⟩ := S.ns
    refine wpAny_storeName_local hl n (fun h' hn' hs' => ?_) (by rw [hk]; rfl)
    refine h h' _ _ (S.turned0 hΩ S.loc hs' (let ⟨o, _, _, ho, _⟩ := hn'; ⟨o, ho⟩) (fun m₁ n₁ => ?_) (fun y c e => ?_) (.inl rfl)) (.inl ⟨hl, _, hn', by simp⟩) (.inl rfl) hs'
    · refine ⟨_, hn', fun y hy => ?_⟩
      rw [if_neg hy]
      obtain ⟨o, es, ep, h1, h2, _, h3⟩ := n
      obtain ⟨o', es', ep', h1', h2', _, h3'⟩ := n₁
      rw [h1] at h1'; cases h1'
      rw [h2] at h2'; cases h2'
      rw [← h3, ← h3']
    · obtain ⟨_, hne, w, hw⟩ := S.cells y c e
      exact ⟨⟨w, hw.sameBut hs' hne⟩, fun w' _ hw' => hw'.sameBut hs' hne⟩
  · obtain ⟨hl, hs⟩ := Bool.and_eq_true_iff.mp hc
    have hl : env.kindOf x = some .cell := by simpa using hl
    obtain ⟨q, hc⟩ := Option.isSome_iff_exists.mp hs
    obtain ⟨hOc, hne, w, hw⟩ := S.cells x q hc
    refine wpAny_storeName_cell hk hl hc hw fun h' hc' hs' => ?_
    refine h h' s.toks _ (S.turned0 hΩ hOc hs' (let ⟨o, ho, _⟩ := hc'; ⟨o, ho⟩) (fun m₁ n₁ => ⟨m₁, n₁.sameBut hs' (Ne.symm hne), fun _ _ => rfl⟩) (fun y c' e => ?_) (.inr ⟨x, hc⟩)) (.inr ⟨.inl hl, q, hc, hc'⟩) (.inr ⟨x, hc⟩) hs'
    by_cases hcc : c' = q
    · subst hcc
      exact ⟨⟨_, hc'⟩, fun w' hy _ => absurd (S.apart y x c' e hc) hy⟩
    · obtain ⟨_, _, w', hw'⟩ := S.cells y c' e
      exact ⟨⟨w', hw'.sameBut hs' hcc⟩, fun w'' _ hw'' => hw''.sameBut hs' hcc⟩

/-- a new own place -/
theorem FS.grow {a : Addr} {s' : Shared} (S : FS G env Γ Ω s₀ c X O s) (k : Keeps s s') (ha : s.heap.get? a = none) (ha' : ∃ o, s'.heap.get? a = some o) : FS G env Γ Ω s₀ c X (XI O a) s' := by
  have S' := S.up k
  have sh : ∀ b o, s.heap.get? b = some o → ¬ XU X O b → s'.heap.get? b = some o ∧ ¬ XU X (XI O a) b := fun b o e hx => ⟨Keeps.hle k b o e, fun h => by
    rcases h with h | h | rfl
    · exact hx (.inl h)
    · exact hx (.inr h)
    · rw [ha] at e; cases e⟩
  refine ⟨S'.ok₀, S'.keeps, ⟨S'.inv.ok, S'.inv.envok, fun b hb => ?_, fun q hq => ?_⟩, fun b hb => ?_, .inl S'.loc, S'.ns, fun y q e => ?_, S'.apart, fun q hq => ?_, fun b o hb e => S'.mod b o (fun h => hb (.inl h)) e⟩
  · rcases hb with h | h | rfl
    · exact S'.inv.low b (.inl h)
    · exact S'.inv.low b (.inr h)
    · exact ha'
  · obtain ⟨v, n, r⟩ := S.inv.has q hq
    exact ⟨v, n.up (Keeps.hle k), r.shift sh⟩
  · rcases hb with h | rfl
    · exact S.fresh b h
    · cases e : s₀.heap.get? b with
      | none => rfl
      | some o => have := Keeps.hle S.keeps _ _ e; rw [ha] at this; cases this
  · obtain ⟨a1, a2, a3⟩ := S'.cells y q e
    exact ⟨.inl a1, a2, a3⟩
  · obtain ⟨b, vs, n, h1, h2, h3, h4, h5, h6⟩ := S.own q hq
    exact ⟨b, vs, n, ⟨.inl h1.1, h1.2⟩, h2, h3, h4.up (Keeps.hle k), Keeps.hle k _ _ h5, h6.shift sh⟩

/-- y = [] -/
theorem FS.ownNil {y : Str} {py p pos : Pos} {Q : Flow → Shared → Prop} (S : FS G env Γ [] s₀ c X O s) (hx : canStore env y = true) (hs : swapsWith (.List [] p) (some (.Name y py)) pos.line env = pure false)
    (h : ∀ O' s', FS G env (drop y Γ) [(y, [])] s₀ c X O' s' → Q .next s') : wpAny G.M A (exec (.Assign [.Name y py] (.List [] p) pos) env) Q E s := by
  refine wpAny_Assign_Name (List_ (spliced_nil (wpAny_newObj_type ?_))) hs
  have hfresh := get?_size s.heap
  have S₁ : FS G env Γ [] s₀ c X (XI O s.heap.objs.size) { s with heap := s.heap.push (lstObj [] 0) } := S.grow (Keeps.mk' (HLe.push _ _)) hfresh ⟨_, Heap.get?_push_size _ rfl⟩
  have hnl : s.heap.objs.size ≠ env.locals := fun e => by
    obtain ⟨m, o, _, _, ho, _⟩ := S.ns
    rw [← e, hfresh] at ho; cases ho
  have hnc : ∀ z q, env.cells.lookup z = some q → s.heap.objs.size ≠ q := fun z q e e' => by
    obtain ⟨_, _, v, o, ho, _⟩ := S.cells z q e
    rw [← e', hfresh] at ho; cases ho
  have hnX : ¬ X s.heap.objs.size := fun hX => by
    obtain ⟨o, ho⟩ := S.inv.low _ (.inl hX)
    rw [hfresh] at ho; cases ho
  refine S₁.storeRaw hx (fun q hq => nomatch hq) fun h' tk a S₂ hn ha hsb => h (XI O s.heap.objs.size) _ ?_
  refine { S₂ with own := fun q hq => ?_ }
  rw [List.mem_singleton] at hq
  subst hq
  refine ⟨s.heap.objs.size, [], 0, ⟨.inr rfl, hnX⟩, hnl, hnc, hn, hsb.extBut _ _ ?_ (Heap.get?_push_size _ rfl), .nil⟩
  rcases ha with rfl | ⟨z, e⟩
  · exact hnl
  · exact hnc z a e

theorem eval_nm {y : Str} {py : Pos} {v : Value} {Q : Value → Shared → Prop} (hk : EnvOk env) (n : NameIs env s.heap y v) (h : Q v s) (hd : (y == ("__debug__" : Str)) = false := by decide) (hd2 : (y == ("__classdict__" : Str)) = false := by decide) : wpAny G.M A (eval (.Name y py) env) Q E s := by
  rcases n with ⟨a, m, b, e⟩ | ⟨a | a, q, b, e⟩
  · exact wpAny_Name (wpAny_loadName_local hk.kind a b e h) hd
  · exact wpAny_Name (wpAny_loadName_cell hk.kind a b e h) hd
  · exact wpAny_Name (wpAny_loadName_free hk.kind a b e h hd2) hd

/-- y.append(e) -/
theorem FS.append {y : Str} {py p apos pos : Pos} {e : Expr} {ds : List Dt} {d : Dt} {Q : Flow → Shared → Prop} (S : FS G env Γ [(y, ds)] s₀ c X O s) (he : Ev G A env Γ e d) (hlen : ds.length ≤ 1000000)
    (h : ∀ s', FS G env Γ [(y, ds ++ [d])] s₀ c X O s' → Q .next s') (hd : (y == ("__debug__" : Str)) = false := by decide) (hd2 : (y == ("__classdict__" : Str)) = false := by decide)
    (hbase : attributeBase (.Name y py) "append" env (eval (.Name y py) env) = eval (.Name y py) env := by rfl) (hs : starEach [e] env = [(false, eval e env)] := by rfl) (hline : (apos.endLine == p.line) = true := by rfl)
    (hi : interactive env = false := by rfl) (hsw : swapsWith (.Call (.Attribute (.Name y py) "append" apos) [e] [] p) none pos.line env = pure false := by rfl) :
    wpAny G.M A (exec (.Expr (.Call (.Attribute (.Name y py) "append" apos) [e] [] p) pos) env) Q E s := by
  refine wpAny_Expr ?_ hi hsw
  obtain ⟨a, vs, n, h1, h2, h3, hn, ho, hr⟩ := S.own _ (List.mem_singleton.mpr rfl)
  refine Call_method1 hbase hs hline (eval_nm S.inv.envok hn ?_ hd hd2)
  refine ⟨"list", "list.append", PySem.F.plainAttrs_list, PySem.F.slot_list_append, PySem.F.type_list_append, ⟨_, ho, rfl⟩, fun b e => by cases e; exact ⟨_, ho, rfl⟩, ?_⟩
  refine Calls.callWith_builtin rfl (Calls.evalArgs_plain (Calls.spliced_cons (S.ev he fun v₂ s₂ S₂ k₂ r₂ => Calls.spliced_nil ?_)))
  have hr₂ := hr.up (Keeps.hle k₂)
  refine wpAny_list_append_plain (l := a) (items := vs.toArray) ⟨n, Keeps.hle k₂ _ _ ho⟩ (fun h' hp' hs' => ?_) (by have e := hr.length; rw [List.size_toArray, e, sizeLine_eq]; show ds.length ≤ _; omega)
  obtain ⟨n', hp'⟩ := hp'
  rw [List.push_toArray] at hp'
  exact h _ (S₂.ownTurned (vs := vs) (n := n) (tk := s₂.toks) (hn.up (Keeps.hle k₂)) hs' hp' (RepAll.append hr₂ (RepAll.one r₂)))

theorem inserted (vs : List Value) (y : Value) (n k : Nat) (x : Int) (hx : 0 ≤ x) (hk : x.toNat = k) (hkl : k ≤ vs.length) :
    Obj.mapSeq (fun xs => have k := if x < 0 then (x + (xs.size : Int)).toNat else min x.toNat xs.size; (xs.extract 0 k).push y ++ xs.extract k) (lstObj vs n) = lstObj (vs.take k ++ [y] ++ vs.drop k) (n + 1) := by
  have h1 : ¬ x < 0 := by omega
  have h2 : min x.toNat vs.toArray.size = k := by rw [List.size_toArray]; omega
  have h3 : ((vs.toArray.extract 0 k).push y ++ vs.toArray.extract k) = (vs.take k ++ [y] ++ vs.drop k).toArray := by
    apply Array.toList_inj.mp
    simp [List.take_of_length_le]
  simp only [Obj.mapSeq, h1, if_false, h2, h3]
  have h4 : ((vs.take k ++ [y] ++ vs.drop k).toArray.size == vs.toArray.size) = false := by
    simp only [List.size_toArray, List.length_append, List.length_take, List.length_drop, List.length_cons, List.length_nil, beq_eq_false_iff_ne]
    omega
  rw [h4]; rfl

theorem RepAll.take {F : FM} : ∀ {vs : List Value} {ds : List Dt}, RepAll F vs ds → ∀ k, RepAll F (vs.take k) (ds.take k)
  | _, _, .nil, k => by simp; exact .nil
  | _, _, .cons h r, 0 => by simp; exact .nil
  | _, _, .cons h r, k + 1 => by simp only [List.take_succ_cons]; exact .cons h (RepAll.take r k)
theorem RepAll.drop {F : FM} : ∀ {vs : List Value} {ds : List Dt}, RepAll F vs ds → ∀ k, RepAll F (vs.drop k) (ds.drop k)
  | _, _, .nil, k => by simp; exact .nil
  | _, _, .cons h r, 0 => .cons h r
  | _, _, .cons h r, k + 1 => by simp only [List.drop_succ_cons]; exact RepAll.drop r k

/-- y.insert(i, e) -/
theorem FS.insert {y : Str} {py p apos pos : Pos} {e₁ e₂ : Expr} {ds : List Dt} {i : Int} {d : Dt} {Q : Flow → Shared → Prop} (S : FS G env Γ [(y, ds)] s₀ c X O s) (he₁ : Ev G A env Γ e₁ (.int i)) (he₂ : Ev G A env Γ e₂ d) (hi0 : 0 ≤ i) (hil : i ≤ ds.length) (hlen : ds.length ≤ 1000000)
    (h : ∀ s', FS G env Γ [(y, ds.take i.toNat ++ [d] ++ ds.drop i.toNat)] s₀ c X O s' → Q .next s') (hd : (y == ("__debug__" : Str)) = false := by decide) (hd2 : (y == ("__classdict__" : Str)) = false := by decide)
    (hbase : attributeBase (.Name y py) "insert" env (eval (.Name y py) env) = eval (.Name y py) env := by rfl) (hs : starEach [e₁, e₂] env = [(false, eval e₁ env), (false, eval e₂ env)] := by rfl) (hline : (apos.endLine == p.line) = true := by rfl)
    (hi : interactive env = false := by rfl) (hsw : swapsWith (.Call (.Attribute (.Name y py) "insert" apos) [e₁, e₂] [] p) none pos.line env = pure false := by rfl) :
    wpAny G.M A (exec (.Expr (.Call (.Attribute (.Name y py) "insert" apos) [e₁, e₂] [] p) pos) env) Q E s := by
  refine wpAny_Expr ?_ hi hsw
  obtain ⟨a, vs, n, h1, h2, h3, hn, ho, hr⟩ := S.own _ (List.mem_singleton.mpr rfl)
  have hlv : vs.length = ds.length := hr.length
  refine Call_method2 hbase hs hline (eval_nm S.inv.envok hn ?_ hd hd2)
  refine ⟨"list", "list.insert", PySem.F.plainAttrs_list, PySem.F.slot_list_insert, PySem.F.type_list_insert, ⟨_, ho, rfl⟩, fun b e => by cases e; exact ⟨_, ho, rfl⟩, ?_⟩
  refine Calls.callWith_builtin rfl (Calls.evalArgs_plain (Calls.spliced_cons (S.ev he₁ fun v₂ s₂ S₂ k₂ r₂ => Calls.spliced_cons (S₂.ev he₂ fun v₃ s₃ S₃ k₃ r₃ => Calls.spliced_nil ?_))))
  cases r₂
  rename_i t₂
  have kk := Keeps.trans' k₂ k₃
  have hr₃ := hr.up (Keeps.hle kk)
  have ho₃ := Keeps.hle kk _ _ ho
  have hk : i.toNat ≤ vs.length := by omega
  refine call_meets PySem.F.slot_list_insert ⟨_, ho₃, rfl⟩ PySem.F.entry_list_insert (PySem.F.args_list_insert_3 _ _ _) (AutoSeq1.list_insert_list_int_val_1 a vs.toArray n i t₂ v₃ ?_ (by rw [List.size_toArray, sizeLine_eq]; omega)) ⟨ho₃, ?_⟩
  · unfold Builtin.List.listFitsIndex
    have e1 : decide (-(2 ^ 63 : Int) ≤ i) = true := decide_eq_true (by omega)
    have e2 : decide (i < (2 ^ 63 : Int)) = true := decide_eq_true (by omega)
    rw [e1, e2]; decide
  · have hup := Heap.get?_update_self (Obj.mapSeq (fun xs => have k := if i < 0 then (i + (xs.size : Int)).toNat else min i.toNat xs.size; (xs.extract 0 k).push v₃ ++ xs.extract k)) ho₃ (by rw [inserted vs v₃ n i.toNat i hi0 rfl hk]; rfl)
    rw [inserted vs v₃ n i.toNat i hi0 rfl hk] at hup
    refine h _ (S₃.ownTurned (vs := vs) (n := n) (hn.up (Keeps.hle kk)) (Heap.SameBut.update ..) hup ?_)
    exact RepAll.append (RepAll.append (hr₃.take _) (RepAll.one r₃)) (hr₃.drop _)
end
end Mine

/-! ### MyAsg -/
namespace Mine

section
variable {G : Wrld} {A : Around} {env : Env} {Γ : Ctx} {Ω : List (Str × List Dt)} {s₀ s : Shared} {c : Heap} {X O : Addr → Prop} {E : Value → Shared → Prop}

theorem FS.placeGone {a : Addr} {h' : Heap} {tk : Nat} (S : FS G env Γ Ω s₀ c X (XI O a) s) (hO : ¬ O a) (hX : ¬ X a) (hl : a ≠ env.locals) (hcl : ∀ y q, env.cells.lookup y = some q → a ≠ q) (hown : ∀ q ∈ Ω, ¬ NameIs env s.heap q.1 (.ref a))
    (h0 : s₀.heap.get? a = none) (hc : c.get? a = none) (hk : ∀ b o, b ≠ a → s.heap.get? b = some o → h'.get? b = some o) : FS G env Γ Ω s₀ c X O { s with heap := h', toks := tk } := by
  have hbase : HLe s₀.heap h' := fun b o e => hk b o (fun hb => by subst hb; rw [h0] at e; cases e) (Keeps.hle S.keeps b o e)
  have sh : ∀ b o, s.heap.get? b = some o → ¬ XU X (XI O a) b → h'.get? b = some o ∧ ¬ XU X O b := fun b o e hx => ⟨hk b o (fun h => hx (.inr (.inr h))) e, fun h => hx (h.elim .inl fun h => .inr (.inl h))⟩
  have hname : ∀ y w, NameIs env s.heap y w → NameIs env h' y w := by
    rintro y w (⟨k1, m, n, e⟩ | ⟨k1, q, n, e⟩)
    · exact .inl ⟨k1, m, n.at' fun o e => hk _ o (Ne.symm hl) e, e⟩
    · obtain ⟨o, ho, hd⟩ := e
      exact .inr ⟨k1, q, n, o, hk _ o (Ne.symm (hcl y q n)) ho, hd⟩
  have hkeeps : Keeps s₀ { s with heap := h', toks := tk } := by
    obtain ⟨h₁, t₁, es, k₁⟩ := S.keeps
    rw [es]; exact ⟨h', tk, rfl, hbase⟩
  have hloc : O env.locals := S.loc.elim id fun e => absurd e.symm hl
  refine ⟨S.ok₀, hkeeps, ⟨S.ok₀.up hbase, S.inv.envok, fun b hb => ?_, fun q hq => ?_⟩, fun b hb => S.fresh b (.inl hb), hloc, ?_, ?_, S.apart, ?_, fun b o hb e => ?_⟩
  · have hne : b ≠ a := fun h => by subst h; exact hb.elim hX hO
    obtain ⟨o, ho⟩ := S.inv.low b (hb.elim .inl fun h => .inr (.inl h))
    exact ⟨o, hk b o hne ho⟩
  · obtain ⟨v, n, r⟩ := S.inv.has q hq
    exact ⟨v, hname _ _ n, r.shift sh⟩
  · obtain ⟨m, n⟩ := S.ns
    exact ⟨m, n.at' fun o e => hk _ o (Ne.symm hl) e⟩
  · intro y q e
    obtain ⟨a1, a2, v, o, ho, hd⟩ := S.cells y q e
    exact ⟨a1.elim id fun h => absurd h.symm (hcl y q e), a2, v, o, hk _ o (Ne.symm (hcl y q e)) ho, hd⟩
  · intro q hq
    obtain ⟨b, vs, n, h1, h2, h3, h4, h5, h6⟩ := S.own q hq
    have hba : b ≠ a := fun e => hown q hq (e ▸ h4)
    exact ⟨b, vs, n, ⟨h1.1.elim id fun h => absurd h hba, h1.2⟩, h2, h3, hname _ _ h4, hk b _ hba h5, h6.shift sh⟩
  · have hne : b ≠ a := fun h => by subst h; rw [hc] at e; cases e
    exact hk b o hne (S.mod b o (fun h => h.elim hb hne) e)

theorem FS.store2 {x : Str} {v : Value} {d : Dt} {Q : Unit → Shared → Prop} (S : FS G env Γ Ω s₀ c X O s) (hx : canStore env x = true) (hΩ : ∀ q ∈ Ω, q.1 ≠ x) (r : Rep (fz s.heap (XU X O)) v d)
    (h : ∀ h' tk a, FS G env (put x d Γ) Ω s₀ c X O { s with heap := h', toks := tk } → (a = env.locals ∨ ∃ y, env.cells.lookup y = some a) → Heap.SameBut a s.heap h' → Q () { s with heap := h', toks := tk }) : wpAny G.M A (storeName env x v) Q E s := by
  refine S.storeRaw hx hΩ fun h' tk a S' n ha hs => h h' tk a { S' with inv := ⟨S'.inv.ok, S'.inv.envok, S'.inv.low, fun q hq => ?_⟩ } ha hs
  have hOa : O a := by
    rcases ha with rfl | ⟨y, e⟩
    · exact S.loc
    · exact (S.cells y a e).1
  rcases List.mem_cons.mp hq with rfl | hq
  · exact ⟨v, n, r.shift fun b o e hx => ⟨hs.extBut b o (fun hb => hx (.inr (hb ▸ hOa))) e, hx⟩⟩
  · exact S'.inv.has q hq

set_option maxHeartbeats 1000000 in
/-- y = [elt for x in iter if ..], the store ahead of the block's own names' end -/
theorem FS.assignComp {elt iter : Expr} {x y : Str} {px py : Pos} {ifs : List Expr} {scope : Scope} {pos spos : Pos} {d : Dt} {xs : List Dt} {Q : Flow → Shared → Prop} (p : Dt → Bool) (f : Dt → Dt) (S : FS G env Γ [] s₀ c X O s) (hh : A.handled = none)
    (hsw : swapsWith (.ListComp elt [⟨.Name x px, iter, ifs, 0⟩] scope pos) (some (.Name y py)) spos.line env = pure true) (hy : canStore env y = true) (hb : blockOk scope x = true) (hc : cloOk scope.names env = true)
    (hiter : Ev G A env Γ iter d) (hx : d.items = some xs) (ok : d.srcOk) (hsz : xs.length ≤ 1000000)
    (htest : ∀ C d, d ∈ xs → EvTs G A (cEnv scope C env) ((x, d) :: seen scope Γ) ifs (p d)) (helt : ∀ C d, d ∈ xs → p d = true → Ev G A (cEnv scope C env) ((x, d) :: seen scope Γ) elt (f d))
    (h : ∀ s', FS G env (put y (.list ((xs.filter p).map f)) Γ) [] s₀ c X O s' → Q .next s')
    (hs : ∀ v, foldedSetIterable iter env v = pure v := by intro _; rfl) : wpAny G.M A (exec (.Assign [.Name y py] (.ListComp elt [⟨.Name x px, iter, ifs, 0⟩] scope pos) spos) env) Q E s := by
  obtain ⟨hkind, hcell, hnames, hxl⟩ := blockOk_of hb
  rw [exec_Assign_Name_used _ _ _ _ hsw]
  refine wpAny_bind (wpAny_standAt (wpAny_bind ?_))
  show wpAny _ A (do let _ ← comprehension (.ListComp elt [⟨.Name x px, iter, ifs, 0⟩] scope pos) scope env _ (newList []) false (eval iter env) (some (PySem.assign (.Name y py) env))) _ _ s
  refine wpAny_bind (wpAny_comprehension_free (use := some (PySem.assign (.Name y py) env)) rfl hs (closureFor_eq hc) hkind hnames (S.ev hiter fun v s₁ S₁ k₁ r₁ => iter_src (G := G) hh r₁ hx ok fun I fp P St s₂ k₂ it => ?_))
  refine comp_block (RR := fun acc C => compPost G.M A E (some (PySem.assign (.Name y py) env)) _ acc C) p f S₁.inv k₂ it hc hcell hkind hxl hsz htest helt ?_
  intro D C h' tk m' ys hD hC hXD hDC hk' hn' hpl hrep
  have hK : Keeps s₁ { s₂ with heap := h', toks := tk } := by
    obtain ⟨h₂, t₂, rfl, _⟩ := k₂
    exact ⟨h', tk, rfl, hk'⟩
  have hCO : ¬ O C := fun hO => by obtain ⟨o, ho⟩ := S₁.inv.low C (.inr hO); rw [hC] at ho; cases ho
  have hCX : ¬ X C := fun hO => by obtain ⟨o, ho⟩ := S₁.inv.low C (.inl hO); rw [hC] at ho; cases ho
  have hCl : C ≠ env.locals := fun e => by obtain ⟨m, o, _, _, ho, _⟩ := S₁.ns; rw [← e, hC] at ho; cases ho
  have hCc : ∀ z q, env.cells.lookup z = some q → C ≠ q := fun z q e e' => by obtain ⟨_, _, v, o, ho, _⟩ := S₁.cells z q e; rw [← e', hC] at ho; cases ho
  have hC0 : s₀.heap.get? C = none := by
    cases e : s₀.heap.get? C with
    | none => rfl
    | some o => have := Keeps.hle S₁.keeps _ _ e; rw [hC] at this; cases this
  have hCm : c.get? C = none := by
    cases e : c.get? C with
    | none => rfl
    | some o => have := S₁.mod _ _ hCO e; rw [hC] at this; cases this
  have S₂ : FS G env Γ [] s₀ c X (XI O C) { s₂ with heap := h', toks := tk } := S₁.grow hK hC (let ⟨o, _, _, ho, _⟩ := hn'; ⟨o, ho⟩)
  obtain ⟨nD, hpl⟩ := hpl
  have rD : Rep (fz h' (XU X (XI O C))) (.ref D) (.list ((xs.filter p).map f)) := .list ⟨hpl, fun hx => by
      rcases hx with h | h | h
      · exact hXD (.inl h)
      · exact hXD (.inr h)
      · exact hDC h⟩ (hrep.shift fun b o e hx => ⟨e, fun hu => hx (by
      rcases hu with h | h | h
      · exact .inl (.inl h)
      · exact .inl (.inr h)
      · exact .inr (.inr (.inr (List.mem_singleton.mpr h))))⟩)
  refine wpAny_assign_Name (S₂.store2 hy (fun q hq => nomatch hq) rD fun h'' tk'' a S₃ ha hsb => ?_)
  have hCa : C ≠ a := by
    rcases ha with rfl | ⟨z, e⟩
    · exact hCl
    · exact hCc z a e
  refine ⟨m', hn'.sameBut hsb hCa, fun h₃ hs₃ => wpAny_pure ?_⟩
  exact wpAny_pure (h _ (S₃.placeGone (tk := _) hCO hCX hCl hCc (fun q hq => nomatch hq) hC0 hCm fun b o hb e => hs₃.extBut b o hb e))
end
end Mine

/-! ### MyFun -/
namespace Mine

theorem lookup_zip_none : ∀ (names : List Str) (vs : List Value) (n : Str), n ∉ names → (names.zip vs).reverse.lookup n = none := by
  intro names vs n hn
  cases e : (names.zip vs).reverse.lookup n with
  | none => rfl
  | some v =>
    have := PySem.mem_of_lookup e
    rw [List.mem_reverse] at this
    exact absurd (List.of_mem_zip this).1 hn

theorem binds_rep {F : FM} : ∀ {names : List Str} {vs : List Value} {ds : List Dt}, names.Nodup → RepAll F vs ds → ∀ p ∈ names.zip ds, ∃ v, (names.zip vs).reverse.lookup p.1 = some v ∧ Rep F v p.2
  | [], _, _, _, _, p, hp => by simp at hp
  | n :: ns, _, _, _, .nil, p, hp => by simp at hp
  | n :: ns, v :: vs, d :: ds, hnd, .cons h r, p, hp => by
    have hnd' := List.nodup_cons.mp hnd
    simp only [List.zip_cons_cons, List.reverse_cons]
    rw [List.lookup_append]
    simp only [List.zip_cons_cons, List.mem_cons] at hp
    rcases hp with rfl | hp
    · refine ⟨v, ?_, h⟩
      rw [lookup_zip_none ns vs n hnd'.1]
      simp
    · obtain ⟨u, hu, ru⟩ := binds_rep hnd'.2 r p hp
      exact ⟨u, by rw [hu]; rfl, ru⟩

def fenv (fd : FuncData) (L f : Addr) : Env := newEnv fd.scope L fd.globals [] (fd.qualname ++ ".<locals>.") (some f) fd.code none fd.builtins

/-- what a def of the text must be for the call's rule -/
structure FunOk (G : Wrld) (f : Addr) (fd : FuncData) (body : List Stmt) (names : List Str) : Prop where
  at_ : ∃ oc od sl, G.K.lookup f = some ⟨oc, od, .func fd, sl⟩
  code : codeIn G.K fd.code fd.qualname = true
  body : fd.body = .stmts body
  clo : fd.closure = []
  co : fd.scope.isCoroutine = false
  gen : fd.scope.isGenerator = false
  kind : fd.scope.kind = .function
  g : fd.globals = mainGlobals
  b : fd.builtins = builtinsNs
  nocell : ∀ x ∈ fd.scope.names, x.2 ≠ .cell
  loc : ∀ n ∈ names, fd.scope.names.lookup n = some .local
  nodup : names.Nodup
  bind : ∀ vs : List Value, vs.length = names.length → bindArgs fd ⟨vs, []⟩ = pure (names.zip vs)

section
variable {G : Wrld} {A : Around}

theorem call_fn {f : Addr} {fd : FuncData} {body : List Stmt} {names : List Str} {ds : List Dt} {d : Dt} (K : FunOk G f fd body names) (hn : ds.length = names.length) (hroom : A.depth < recursionLimit)
    (h : ∀ (s : Shared) (X : Addr → Prop) (L : Addr) (s' : Shared), (∃ vs, RepAll (fz s.heap X) vs ds ∧ s'.heap.Ns L (fun x => (names.zip vs).reverse.lookup x) ∧ s.heap.objs.size ≤ L) → FS G (fenv fd L f) (names.zip ds) [] s s.heap X (fun a => a = L) s' →
      wpAny G.M (A.deeper (fenv fd L f)) (execs body (fenv fd L f)) (fun fl s'' => ∃ v, fl = .ret v ∧ Keeps s s'' ∧ Rep (fz s''.heap X) v d) (fun _ _ => False) s') : CallIs G A (.ref f) ds d := by
  intro s X E Q vs ok low r hQ
  obtain ⟨oc, od, sl, hK⟩ := K.at_
  have hlen : vs.length = names.length := r.length.trans hn
  refine wpAny_call (codeAny_call_function hroom (ok.frag _ _ hK) rfl K.co K.gen K.body (codeRec_of ok.frag K.code) ?_)
  rw [K.bind vs hlen, K.clo]
  refine wpAny_pure (wpAny_newFunctionEnv K.nocell (fun x hx => K.loc _ (List.of_mem_zip hx).1) (fun h₁ hns hsb => ⟨?_, ?_⟩) K.kind)
  · exact ok.nolim.fresh _ hsb
  · have hfresh := get?_size s.heap
    have hle : HLe s.heap h₁ := fun b o e => hsb.extBut b o (Nat.ne_of_lt (Heap.lt_size e)) (Heap.get?_push_of_some _ e)
    have hKp : Keeps s { s with heap := h₁, toks := s.toks + (names.zip vs).length } := Keeps.mk' hle
    have FS0 : FS G (fenv fd s.heap.objs.size f) (names.zip ds) [] s s.heap X (fun a => a = s.heap.objs.size) { s with heap := h₁, toks := s.toks + (names.zip vs).length } := by
      refine ⟨ok, hKp, ⟨ok.up hle, ⟨K.kind, K.g, K.b⟩, fun a ha => ?_, fun p hp => ?_⟩, fun a ha => by subst ha; exact hfresh, rfl, ⟨_, hns⟩, fun y q e => (by cases e), fun y y' q e => (by cases e), fun q hq => (nomatch hq), fun b o _ e => hle b o e⟩
      · rcases ha with ha | rfl
        · exact (low.mono hle) a ha
        · obtain ⟨o, _, _, ho, _⟩ := hns; exact ⟨o, ho⟩
      · obtain ⟨v, hv, rv⟩ := binds_rep K.nodup r p hp
        refine ⟨v, .inl ⟨K.loc _ (List.of_mem_zip hp).1, _, hns, hv⟩, rv.shift fun a o e hx => ⟨hle a o e, fun hu => ?_⟩⟩
        rcases hu with hu | hu
        · exact hx hu
        · have hu' : a = s.heap.objs.size := hu
          subst hu'; rw [hfresh] at e; cases e
    refine codeAny_func (wpAny_mono (h s X _ _ ⟨vs, r, hns, Nat.le_refl _⟩ FS0) (fun fl s'' hf => ?_) fun _ _ hF => hF.elim)
    obtain ⟨v, rfl, k, rv⟩ := hf
    exact hQ v s'' k rv
end
end Mine

/-! ### MyTup -/
namespace Mine

def putAll : List (Str × Pos) → List Dt → Ctx → Ctx
  | (x, _) :: xs, d :: ds, Γ => putAll xs ds (put x d Γ)
  | _, _, Γ => Γ

section
variable {G : Wrld} {A : Around} {env : Env} {Γ : Ctx} {Ω : List (Str × List Dt)} {s₀ s : Shared} {c : Heap} {X O : Addr → Prop} {E : Value → Shared → Prop}

theorem FS.inOrder : ∀ (names : List (Str × Pos)) (vs : List Value) (ds : List Dt) (Γ : Ctx) (s : Shared) (Q : Unit → Shared → Prop), FS G env Γ Ω s₀ c X O s → RepAll (fz s.heap (XU X O)) vs ds → names.length = ds.length →
    (∀ n ∈ names, canStore env n.1 = true) → (∀ n ∈ names, ∀ q ∈ Ω, q.1 ≠ n.1) → (∀ s', FS G env (putAll names ds Γ) Ω s₀ c X O s' → Q () s') →
    wpAny G.M A (assignInOrder (names.map fun n => PySem.assign (.Name n.1 n.2) env) vs) Q E s
  | [], vs, ds, Γ, s, Q, S, r, hl, hc, hΩ, h => by
    cases r with
    | nil => exact assignInOrder_nil (h s S)
    | cons _ _ => simp at hl
  | n :: ns, vs, ds, Γ, s, Q, S, r, hl, hc, hΩ, h => by
    cases r with
    | nil => simp at hl
    | cons rv rr =>
      refine assignInOrder_cons (wpAny_assign_Name (S.store2 (hc n (List.mem_cons_self)) (hΩ n (List.mem_cons_self)) rv fun h' tk a S' ha hs => ?_))
      have hOa : O a := by
        rcases ha with rfl | ⟨y, e⟩
        · exact S.loc
        · exact (S.cells y a e).1
      refine FS.inOrder ns _ _ _ _ _ S' (rr.shift fun b o e hx => ⟨hs.extBut b o (fun hb => hx (.inr (hb ▸ hOa))) e, hx⟩) (by simpa using hl) (fun m hm => hc m (List.mem_cons_of_mem _ hm)) (fun m hm => hΩ m (List.mem_cons_of_mem _ hm)) h

theorem FS.unpack {elts : List Expr} {k : Nat} {pos : Pos} {v : Value} {ds : List Dt} {Q : Unit → Shared → Prop} (names : List (Str × Pos)) (S : FS G env Γ Ω s₀ c X O s) (hh : A.handled = none) (r : Rep (fz s.heap (XU X O)) v (.tup ds)) (hl : names.length = ds.length)
    (he : (assignEach elts env).map (·.2) = names.map fun n => PySem.assign (.Name n.1 n.2) env) (hl2 : (assignEach elts env).length = names.length) (hstar : (assignEach elts env).findIdx? (·.1) = none)
    (hc : ∀ n ∈ names, canStore env n.1 = true) (hΩ : ∀ n ∈ names, ∀ q ∈ Ω, q.1 ≠ n.1) (h : ∀ s', FS G env (putAll names ds Γ) Ω s₀ c X O s' → Q () s') : wpAny G.M A (PySem.assign (.Tuple elts k pos) env v) Q E s := by
  obtain ⟨t, vs, n, rfl, ht, hX, ra⟩ := r.isTup
  refine assign_Tuple_tuple (items := vs.toArray) hh ⟨_, ht, rfl, _, rfl⟩ (by rw [List.size_toArray, ra.length, hl2, hl]) hstar fun h' hx => ?_
  have hle : HLe s.heap h' := fun b o e => hx b o (Nat.ne_of_lt (Heap.lt_size e)) e
  rw [he]
  exact FS.inOrder names vs ds Γ _ Q (S.up (Keeps.mk' hle)) (ra.up hle) hl hc hΩ h

theorem FS.assignTup {elts : List Expr} {k : Nat} {tpos pos : Pos} {e : Expr} {ds : List Dt} {Q : Flow → Shared → Prop} (names : List (Str × Pos)) (S : FS G env Γ Ω s₀ c X O s) (hh : A.handled = none) (hev : Ev G A env Γ e (.tup ds)) (hl : names.length = ds.length)
    (h : ∀ s', FS G env (putAll names ds Γ) Ω s₀ c X O s' → Q .next s')
    (hc : ∀ n ∈ names, canStore env n.1 = true) (hΩ : ∀ n ∈ names, ∀ q ∈ Ω, q.1 ≠ n.1)
    (he : (assignEach elts env).map (·.2) = names.map fun n => PySem.assign (.Name n.1 n.2) env := by rfl) (hl2 : (assignEach elts env).length = names.length := by rfl) (hstar : (assignEach elts env).findIdx? (·.1) = none := by rfl)
    (hs : swapsWithSole [.Tuple elts k tpos] e pos.line env = pure false := by rfl)
    (hw : swappedStores [.Tuple elts k tpos] e env = pure none := by rfl) : wpAny G.M A (exec (.Assign [.Tuple elts k tpos] e pos) env) Q E s :=
  Assign_Tuple (S.ev hev fun v s₁ S₁ _ r => S₁.unpack names hh r hl he hl2 hstar hc hΩ h) hs hw
end
end Mine

/-! ### MyProg -/
namespace Mine

def tops : List Stmt := PySem.Challenge.pw_pg0043_01.main.body
def bodyOf : Stmt → List Stmt
  | .FunctionDef _ _ b _ _ _ _ _ _ _ => b
  | .ClassDef _ _ _ b _ _ _ _ _ _ _ => b
  | _ => []
def scopeOf : Stmt → Scope
  | .FunctionDef _ _ _ _ _ _ sc _ _ _ => sc
  | _ => default
def paramsOf : Stmt → Arguments
  | .FunctionDef _ a _ _ _ _ _ _ _ _ => a
  | _ => ⟨[], [], none, [], [], none, []⟩
def nthS (l : List Stmt) (i : Nat) : Stmt := l.getD i (.Pass default)

section
variable {G : Wrld} {A : Around} {env : Env} {Γ : Ctx} {Ω : List (Str × List Dt)} {s₀ s : Shared} {c : Heap} {X O : Addr → Prop} {E : Value → Shared → Prop}
theorem FS.shr1 {x : Str} {px pos : Pos} {k : Nat} {p : Pos} {a : Int} {Q : Flow → Shared → Prop} (S : FS G env Γ Ω s₀ c X O s) (hx : canStore env x = true) (hl : Γ.lookup x = some (.int a)) (hΩ : ∀ q ∈ Ω, q.1 ≠ x)
    (h : ∀ s', FS G env (put x (.int (a.fdiv (2 ^ (1 : Int).toNat))) Γ) Ω s₀ c X O s' → Q .next s') (h2 : (x == ("__classdict__" : Str)) = false := by decide) : wpAny G.M A (exec (.AugAssign (.Name x px) .RShift (.Constant (.int 1) k p) pos) env) Q E s := by
  refine wpAny_AugAssign_Name ?_
  obtain ⟨v, n, r⟩ := S.inv.has _ (mem_lookup hl)
  have fin : wpAny G.M A (eval (.Constant (.int 1) k p) env) (fun w s₂ => wpAny G.M A (inplaceOp .RShift v w) (fun r s₃ => wpAny G.M A (storeName env x r) (fun _ => Q .next) E s₃) E s₂) E s := by
    refine S.ev (ev_int 1 k p) fun w s₁ S₁ k₁ r₁ => ?_
    cases r; cases r₁
    refine irshift_int (by decide) ?_
    exact (S₁.up (Keeps.mk' (HLe.refl _))).store hx hΩ (.int _ _) fun h' tk S' _ => h _ S'
  rcases n with ⟨a', m, b, e⟩ | ⟨a' | a', q, b, e⟩
  · exact wpAny_loadName_local S.inv.envok.kind a' b e fin
  · exact wpAny_loadName_cell S.inv.envok.kind a' b e fin
  · exact wpAny_loadName_free S.inv.envok.kind a' b e fin h2
end

abbrev S' (x : String) : Str := Str.ofString x

/-- the def of the text st stands at f -/
def DefAt (G : Wrld) (f : Addr) (st : Stmt) (names : List Str) : Prop :=
  ∃ name qual dV kV doc pm an cdv ct, FunOk G f (fnOf name qual (paramsOf st) (bodyOf st) (scopeOf st) dV kV doc pm an cdv ct) (bodyOf st) names

abbrev rangeD (a : Int) (n : Nat) : List Dt := (List.range n).map fun (i : Nat) => Dt.int (a + (i : Int))
theorem rangeD_get {a : Int} {n i : Nat} {d : Dt} (h : (rangeD a n)[i]? = some d) : i < n ∧ d = .int (a + (i : Int)) := by
  unfold rangeD at h
  rw [List.getElem?_map] at h
  cases e : (List.range n)[i]? with
  | none => rw [e] at h; cases h
  | some j =>
    rw [e] at h
    obtain ⟨hi, e⟩ := List.getElem?_eq_some_iff.mp e
    rw [List.getElem_range] at e
    rw [List.length_range] at hi
    subst e
    exact ⟨hi, by cases h; rfl⟩
theorem sub_one {x : Str} {d d' : Dt} {Γ : Ctx} (h : d = d') : ∀ p ∈ [(x, d)], p ∈ put x d' Γ := fun p hp => by
  rw [List.mem_singleton] at hp; rw [hp, h]; exact List.mem_cons_self

/-! ## _gen_crc -/
def crcS : Stmt := nthS tops 5
def crcStep (c : Int) : Int := if (Builtin.bitAnd c 1 != 0) = true then Builtin.bitXor (c.fdiv (2 ^ (1 : Int).toNat)) 3988292384 else c.fdiv (2 ^ (1 : Int).toNat)
def crcN : Nat → Int → Int
  | 0, c => c
  | n + 1, c => crcStep (crcN n c)

section
variable {G : Wrld} {A : Around}
set_option maxHeartbeats 1000000 in
theorem crc_call {f : Addr} {a : Int} {n : Nat} (R : Room A (n + 3)) (D : DefAt G f crcS [S' "crc"]) (hr : GlobIs G (S' "range") (.type "range")) : CallIs G A (.ref f) [.int a] (.int (crcN 8 a)) := by
  obtain ⟨name, qual, dV, kV, doc, pm, an, cdv, ct, K⟩ := D
  refine call_fn K rfl R.lim fun s X L s' _ S => ?_
  refine wpAny_execs_cons ?_
  refine S.forName (d := .range 0 8) (xs := rangeD 0 8) R.handled ?_ rfl ⟨by decide, by decide⟩ rfl (fun i => [(S' "crc", .int (crcN i a))]) (fun _ => []) (fun p hp => hp) (fun q hq => hq) (fun _ q hq => nomatch hq) ?_ ?_
  · exact ev_call hr (.inr (.inl ⟨_, rfl⟩)) rfl (evAll_cons (ev_int 8 _ _) evAll_nil) (call_range1 8)
  · intro i d c' X' s₁ hd S₁ _
    refine wpAny_execs_cons ?_
    refine S₁.iff (evt_truth_int (ev_bin (bin_and (crcN i a) 1) (ev_name rfl) (ev_int 1 _ _))) ?_ ?_
    · intro hb s₂ S₂
      refine wpAny_execs_cons (S₂.assign (ev_bin (bin_xor _ 3988292384) (ev_bin (bin_shr (by decide)) (ev_name rfl) (ev_int 1 _ _)) (ev_int _ _ _)) rfl (fun q hq => nomatch hq) rfl fun s₃ S₃ => wpAny_execs_nil (wpAny_execs_nil ?_))
      exact S₃.sub (sub_one (by rw [crcN, crcStep, if_pos hb])) fun q hq => hq
    · intro hb s₂ S₂
      refine wpAny_execs_cons (S₂.shr1 rfl rfl (fun q hq => nomatch hq) fun s₃ S₃ => wpAny_execs_nil (wpAny_execs_nil ?_))
      exact S₃.sub (sub_one (by rw [crcN, crcStep, if_neg (by rw [hb]; decide)])) fun q hq => hq
  · intro s₁ S₁
    exact wpAny_execs_cons (S₁.ret (ev_name rfl) fun v s₂ k r => ⟨v, rfl, k, r⟩)
end

/-! ## _law_mark -/
def mrkS : Stmt := nthS tops 7
def mrkIn (w : Int) (i : Nat) : Int := if i < 32 then Builtin.bitAnd (w.fdiv (2 ^ i)) 1 else 0
def mrkCut (r : Int) : Int := if 2 ^ 32 ≤ r then Builtin.bitXor r 4374732215 else r
def mrkN (w : Int) : Nat → Int
  | 0 => 0
  | i + 1 => mrkCut (2 * mrkN w i + mrkIn w i)
def mrkOut (r : Int) : Int := r.fdiv (2 ^ 31) + 2 * Builtin.bitAnd (r.fdiv (2 ^ 30)) 1 + 4 * Builtin.bitAnd (r.fdiv (2 ^ 29)) 1

section
variable {G : Wrld} {A : Around}
theorem mul_small {a b : Int} (h : Builtin.Int.intBits a ≤ 64) : BinIs G .Mult a b (a * b) := bin_mul (IntMulOk.of_left h)
set_option maxHeartbeats 2000000 in
theorem mrk_call {f : Addr} {a : Int} {n : Nat} (R : Room A (n + 3)) (D : DefAt G f mrkS [S' "word"]) (hr : GlobIs G (S' "range") (.type "range")) : CallIs G A (.ref f) [.int a] (.int (mrkOut (mrkN a 64))) := by
  obtain ⟨name, qual, dV, kV, doc, pm, an, cdv, ct, K⟩ := D
  refine call_fn K rfl R.lim fun s X L s' _ S => ?_
  refine wpAny_execs_cons (S.assign (ev_int 0 _ _) rfl (fun q hq => nomatch hq) rfl fun s₁ S₁ => ?_)
  have S₁ : FS G _ [(S' "rest", .int 0), (S' "word", .int a)] [] s s.heap X (fun b => b = L) s₁ := S₁
  refine wpAny_execs_cons ?_
  refine S₁.forName (d := .range 0 64) (xs := rangeD 0 64) R.handled ?_ rfl ⟨by decide, by decide⟩ rfl (fun i => [(S' "rest", .int (mrkN a i)), (S' "word", .int a)]) (fun _ => []) (fun p hp => hp) (fun q hq => hq) (fun _ q hq => nomatch hq) ?_ ?_
  · exact ev_call hr (.inr (.inl ⟨_, rfl⟩)) rfl (evAll_cons (ev_int 64 _ _) evAll_nil) (call_range1 64)
  · intro i d c' X' s₂ hd S₂ _
    obtain ⟨hi, rfl⟩ := rangeD_get hd
    have S₂ : FS G _ [(S' "place", .int (0 + (i : Int))), (S' "rest", .int (mrkN a i)), (S' "word", .int a)] [] s c' X' (fun b => b = L) s₂ := S₂
    refine wpAny_execs_cons (S₂.assign (d := .int (2 * mrkN a i + mrkIn a i)) ?_ rfl (fun q hq => nomatch hq) rfl fun s₃ S₃ => ?_)
    · refine ev_bin (bin_add _ _) (ev_bin (mul_small (by decide)) (ev_int 2 _ _) (ev_name rfl)) (ev_ifexp (b := decide (0 + (i : Int) < 32)) (evt_cmp (cmp_lt _ _) (ev_name rfl) (ev_int 32 _ _)) ?_ ?_)
      · intro hb
        have e : mrkIn a i = Builtin.bitAnd (a.fdiv (2 ^ (0 + (i : Int)).toNat)) 1 := by
          have : i < 32 := by have := of_decide_eq_true hb; omega
          rw [mrkIn, if_pos this]; simp
        rw [e]
        exact ev_bin (bin_and _ _) (ev_bin (bin_shr (by omega)) (ev_name rfl) (ev_name rfl)) (ev_int 1 _ _)
      · intro hb
        have e : mrkIn a i = 0 := by
          have : ¬ i < 32 := by have := of_decide_eq_false hb; omega
          rw [mrkIn, if_neg this]
        rw [e]
        exact ev_int 0 _ _
    · have S₃ : FS G _ [(S' "rest", .int (2 * mrkN a i + mrkIn a i)), (S' "place", .int (0 + (i : Int))), (S' "word", .int a)] [] s c' X' (fun b => b = L) s₃ := S₃
      refine wpAny_execs_cons (S₃.iff (b := decide ((2 : Int) ^ (32 : Int).toNat ≤ 2 * mrkN a i + mrkIn a i)) (evt_cmp (cmp_ge _ _) (ev_name rfl) (ev_bin (bin_pow (by decide) (by decide) (by decide)) (ev_int 2 _ _) (ev_int 32 _ _))) ?_ ?_)
      · intro hb s₄ S₄
        refine wpAny_execs_cons (S₄.assign (ev_bin (bin_xor _ _) (ev_name rfl) (ev_int 4374732215 _ _)) rfl (fun q hq => nomatch hq) rfl fun s₅ S₅ => wpAny_execs_nil (wpAny_execs_nil ?_))
        have e : mrkN a (i + 1) = Builtin.bitXor (2 * mrkN a i + mrkIn a i) 4374732215 := by
          have := of_decide_eq_true hb
          rw [mrkN, mrkCut]; exact if_pos this
        rw [e]
        have S₅ : FS G _ [(S' "rest", .int (Builtin.bitXor (2 * mrkN a i + mrkIn a i) 4374732215)), (S' "place", .int (0 + (i : Int))), (S' "word", .int a)] [] s c' X' (fun b => b = L) s₅ := S₅
        exact S₅.sub (fun p hp => by simp only [List.mem_cons, List.not_mem_nil, or_false] at hp ⊢; rcases hp with h | h <;> simp [h]) fun q hq => hq
      · intro hb s₄ S₄
        refine wpAny_execs_nil (wpAny_execs_nil ?_)
        have e : mrkN a (i + 1) = 2 * mrkN a i + mrkIn a i := by
          have := of_decide_eq_false hb
          rw [mrkN, mrkCut]; exact if_neg this
        rw [e]
        exact S₄.sub (fun p hp => by simp only [List.mem_cons, List.not_mem_nil, or_false] at hp ⊢; rcases hp with h | h <;> simp [h]) fun q hq => hq
  · intro s₂ S₂
    refine wpAny_execs_cons (S₂.ret (d := .int (mrkOut (mrkN a 64))) ?_ fun v s₃ k r => ⟨v, rfl, k, r⟩)
    refine ev_bin (bin_add _ _) (ev_bin (bin_add _ _) (ev_bin (bin_shr (by decide)) (ev_name rfl) (ev_int 31 _ _)) (ev_bin (mul_small (by decide)) (ev_int 2 _ _) (ev_bin (bin_and _ _) (ev_bin (bin_shr (by decide)) (ev_name rfl) (ev_int 30 _ _)) (ev_int 1 _ _))))
      (ev_bin (mul_small (by decide)) (ev_int 4 _ _) (ev_bin (bin_and _ _) (ev_bin (bin_shr (by decide)) (ev_name rfl) (ev_int 29 _ _)) (ev_int 1 _ _)))
end
end Mine

/-! ### MyCmp -/
namespace Mine

/-- the class at C is as the text has it: an own dict, compare at f, __init__ at fI -/
structure ClsOk (G : Wrld) (C f fI : Addr) : Prop where
  g1 : plainGet G.K C (S' "comp_select_list") = true
  hd : hasDictIn G.K C = true
  ha : findIn G.K (.ref C) (S' "comp_select_list") = some none
  g2 : plainGet G.K C (S' "compare") = true
  hf : findIn G.K (.ref C) (S' "compare") = some (some (.ref f))
  hfn : isFn G.K (.ref f) = true
  keep : keepIn G.K (.ref f) = true
  keepC : keepIn G.K (.ref C) = true
  mak : makesIn G.K C = true
  hi : findIn G.K (.ref C) (S' "__init__") = some (some (.ref fI))
  hifn : typeIn G.K (.ref fI) = some (.type "function")
  hs : findIn G.K (.ref C) (S' "__setattr__") = some (some (.builtin "object.__setattr__"))
  po : plainOver G.K C = true
  tk : takerIn G.K C (S' "comp_select_list") = some none

section
variable {G : Wrld} {A : Around} {env : Env} {Γ : Ctx}

theorem Rep.inst {h : Heap} {X : Addr → Prop} {v : Value} {C : Addr} {keys : Dt} (r : Rep (fz h X) v (.comp C keys)) : ∃ x d es n u, v = .ref x ∧ W.InstAt h x (instObj C d) C (some (dictOf es n)) ∧ getL (S' "comp_select_list") es = some (some u) ∧ getL (S' "compare") es = some none ∧ handedIn u = true ∧ Rep (fz h X) u keys := by
  cases r with
  | comp h1 h2 a b c r => exact ⟨_, _, _, _, _, rfl, ⟨h1.1, rfl, rfl, h2.1⟩, a, b, c, r⟩

theorem ev_keys {x : Str} {np pos : Pos} {C f fI : Addr} {keys : Dt} (K : ClsOk G C f fI) (hx : Ev G A env Γ (.Name x np) (.comp C keys)) : Ev G A env Γ (.Attribute (.Name x np) (S' "comp_select_list") pos) keys := by
  intro s X E Q I h
  refine PyProof.Rows.Attribute_name (hx s X E _ I fun v s₁ k₁ r₁ => ?_)
  obtain ⟨a, d, es, n, u, rfl, ii, h1, h2, h3, r⟩ := r₁.inst
  exact get_value (I.ok.up (Keeps.hle k₁)).frag ii (plainGet_of K.g1).1 (findObj_own K.hd K.ha rfl h1) h3 (h _ _ (Keeps.trans' k₁ (Keeps.mk' (HLe.refl _))) r)

/-- a call of compare -/
theorem ev_compare {x : Str} {np apos pos : Pos} {e : Expr} {rest : List Expr} {C f fI : Addr} {keys : Dt} {ds : List Dt} {d : Dt} {pl : Sem Bool} (K : ClsOk G C f fI) (hx : Ev G A env Γ (.Name x np) (.comp C keys)) (ha : EvAll G A env Γ (e :: rest) ds)
    (hc : CallIs G A (.ref f) (.comp C keys :: ds) d)
    (he0 : eval (.Call (.Attribute (.Name x np) (S' "compare") apos) (e :: rest) [] pos) env = (do
      let ov ← eval (.Name x np) env
      standAt apos.atName
      let (f, first) ← holding [ov] (getMethod ov (S' "compare") pl)
      callWith pos f first (backTo pos (starEach (e :: rest) env)) []) := by rfl)
    (he : starEach (e :: rest) env = (false, eval e env) :: starEach rest env := by rfl) (hplain : (backTo pos (starEach rest env)).any (·.1) = false := by rfl) :
    Ev G A env Γ (.Call (.Attribute (.Name x np) (S' "compare") apos) (e :: rest) [] pos) d := by
  intro s X E Q I h
  refine PyProof.Rows.MethodCall_ (hx s X E _ I fun v s₁ k₁ r₁ => ?_) he0
  obtain ⟨a, dd, es, n, u, rfl, ii, h1, h2, h3, r⟩ := r₁.inst
  have I₁ := I.up (Keeps.hle k₁)
  refine method_fn I₁.ok.frag ii (plainGet_of K.g2).1 (plainGet_of K.g2).2 K.hf (beq_iff_eq.mp K.hfn) (by show (lookIn _ (dictOf es n)).map _ = _; rw [lookIn_dict, h2]; rfl) ?_
  refine callWith_any (.inr (.inr K.keep)) I₁ ha (fun vs s' k r' => ?_) he hplain
  exact hc s' X E Q _ (I₁.ok.up (Keeps.hle k)) (I₁.low.mono (Keeps.hle k)) (.cons (r₁.up (Keeps.hle k)) r') fun v s'' k' r'' => h v s'' (Keeps.trans' k₁ (Keeps.trans' k k')) r''
end

/-! ## compare -/
def cmpS : Stmt := nthS (bodyOf (nthS tops 1)) 1
/-- what compare makes of the two tuples' ints at the keys' places -/
def cmpOf : List (Int × Int) → (Int → Int) → (Int → Int) → Int
  | [], _, _ => 0
  | (i, w) :: r, f, g => if f i < g i then -w else if g i < f i then w else cmpOf r f g
def keysD (ks : List (Int × Int)) : Dt := .list (ks.map fun k => .tup [.int k.1, .int k.2])

section
variable {G : Wrld} {A : Around}
set_option maxHeartbeats 2000000 in
theorem cmp_call {C f fI : Addr} {ks : List (Int × Int)} {ls rs : List Dt} {fl fr : Int → Int} {n : Nat} (R : Room A (n + 3)) (D : DefAt G f cmpS [S' "self", S' "left", S' "right"]) (K : ClsOk G C f fI) (hks : ∀ k ∈ ks, 0 ≤ k.1 ∧ k.1 < 1000 ∧ ls[k.1.toNat]? = some (.int (fl k.1)) ∧ rs[k.1.toNat]? = some (.int (fr k.1))) (hlen : ks.length ≤ 10) :
    CallIs G A (.ref f) [.comp C (keysD ks), .tup ls, .tup rs] (.int (cmpOf ks fl fr)) := by
  obtain ⟨name, qual, dV, kV, doc, pm, an, cdv, ct, F⟩ := D
  refine call_fn F rfl R.lim fun s X L s' _ S => ?_
  refine wpAny_execs_cons ?_
  have pre : ∀ i, i ≤ ks.length → (∀ j, j < i → ∀ k, ks[j]? = some k → fl k.1 = fr k.1) → cmpOf ks fl fr = cmpOf (ks.drop i) fl fr := by
    intro i hi h
    induction i with
    | zero => rfl
    | succ i ih =>
      rw [ih (by omega) fun j hj => h j (by omega)]
      have hlt : i < ks.length := hi
      have e := h i (by omega) _ (List.getElem?_eq_getElem hlt)
      rw [List.drop_eq_getElem_cons hlt, cmpOf, e]
      simp
  refine S.forAnyP (A := A.deeper _) (d := keysD ks) (xs := ks.map fun k => .tup [.int k.1, .int k.2]) R.handled (ev_keys K (ev_name rfl)) rfl trivial (fun d Γ => match d with | .tup ds => putAll [(S' "index", default), (S' "direction", default)] ds Γ | _ => Γ)
    (fun i => ∀ j, j < i → ∀ k, ks[j]? = some k → fl k.1 = fr k.1)
    (fun i => [(S' "left", .tup ls), (S' "right", .tup rs)]) (fun _ => []) (fun j hj => absurd hj (Nat.not_lt_zero _)) (fun p hp => ?_) (fun q hq => hq) ?_ ?_ ?_
  · exact List.mem_cons_of_mem _ hp
  · intro i d v c' X' s₁ E Q hd S₁ r h
    rw [List.getElem?_map] at hd
    cases e : ks[i]? with
    | none => rw [e] at hd; cases hd
    | some k =>
      rw [e] at hd
      cases hd
      refine S₁.unpack [(S' "index", _), (S' "direction", _)] R.handled r rfl rfl rfl rfl ?_ (fun n hn q hq => nomatch hq) h
      intro n hn
      simp only [List.mem_cons, List.not_mem_nil, or_false] at hn
      rcases hn with rfl | rfl <;> rfl
  · intro i d c' X' s₁ hpre hd S₁ _
    rw [List.getElem?_map] at hd
    cases e : ks[i]? with
    | none => rw [e] at hd; cases hd
    | some k =>
      rw [e] at hd
      cases hd
      obtain ⟨k0, k1, kl, kr⟩ := hks k (List.mem_of_getElem? e)
      have hlt : i < ks.length := (List.getElem?_eq_some_iff.mp e).1
      have hek : ks[i] = k := (List.getElem?_eq_some_iff.mp e).2
      have hcut : cmpOf ks fl fr = (if fl k.1 < fr k.1 then -k.2 else if fr k.1 < fl k.1 then k.2 else cmpOf (ks.drop (i + 1)) fl fr) := by
        rw [pre i (by omega) hpre, List.drop_eq_getElem_cons hlt, hek, cmpOf]
      have S₁ : FS G _ [(S' "direction", .int k.2), (S' "index", .int k.1), (S' "left", .tup ls), (S' "right", .tup rs)] [] s c' X' (fun b => b = L) s₁ := S₁
      refine wpAny_execs_cons (S₁.assign (d := .int (fl k.1)) (ev_titem (ev_name rfl) (ev_name rfl) k0 kl k1) rfl (fun q hq => nomatch hq) rfl fun s₂ S₂ => ?_)
      have S₂ : FS G _ [(S' "l", .int (fl k.1)), (S' "direction", .int k.2), (S' "index", .int k.1), (S' "left", .tup ls), (S' "right", .tup rs)] [] s c' X' (fun b => b = L) s₂ := S₂
      refine wpAny_execs_cons (S₂.assign (d := .int (fr k.1)) (ev_titem (ev_name rfl) (ev_name rfl) k0 kr k1) rfl (fun q hq => nomatch hq) rfl fun s₃ S₃ => ?_)
      have S₃ : FS G _ [(S' "r", .int (fr k.1)), (S' "l", .int (fl k.1)), (S' "direction", .int k.2), (S' "index", .int k.1), (S' "left", .tup ls), (S' "right", .tup rs)] [] s c' X' (fun b => b = L) s₃ := S₃
      refine wpAny_execs_cons (S₃.iff (evt_cmp (cmp_lt (fl k.1) (fr k.1)) (ev_name rfl) (ev_name rfl)) ?_ ?_)
      · intro hb s₄ S₄
        refine wpAny_execs_cons (S₄.ret (ev_neg (ev_name rfl)) fun v s₅ k r => ⟨v, rfl, k, ?_⟩)
        rw [hcut, if_pos (of_decide_eq_true hb)]
        cases r; exact .int _ _
      · intro hb s₄ S₄
        refine wpAny_execs_nil (wpAny_execs_cons (S₄.iff (evt_cmp (cmp_gt (fl k.1) (fr k.1)) (ev_name rfl) (ev_name rfl)) ?_ ?_))
        · intro hb' s₅ S₅
          refine wpAny_execs_cons (S₅.ret (ev_name rfl) fun v s₆ k r => ⟨v, rfl, k, ?_⟩)
          rw [hcut, if_neg (of_decide_eq_false hb), if_pos (of_decide_eq_true hb')]
          cases r; exact .int _ _
        · intro hb' s₅ S₅
          refine wpAny_execs_nil (wpAny_execs_nil ⟨?_, S₅.sub (fun p hp => ?_) fun q hq => hq⟩)
          · intro j hj k' hk'
            rcases Nat.lt_or_ge j i with h | h
            · exact hpre j h k' hk'
            · obtain rfl : j = i := by omega
              rw [e] at hk'; cases hk'
              have a1 := of_decide_eq_false hb
              have a2 := of_decide_eq_false hb'
              omega
          · simp only [List.mem_cons, List.not_mem_nil, or_false] at hp ⊢
            rcases hp with h | h <;> simp [h]
  · intro s₁ hpre S₁
    rw [List.length_map] at hpre
    refine wpAny_execs_cons (S₁.ret (ev_int 0 _ _) fun v s₂ k r => ⟨v, rfl, k, ?_⟩)
    rw [pre ks.length (Nat.le_refl _) hpre, List.drop_length, cmpOf]
    exact r
end
end Mine

/-! ### MyInit -/
namespace Mine

def iniS : Stmt := nthS (bodyOf (nthS tops 1)) 0

section
variable {G : Wrld} {A : Around}
set_option maxHeartbeats 2000000 in
theorem make_call {C f fI : Addr} {keys : Dt} {n : Nat} (R : Room A (n + 5)) (D : DefAt G fI iniS [S' "self", S' "comp_select_list"]) (K : ClsOk G C f fI) : CallIs G A (.ref C) [keys] (.comp C keys) := by
  obtain ⟨name, qual, dV, kV, doc, pm, an, cdv, ct, F⟩ := D
  intro s X E Q vs ok low r hQ
  cases r with
  | cons rk rn =>
  cases rn
  rename_i kv
  obtain ⟨hh, g, dr, t, os⟩ := s
  refine wpAny_call (W.make_core (makes_of ok.frag K.mak) (looks_findIn ok.frag K.hi) (fun self => bind_fn ok.frag self K.hifn) (.inl rfl) ?_)
  have hroom : (A.under (.builtin "type.__call__" ⟨.ref C :: [kv], []⟩)).depth < recursionLimit := by
    rw [depth_under_make]
    have := R.depth
    show A.depth + 1 < 1000
    omega
  have hle : HLe hh ((hh.push emptyDict).push (instObj C hh.objs.size)) := HLe.trans (HLe.push _ _) (HLe.push _ _)
  obtain ⟨oc, od, sl, hK⟩ := F.at_
  refine codeAny_call_function hroom ((ok.up hle).frag _ _ hK) rfl F.co F.gen F.body (codeRec_of (ok.up hle).frag F.code) ?_
  rw [F.bind _ rfl, F.clo]
  refine wpAny_pure (wpAny_newFunctionEnv F.nocell (fun x hx => F.loc _ (List.of_mem_zip hx).1) (fun h₁ hns hsb => ⟨(ok.up hle).nolim.fresh _ hsb, ?_⟩) F.kind)
  have hd0 : hh.get? hh.objs.size = none := get?_size hh
  have hx0 : hh.get? (hh.objs.size + 1) = none := by
    cases e : hh.get? (hh.objs.size + 1) with
    | none => rfl
    | some o => exact absurd (Heap.lt_size e) (Nat.not_lt.mpr (Nat.le_succ _))
  have hsz : ((hh.push emptyDict).push (instObj C hh.objs.size)).objs.size = hh.objs.size + 2 := by rw [Heap.size_push, Heap.size_push]
  dsimp only at hns hsb ⊢
  have ha : ((hh.push emptyDict).push (instObj C hh.objs.size)).get? (hh.objs.size + 1) = some (instObj C hh.objs.size) := by
    have := Heap.get?_push_size (hh.push emptyDict) (o := instObj C hh.objs.size) rfl
    rwa [Heap.size_push] at this
  have hb : ((hh.push emptyDict).push (instObj C hh.objs.size)).get? hh.objs.size = some emptyDict := Heap.get?_push_of_some _ (Heap.get?_push_size _ rfl)
  generalize hH : (hh.push emptyDict).push (instObj C hh.objs.size) = H at hns hsb hle ha hb hsz ⊢
  have hK1 : ∀ b o, H.get? b = some o → h₁.get? b = some o := fun b o e => hsb.extBut b o (Nat.ne_of_lt (Heap.lt_size e)) (Heap.get?_push_of_some _ e)
  have FF : Fr hh H.objs.size h₁ (fun x => ([S' "self", S' "comp_select_list"].zip [.ref (hh.objs.size + 1), kv]).reverse.lookup x) := ⟨hns, fun b o e => hK1 b o (hle b o e), by rw [hsz]; omega⟩
  have NN : News hh H.objs.size h₁ [(hh.objs.size + 1, instObj C hh.objs.size), (hh.objs.size, dictOf [] 0)] := by
    intro p hp
    simp only [List.mem_cons, List.not_mem_nil, or_false] at hp
    rcases hp with rfl | rfl
    · exact ⟨hK1 _ _ ha, by rw [hsz]; exact Nat.ne_of_lt (Nat.lt_succ_self _), hx0⟩
    · exact ⟨hK1 _ _ hb, by rw [hsz]; exact Nat.ne_of_lt (Nat.lt_succ_of_lt (Nat.lt_succ_self _)), hd0⟩
  refine codeAny_func ?_
  have hle1 : HLe hh h₁ := fun b o e => hK1 b o (hle b o e)
  have eok : EnvOk (fenv (fnOf name qual (paramsOf iniS) (bodyOf iniS) (scopeOf iniS) dV kV doc pm an cdv ct) H.objs.size fI) := ⟨F.kind, F.g, F.b⟩
  refine wpAny_execs_cons ?_
  refine plainObj_wpAny_Assign_Attribute (eval_nm (G := G) (env := fenv (fnOf name qual (paramsOf iniS) (bodyOf iniS) (scopeOf iniS) dV kV doc pm an cdv ct) H.objs.size fI) (v := kv) eok (.inl ⟨rfl, _, hns, rfl⟩) ?_)
  refine eval_nm (G := G) (env := fenv (fnOf name qual (paramsOf iniS) (bodyOf iniS) (scopeOf iniS) dV kV doc pm an cdv ct) H.objs.size fI) (v := .ref (hh.objs.size + 1)) eok (.inl ⟨rfl, _, hns, rfl⟩) ?_
  refine set_dict (dx := hh.objs.size) (es := []) (n := 0) FF ok.frag NN ⟨hK1 _ _ ha, rfl, rfl, hK1 _ _ hb⟩ rfl K.hs K.po K.tk K.hd rfl rfl (.tail (Nat.ne_of_gt (Nat.lt_succ_self _)) (.head (fun p hp => nomatch hp))) (by show 1 ≤ 1000; omega) ?_
  intro h' F' N'
  refine wpAny_execs_nil ⟨rfl, ?_⟩
  refine hQ _ _ ⟨h', _, rfl, F'.keep⟩ ?_
  have nX : ¬ X (hh.objs.size + 1) := low.fresh hx0
  have nD : ¬ X hh.objs.size := low.fresh hd0
  exact .comp ⟨(N' _ (.head _)).1, nX⟩ ⟨(N' _ (.tail _ (.head _))).1, nD⟩ rfl rfl rk.handed (rk.up F'.keep)
end
end Mine

/-! ### MyDict -/
namespace Mine

inductive ValsAre : List (Int × Value) → List (Int × Int) → Prop
  | nil : ValsAre [] []
  | cons {k v : Int} {t : Tok} {vs : List (Int × Value)} {kvs : List (Int × Int)} : ValsAre vs kvs → ValsAre ((k, .int v t) :: vs) ((k, v) :: kvs)

theorem ValsAre.length {vs : List (Int × Value)} {kvs : List (Int × Int)} (h : ValsAre vs kvs) : vs.length = kvs.length := by
  induction h with
  | nil => rfl
  | cons _ ih => simp [ih]
theorem ValsAre.keys {vs : List (Int × Value)} {kvs : List (Int × Int)} (h : ValsAre vs kvs) : vs.map (·.1) = kvs.map (·.1) := by
  induction h with
  | nil => rfl
  | cons _ ih => simp [ih]
theorem ValsAre.get {vs : List (Int × Value)} {kvs : List (Int × Int)} (h : ValsAre vs kvs) : ∀ {i : Nat} {k : Int} {v : Value}, vs[i]? = some (k, v) → ∃ n t, v = .int n t ∧ kvs[i]? = some (k, n) := by
  induction h with
  | nil => intro i k v e; simp at e
  | cons _ ih =>
    intro i k v e
    cases i with
    | zero => simp at e; obtain ⟨rfl, rfl⟩ := e; exact ⟨_, _, rfl, by simp⟩
    | succ i => simp at e; obtain ⟨n, t, a, b⟩ := ih e; exact ⟨n, t, a, by simpa using b⟩
theorem ValsAre.append {vs ws : List (Int × Value)} {kvs lvs : List (Int × Int)} (h : ValsAre vs kvs) (g : ValsAre ws lvs) : ValsAre (vs ++ ws) (kvs ++ lvs) := by
  induction h with
  | nil => exact g
  | cons _ ih => exact .cons ih

/-- a key's value put -/
def putI (kvs : List (Int × Int)) (k v : Int) : List (Int × Int) := if kvs.any (fun p => p.1 = k) then kvs.map (fun p => if p.1 = k then (p.1, v) else p) else kvs ++ [(k, v)]
theorem ValsAre.mapPut {vs : List (Int × Value)} {kvs : List (Int × Int)} (h : ValsAre vs kvs) (k v : Int) (t : Tok) : ValsAre (vs.map fun p => if p.1 = k then (p.1, .int v t) else p) (kvs.map fun p => if p.1 = k then (p.1, v) else p) := by
  induction h with
  | nil => exact .nil
  | cons _ ih =>
    rename_i k' v' t' vs' kvs' hr
    simp only [List.map_cons]
    by_cases e : k' = k
    · simp only [e, if_true]; exact .cons ih
    · simp only [e, if_false]; exact .cons ih
theorem ValsAre.any {vs : List (Int × Value)} {kvs : List (Int × Int)} (h : ValsAre vs kvs) (k : Int) : vs.any (fun p => p.1 = k) = kvs.any (fun p => p.1 = k) := by
  induction h with
  | nil => rfl
  | cons _ ih => simp [ih]
theorem ValsAre.stored {vs : List (Int × Value)} {kvs : List (Int × Int)} (h : ValsAre vs kvs) (k v : Int) (t : Tok) : ValsAre (PySem.stored vs k (.int v t)) (putI kvs k v) := by
  unfold PySem.stored putI
  rw [h.any]
  split
  · exact h.mapPut k v t
  · exact h.append (.cons .nil)
/-- a key's value, if it stands there -/
def getI (kvs : List (Int × Int)) (k : Int) : Option Int := (kvs.find? (fun p => p.1 = k)).map (·.2)
theorem ValsAre.value {vs : List (Int × Value)} {kvs : List (Int × Int)} (h : ValsAre vs kvs) (k : Int) : (valueAt vs k = none ∧ getI kvs k = none) ∨ ∃ n t, valueAt vs k = some (.int n t) ∧ getI kvs k = some n := by
  induction h with
  | nil => exact .inl ⟨rfl, rfl⟩
  | cons _ ih =>
    rename_i k' v' t' vs' kvs' hr
    by_cases e : k' = k
    · refine .inr ⟨v', t', ?_, ?_⟩
      · simp [valueAt, e]
      · simp [getI, e]
    · rcases ih with ⟨a, b⟩ | ⟨n, t, a, b⟩
      · exact .inl ⟨by simpa [valueAt, e] using a, by simpa [getI, e] using b⟩
      · exact .inr ⟨n, t, by simpa [valueAt, e] using a, by simpa [getI, e] using b⟩

theorem EntsAre.pairs (prog : Program) (w : World) : ∀ {es : List DictEntry} {kvs : List (Int × Int)}, EntsAre es kvs → ∃ vs, Pairs (intKind prog w) es vs ∧ ValsAre vs kvs ∧ ∀ e ∈ es, ∃ k, (intKind prog w).is k e.key = true ∧ e.hash = (intKind prog w).hash k
  | _, _, .nil => ⟨[], .nil, .nil, fun e he => nomatch he⟩
  | _, _, .cons (k := k) (v := v) (t := t) (u := u) h => by
    obtain ⟨vs, p, va, hk⟩ := EntsAre.pairs prog w h
    refine ⟨(k, .int v u) :: vs, .cons (intKind_is prog w k t) rfl p, .cons va, fun e he => ?_⟩
    rcases List.mem_cons.mp he with rfl | he
    · exact ⟨k, intKind_is prog w k t, rfl⟩
    · exact hk e he

theorem ents_of_pairs {prog : Program} {w : World} : ∀ {es : List DictEntry} {vs : List (Int × Value)} {kvs : List (Int × Int)}, Pairs (intKind prog w) es vs → ValsAre vs kvs → (∀ e ∈ es, ∃ k, (intKind prog w).is k e.key = true ∧ e.hash = (intKind prog w).hash k) → EntsAre es kvs
  | _, _, _, .nil, .nil, _ => .nil
  | _, _, _, .cons (e := e) a b p, .cons va, hk => by
    obtain ⟨k', h1, h2⟩ := hk e (List.mem_cons_self)
    have ek := (intKind prog w).inj _ _ _ a h1
    obtain ⟨t', hkey⟩ := Value.isInt_shape a
    have ih := ents_of_pairs p va fun e' he' => hk e' (List.mem_cons_of_mem _ he')
    obtain ⟨hs, ky, vl⟩ := e
    dsimp only at b hkey h2 ek
    subst b hkey
    rw [← ek] at h2
    have : hs = hashInt _ := h2
    subst this
    exact .cons ih

section
variable {G : Wrld} {h : Heap} {X : Addr → Prop}
theorem Rep.dictAt {v : Value} {kvs : List (Int × Int)} (r : Rep (fz h X) v (.dict kvs)) : ∃ a vs ep, v = .ref a ∧ ¬ X a ∧ (a == sysModules) = false ∧ h.DictAt (intKind G.prog G.w) a vs ep ∧ ValsAre vs kvs := by
  cases r with
  | dict hF he hn hm =>
    rename_i a es n
    obtain ⟨vs, p, va, hk⟩ := EntsAre.pairs G.prog G.w he
    refine ⟨a, vs, n, rfl, hF.2, hm, ⟨_, es.toArray, hF.1, ⟨rfl, rfl, rfl⟩, rfl, fun e he => hk e (by simpa using he), by simpa using p, by rw [va.keys]; exact hn⟩, va⟩

theorem Rep.ofDict {a : Addr} {vs : List (Int × Value)} {kvs : List (Int × Int)} (hd : h.DictOf (intKind G.prog G.w) a vs) (va : ValsAre vs kvs) (hX : ¬ X a) (hm : (a == sysModules) = false) : Rep (fz h X) (.ref a) (.dict kvs) := by
  obtain ⟨⟨cl, dd, dt, sl⟩, es, ep, ho, ⟨e1, e2, e3⟩, hdat, hk, p, nd⟩ := hd
  dsimp only at e1 e2 e3 hdat
  subst e1 e2 e3 hdat
  refine .dict (es := es.toList) (n := ep) ⟨?_, hX⟩ (ents_of_pairs p va fun e he => hk e (by simpa using he)) (by rw [← va.keys]; exact nd) hm
  simpa using ho
end
end Mine

/-! ### MyCallers -/
namespace Mine

def addOne (acc : List (Int × Int)) (k c : Int) : List (Int × Int) := match getI acc k with
  | some n => putI acc k (n + c)
  | none => putI acc k c
def addCallers (t s : List (Int × Int)) : List (Int × Int) := s.foldl (fun a p => addOne a p.1 p.2) (t.foldl (fun a p => putI a p.1 p.2) [])

/-- add_callers at work: begun at the heap h₀, its names m, its dict at D -/
structure CA (G : Wrld) (h₀ : Heap) (L D dt ds : Addr) (acc : List (Int × Int)) (m : Str → Option Value) (s' : Shared) : Prop where
  F : Fr h₀ L s'.heap m
  dict : ∃ vs, s'.heap.DictOf (intKind G.prog G.w) D vs ∧ ValsAre vs acc
  neL : D ≠ L
  fresh : h₀.get? D = none
  mods : (D == sysModules) = false
  nc : m (S' "new_callers") = some (.ref D)
  tg : m (S' "target") = some (.ref dt)
  sr : m (S' "source") = some (.ref ds)

section
variable {G : Wrld} {A : Around} {env : Env} {h₀ : Heap} {D dt ds : Addr} {acc : List (Int × Int)} {m : Str → Option Value} {s : Shared} {E : Value → Shared → Prop}

theorem items_eval {x : Str} {np apos pos : Pos} {d : Addr} {vs : List (Int × Value)} {Q : Value → Shared → Prop} (hk : env.scope.kind = .function) (hxl : env.kindOf x = some .local) (hns : s.heap.Ns env.locals m) (hx : m x = some (.ref d))
    (hd : s.heap.DictOf (intKind G.prog G.w) d vs) (hm : (d == sysModules) = false)
    (h : Q (.ref s.heap.objs.size) { s with heap := s.heap.push { cls := .type "dict_items", data := .fields #[.ref d] } })
    (hbase : attributeBase (.Name x np) (S' "items") env (eval (.Name x np) env) = eval (.Name x np) env := by rfl) (hline : (apos.endLine == pos.line) = true := by rfl) (hdb : (x == ("__debug__" : Str)) = false := by decide) :
    wpAny G.M A (eval (.Call (.Attribute (.Name x np) (S' "items") apos) [] [] pos) env) Q E s := by
  refine Call_method0 hbase hline (wpAny_Name (wpAny_loadName_local hk hxl hns hx ?_) hdb)
  refine ⟨"dict", "dict.items", PySem.F.plainAttrs_dict, PySem.F.slot_dict_items, PySem.F.type_dict_items, hd.typeIs, hd.mapOf.noDict, ?_⟩
  refine Calls.callWith_builtin rfl (PySem.evalArgs_none ?_)
  exact call_meetsIn PySem.F.slot_dict_items hd.typeIs PySem.F.entry_dict_items (PySem.F.args_dict_items_1 _) (meets_dict_items (intKind G.prog G.w) d hm) ⟨⟨vs, hd⟩, h⟩

theorem CA.keepD {d : Addr} {vs : List (Int × Value)} {ep : Nat} (C : CA G h₀ env.locals D dt ds acc m s) (hd : h₀.DictAt (intKind G.prog G.w) d vs ep) : s.heap.DictAt (intKind G.prog G.w) d vs ep := hd.at fun o e => C.F.keep _ _ e

theorem CA.loop {x : Str} {np apos ipos pk pv pt pos : Pos} {x1 : Nat} {body : List Stmt} {d : Addr} {vs : List (Int × Value)} {ep : Nat} {kvs : List (Int × Int)} {Q : Flow → Shared → Prop} (f : List (Int × Int) → Int → Int → List (Int × Int))
    (hh : A.handled = none) (C : CA G h₀ env.locals D dt ds acc m s) (hk : env.scope.kind = .function) (hxl : env.kindOf x = some .local) (hx : m x = some (.ref d)) (hd : h₀.DictAt (intKind G.prog G.w) d vs ep) (hv : ValsAre vs kvs) (hm : (d == sysModules) = false)
    (hxk : env.kindOf (S' "func") = some .local) (hxv : env.kindOf (S' "caller") = some .local)
    (step : ∀ (i : Nat) (k c : Int) (key : Value) (t : Tok) (acc' : List (Int × Int)) (m : Str → Option Value) (s₂ : Shared) (E : Value → Shared → Prop) (Q : Flow → Shared → Prop), i < kvs.length → acc' = (kvs.take i).foldl (fun a p => f a p.1 p.2) acc → (intKind G.prog G.w).is k key = true → CA G h₀ env.locals D dt ds acc' m s₂ → m (S' "func") = some key → m (S' "caller") = some (.int c t) →
      (∀ h' tk m', CA G h₀ env.locals D dt ds (f acc' k c) m' { s₂ with heap := h', toks := tk } → (∀ b o, b ≠ env.locals → b ≠ D → s₂.heap.get? b = some o → h'.get? b = some o) → Q .next { s₂ with heap := h', toks := tk }) →
      wpAny G.M A (execs body env) Q E s₂)
    (done : ∀ h' tk m', CA G h₀ env.locals D dt ds (kvs.foldl (fun a p => f a p.1 p.2) acc) m' { s with heap := h', toks := tk } → Q .next { s with heap := h', toks := tk })
    (hbase : attributeBase (.Name x np) (S' "items") env (eval (.Name x np) env) = eval (.Name x np) env := by rfl) (hline : (apos.endLine == ipos.line) = true := by rfl) (hdb : (x == ("__debug__" : Str)) = false := by decide) :
    wpAny G.M A (exec (.For (.Tuple [.Name (S' "func") pk, .Name (S' "caller") pv] x1 pt) (.Call (.Attribute (.Name x np) (S' "items") apos) [] [] ipos) body [] pos) env) Q E s := by
  have hd₀ : ∃ o, h₀.get? d = some o := let ⟨o, _, ho, _⟩ := hd; ⟨o, ho⟩
  obtain ⟨od, hod⟩ := hd₀
  have hdlt : d < h₀.objs.size := Heap.lt_size hod
  refine wpAny_For (items_eval hk hxl C.F.ns hx (C.keepD hd).dictOf hm ?_ hbase hline hdb)
  refine wpAny_pyIter_items (knd := intKind G.prog G.w) (d := d) (kvs := vs) (ep := ep) ⟨_, Heap.get?_push_size _ rfl, rfl, rfl⟩ ((C.keepD hd).push _) ?_
  obtain ⟨vs₀, hD₀, hv₀⟩ := C.dict
  obtain ⟨o₀, ho₀, hdo₀⟩ := Heap.dictOf_iff.mp hD₀
  have hsz : h₀.objs.size ≤ s.heap.objs.size := Nat.le_of_lt (Nat.lt_of_le_of_lt C.F.above C.F.ns.lt)
  refine codeAny_forLoop_items_frU (knd := intKind G.prog G.w) (h₀ := h₀) (m := m) (news := [(D, o₀)]) hh hxk hxv (by rw [hk]; rfl) ?_ (Nat.ne_of_lt (Nat.lt_of_lt_of_le hdlt C.F.above)) ?_ ?_ ?_ (Heap.get?_push_size _ rfl) (((C.keepD hd).push _).push _) ((C.F.push _).push _) ?_
    (fun i m news => ∃ o vs, news = [(D, o)] ∧ o.IsDictOf (intKind G.prog G.w) vs ∧ ValsAre vs ((kvs.take i).foldl (fun a p => f a p.1 p.2) acc) ∧ m (S' "new_callers") = some (.ref D) ∧ m (S' "target") = some (.ref dt) ∧ m (S' "source") = some (.ref ds)) ?_ ?_ ?_
  · have h2 := C.F.ns.lt
    intro e
    have e' : s.heap.objs.size + 1 = env.locals := by rw [← e]; exact (Heap.size_push _ _).symm
    rw [← e'] at h2
    exact absurd h2 (Nat.not_lt.mpr (Nat.le_succ _))
  · intro e
    have e' : d = s.heap.objs.size + 1 := by rw [e]; exact Heap.size_push _ _
    rw [e'] at hdlt
    exact absurd (Nat.lt_of_lt_of_le hdlt hsz) (Nat.not_lt.mpr (Nat.le_succ _))
  · cases e : h₀.get? _ with
    | none => rfl
    | some o =>
      have h3 := Heap.lt_size e
      rw [Heap.size_push] at h3
      exact absurd (Nat.lt_of_lt_of_le h3 hsz) (Nat.not_lt.mpr (Nat.le_succ _))
  · intro p hp hI
    rw [List.mem_singleton.mp hp] at hI
    have h3 := Heap.lt_size ho₀
    have hI' : D = _ := List.mem_singleton.mp hI
    rw [hI', Heap.size_push] at h3
    exact absurd h3 (Nat.not_lt.mpr (Nat.le_succ _))
  · intro p hp
    rw [List.mem_singleton.mp hp]
    exact ⟨Heap.get?_push_of_some _ (Heap.get?_push_of_some _ ho₀), C.neL, C.fresh⟩
  · exact ⟨o₀, vs₀, rfl, hdo₀, by simpa using hv₀, C.nc, C.tg, C.sr⟩
  · rintro i k v key m₁ news₁ s₁ own hi hkey ⟨o, vs₁, rfl, hdo, hva, e1, e2, e3⟩ hit hown hat F₁ N₁
    obtain ⟨c, t, rfl, hki⟩ := hv.get hi
    have hlt : i < kvs.length := (List.getElem?_eq_some_iff.mp hki).1
    have hDat := N₁ (D, o) (List.mem_append_right _ (List.mem_singleton.mpr rfl))
    have hfold : (kvs.take (i + 1)).foldl (fun a p => f a p.1 p.2) acc = f ((kvs.take i).foldl (fun a p => f a p.1 p.2) acc) k c := by
      rw [List.take_add_one, hki, List.foldl_append]; rfl
    refine step i k c key t _ _ s₁ _ _ hlt rfl hkey ⟨F₁, ⟨vs₁, Heap.dictOf_iff.mpr ⟨o, hDat.1, hdo⟩, hva⟩, C.neL, C.fresh, C.mods, ?_, ?_, ?_⟩ ?_ ?_ ?_
    · show (if S' "new_callers" = S' "caller" then _ else if S' "new_callers" = S' "func" then _ else _) = _
      rw [if_neg (by decide), if_neg (by decide)]; exact e1
    · show (if S' "target" = S' "caller" then _ else if S' "target" = S' "func" then _ else _) = _
      rw [if_neg (by decide), if_neg (by decide)]; exact e2
    · show (if S' "source" = S' "caller" then _ else if S' "source" = S' "func" then _ else _) = _
      rw [if_neg (by decide), if_neg (by decide)]; exact e3
    · show (if S' "func" = S' "caller" then _ else if S' "func" = S' "func" then _ else _) = _
      rw [if_neg (by decide), if_pos rfl]
    · show (if S' "caller" = S' "caller" then _ else _) = _
      rw [if_pos rfl]
    · intro h' tk m' C' hk'
      obtain ⟨vs', hD', hv'⟩ := C'.dict
      obtain ⟨o', ho', hdo'⟩ := Heap.dictOf_iff.mp hD'
      refine ⟨rfl, h', tk, m', [(D, o')], rfl, C'.F, ?_, (fun p hp => by rw [List.mem_singleton.mp hp]; exact hit (D, o) (List.mem_singleton.mpr rfl)), o', vs', rfl, hdo', hfold ▸ hv', C'.nc, C'.tg, C'.sr⟩
      intro p hp
      rcases List.mem_append.mp hp with hp | hp
      · obtain ⟨a1, a2, a3⟩ := N₁ p (List.mem_append_left _ hp)
        refine ⟨hk' _ _ a2 ?_ a1, a2, a3⟩
        intro e
        have hw := hown p hp
        rcases List.mem_cons.mp hw with hw | hw
        · exact hit (D, o) (List.mem_singleton.mpr rfl) (List.mem_singleton.mpr (e ▸ hw))
        · rw [List.mem_singleton.mp hw] at e
          have := C.fresh
          rw [← e, hod] at this
          cases this
      · rw [List.mem_singleton.mp hp]
        exact ⟨ho', C.neL, C.fresh⟩
  · rintro h' tk m' news' F' N' _ ⟨o, vs', rfl, hdo, hva, e1, e2, e3⟩
    rw [hv.length, List.take_length] at hva
    exact done h' tk m' ⟨F', ⟨vs', Heap.dictOf_iff.mpr ⟨o, (N' _ (List.mem_singleton.mpr rfl)).1, hdo⟩, hva⟩, C.neL, C.fresh, C.mods, e1, e2, e3⟩

/-- the bounds within which a dict of ours stays -/
theorem CA.set {acc : List (Int × Int)} {k c : Int} {key : Value} {t : Tok} {Q : Unit → Shared → Prop} (C : CA G h₀ env.locals D dt ds acc m s) (hkey : (intKind G.prog G.w).is k key = true) (hlen : acc.length ≤ 1000)
    (h : ∀ h' tk, CA G h₀ env.locals D dt ds (putI acc k c) m { s with heap := h', toks := tk } → (∀ b o, b ≠ env.locals → b ≠ D → s.heap.get? b = some o → h'.get? b = some o) → Q () { s with heap := h', toks := tk }) :
    wpAny G.M A (setItem (.ref D) key (.int c t)) Q E s := by
  obtain ⟨vs, hD, hv⟩ := C.dict
  refine wpAny_setItem_pairs (hsz := by rw [sizeLine_eq, hv.length]; omega) hkey hD fun h' hmm hs => ?_
  refine h h' _ ⟨⟨C.F.ns.sameBut hs (Ne.symm C.neL), fun b o e => hs.extBut b o (fun hb => by rw [hb, C.fresh] at e; cases e) (C.F.keep b o e), C.F.above⟩, ⟨_, hmm, hv.stored k c t⟩, C.neL, C.fresh, C.mods, C.nc, C.tg, C.sr⟩ fun b o _ hb e => hs.extBut b o hb e

theorem CA.toks (C : CA G h₀ env.locals D dt ds acc m s) (n : Nat) : CA G h₀ env.locals D dt ds acc m { s with toks := n } := ⟨C.F, C.dict, C.neL, C.fresh, C.mods, C.nc, C.tg, C.sr⟩

theorem CA.inv (C : CA G h₀ env.locals D dt ds acc m s) (ok : G.Ok h₀) (e : EnvOk env) : Inv G env [] s.heap (fun a => a = env.locals ∨ a = D) := by
  refine ⟨ok.up C.F.keep, e, ?_, fun p hp => nomatch hp⟩
  rintro a (rfl | rfl)
  · obtain ⟨o, _, _, ho, _⟩ := C.F.ns; exact ⟨o, ho⟩
  · obtain ⟨vs, ⟨o, _, _, ho, _⟩, _⟩ := C.dict; exact ⟨o, ho⟩

theorem nm_local {x : Str} {pos : Pos} {v : Value} {Q : Value → Shared → Prop} (C : CA G h₀ env.locals D dt ds acc m s) (hk : env.scope.kind = .function) (hl : env.kindOf x = some .local) (hx : m x = some v) (h : Q v s) (hdb : (x == ("__debug__" : Str)) = false := by decide) :
    wpAny G.M A (eval (.Name x pos) env) Q E s := wpAny_Name (wpAny_loadName_local hk hl C.F.ns hx h) hdb
end

def cllS : Stmt := nthS tops 3

section
variable {G : Wrld} {A : Around}
set_option maxHeartbeats 2000000 in
theorem callers_call {f : Addr} {n : Nat} {kt ks : List (Int × Int)} (R : Room A (n + 3)) (D : DefAt G f cllS [S' "target", S' "source"]) (hi : GlobIs G (S' "isinstance") (.builtin "isinstance")) (ht : GlobIs G (S' "tuple") (.type "tuple"))
    (hb1 : ∀ i, (((kt.take i).foldl (fun a p => putI a p.1 p.2) [])).length ≤ 1000) (hb2 : ∀ i, (((ks.take i).foldl (fun a p => addOne a p.1 p.2) (kt.foldl (fun a p => putI a p.1 p.2) []))).length ≤ 1000) :
    CallIs G A (.ref f) [.dict kt, .dict ks] (.dict (addCallers kt ks)) := by
  obtain ⟨name, qual, dV, kV, doc, pm, an, cdv, ct, K⟩ := D
  refine call_fn K rfl R.lim fun s X L s' hbase S => ?_
  obtain ⟨vs, r, hns, hL⟩ := hbase
  cases r with
  | cons r1 r' =>
  cases r' with
  | cons r2 r' =>
  cases r'
  obtain ⟨at_, vt, ept, rfl, hXt, hmt, hdt, hvt⟩ := r1.dictAt (G := G)
  obtain ⟨as_, vsS, eps, rfl, hXs, hms, hds, hvs⟩ := r2.dictAt (G := G)
  have hbig : sysModules < s.heap.objs.size := modules_low S.ok₀.nolim
  have F0 : Fr s.heap L s'.heap (fun x => ([S' "target", S' "source"].zip [Value.ref at_, Value.ref as_]).reverse.lookup x) := ⟨hns, Keeps.hle S.keeps, hL⟩
  refine wpAny_execs_cons (wpAny_Assign_Name (Dict_empty_made2 F0 News.nil hbig fun h₁ o F₁ N₁ lo _ _ hdo _ _ => ?_) rfl)
  refine wpAny_storeName_local (by rfl) F₁.ns (fun h₂ hn₂ hs₂ => ?_) rfl
  obtain ⟨D, hDe⟩ : ∃ D, D = s'.heap.objs.size := ⟨_, rfl⟩
  rw [← hDe] at N₁ lo
  have hD := N₁ (D, o) (List.mem_singleton.mpr rfl)
  have F₂ := F₁.set hn₂ hs₂
  rw [← hDe] at F₂
  have C : CA G s.heap L D at_ as_ [] (fun x => if x = S' "new_callers" then some (.ref D) else ([S' "target", S' "source"].zip [Value.ref at_, Value.ref as_]).reverse.lookup x) { s' with heap := h₂, toks := s'.toks + 1 } := ⟨F₂, ⟨[], Heap.dictOf_iff.mpr ⟨o, hs₂.extBut _ _ hD.2.1 hD.1, hdo⟩, .nil⟩, hD.2.1, hD.2.2, lo, rfl, rfl, rfl⟩
  refine wpAny_execs_cons (C.loop (env := fenv _ L f) (kvs := kt) (fun a k c => putI a k c) R.handled rfl rfl C.tg hdt hvt hmt rfl rfl ?_ ?_)
  · intro i k c key t acc m s₂ E Q hilt hacc hkey C₂ hf hc hQ
    refine wpAny_execs_cons (wpAny_Assign_Subscript (nm_local C₂ rfl rfl hc (nm_local C₂ rfl rfl C₂.nc (nm_local C₂ rfl rfl hf ?_))) rfl)
    refine C₂.set hkey (by rw [hacc]; exact hb1 i) fun h' tk C₃ hk => wpAny_execs_nil (hQ h' tk m C₃ hk)
  · intro h₃ tk₃ m₃ C₃
    refine wpAny_execs_cons (C₃.loop (env := fenv _ L f) (kvs := ks) addOne R.handled rfl rfl C₃.sr hds hvs hms rfl rfl ?_ ?_)
    · intro i k c key t acc m s₂ E Q hilt hacc hkey C₂ hf hc hQ
      obtain ⟨va, hDa, hva⟩ := C₂.dict
      have hle : acc.length ≤ 1000 := by rw [hacc]; exact hb2 i
      refine wpAny_execs_cons (wpAny_If (wpAny_isTrue_Compare1 (nm_local C₂ rfl rfl hf (nm_local C₂ rfl rfl C₂.nc ?_)) rfl))
      refine wpAny_in_of hkey C₂.mods hDa.mapOf (wpAny_truthy_bool ?_)
      have C₂' := C₂.toks (s₂.toks + 1)
      rcases hva.value k with ⟨e1, e2⟩ | ⟨n, tn, e1, e2⟩
      · rw [e1]
        refine wpAny_execs_cons (wpAny_Assign_Subscript (nm_local C₂' rfl rfl hc (nm_local C₂' rfl rfl C₂'.nc (nm_local C₂' rfl rfl hf ?_))) rfl)
        refine C₂'.set hkey hle fun h' tk C₃ hk => wpAny_execs_nil (wpAny_execs_nil (hQ h' tk m ?_ hk))
        rw [addOne, e2]; exact C₃
      · rw [e1]
        refine wpAny_execs_cons (wpAny_If ?_)
        show wpAny _ _ (do let v ← eval _ _; standAt _; holding [v] (truthy v)) _ _ _
        refine wpAny_bind (PyProof.Rows.Call_Name rfl (eval_glob (C₂'.inv S.ok₀ ⟨rfl, K.g, K.b⟩) hi rfl ?_))
        refine Calls.callWith_builtin rfl (Calls.evalArgs_plain (Calls.spliced_cons (nm_local C₂' rfl rfl hc ?_)))
        refine Calls.spliced_cons (eval_glob (C₂'.inv S.ok₀ ⟨rfl, K.g, K.b⟩) ht rfl (Calls.spliced_nil ?_))
        refine IsiPair.int_tuple (wpAny_bind (wpAny_standAt (wpAny_holding (wpAny_truthy_bool ?_))))
        have C₃ := C₂'.toks (s₂.toks + 1 + 1)
        refine wpAny_execs_cons (wpAny_AugAssign_Subscript (nm_local C₃ rfl rfl C₃.nc (nm_local C₃ rfl rfl hf ?_)))
        refine wpAny_getItem_of hkey hDa.mapOf e1 ?_
        have C₄ := C₃.toks (s₂.toks + 1 + 1 + 1)
        refine nm_local C₄ rfl rfl hc (wpAny_iadd_int ?_)
        have C₅ := C₄.toks (s₂.toks + 1 + 1 + 1 + 1)
        refine C₅.set hkey hle fun h' tk C₆ hk => wpAny_execs_nil (wpAny_execs_nil (wpAny_execs_nil (hQ h' tk m ?_ hk)))
        rw [addOne, e2]; exact C₆
    · intro h₄ tk₄ m₄ C₄
      refine wpAny_execs_cons (wpAny_Return_some (nm_local C₄ rfl rfl C₄.nc ⟨_, rfl, ?_, ?_⟩))
      · obtain ⟨hh, tt, es, _⟩ := S.keeps
        rw [es]
        exact ⟨h₄, tk₄, rfl, C₄.F.keep⟩
      · obtain ⟨vd, hDd, hvd⟩ := C₄.dict
        exact Rep.ofDict hDd hvd (fun hX => by obtain ⟨o', e⟩ := S.inv.low D (.inl hX); exact absurd (Heap.lt_size e) (by rw [hDe]; exact Nat.lt_irrefl _)) C₄.mods
end
end Mine

/-! ### MyStats -/
namespace Mine
def stsS : Stmt := nthS tops 2
abbrev statD (a b c d : Int) (kvs : List (Int × Int)) : Dt := .tup [.int a, .int b, .int c, .int d, .dict kvs]

section
variable {G : Wrld} {A : Around}
set_option maxHeartbeats 2000000 in
theorem stats_call {f g : Addr} {n : Nat} {a b c d a' b' c' d' : Int} {kt ks : List (Int × Int)} (R : Room A (n + 5)) (D : DefAt G f stsS [S' "target", S' "source"])
    (hg : GlobIs G (S' "add_callers") (.ref g)) (hgk : keepIn G.K (.ref g) = true) (hc : ∀ A', Room A' (n + 3) → CallIs G A' (.ref g) [.dict kt, .dict ks] (.dict (addCallers kt ks))) :
    CallIs G A (.ref f) [statD a b c d kt, statD a' b' c' d' ks] (statD (a' + a) (b' + b) (c' + c) (d' + d) (addCallers kt ks)) := by
  obtain ⟨name, qual, dV, kV, doc, pm, an, cdv, ct, K⟩ := D
  refine call_fn K rfl R.lim fun s X L s' _ S => ?_
  have R' : Room (A.deeper (fenv (fnOf name qual (paramsOf stsS) (bodyOf stsS) (scopeOf stsS) dV kV doc pm an cdv ct) L f)) (n + 4) := R.deeper _
  have hst : ∀ (l : List (Str × Pos)), (l.all fun n => canStore (fenv (fnOf name qual (paramsOf stsS) (bodyOf stsS) (scopeOf stsS) dV kV doc pm an cdv ct) L f) n.1) = true → ∀ n ∈ l, canStore (fenv (fnOf name qual (paramsOf stsS) (bodyOf stsS) (scopeOf stsS) dV kV doc pm an cdv ct) L f) n.1 = true := fun l h n hn => List.all_eq_true.mp h n hn
  refine wpAny_execs_cons (S.assignTup [(S' "cc", _), (S' "nc", _), (S' "tt", _), (S' "ct", _), (S' "callers", _)] R.handled (ev_name (d := statD a' b' c' d' ks) rfl) rfl (fun s₁ S₁ => ?_) (hst _ rfl) (fun n hn q hq => nomatch hq))
  refine wpAny_execs_cons (S₁.assignTup [(S' "t_cc", _), (S' "t_nc", _), (S' "t_tt", _), (S' "t_ct", _), (S' "t_callers", _)] R.handled (ev_name (d := statD a b c d kt) rfl) rfl (fun s₂ S₂ => ?_) (hst _ rfl) (fun n hn q hq => nomatch hq))
  refine wpAny_execs_cons (S₂.ret (d := statD (a' + a) (b' + b) (c' + c) (d' + d) (addCallers kt ks)) (ev_tup ?_) fun v s₃ k r => ⟨v, rfl, k, r⟩)
  refine evAll_cons (ev_bin (bin_add _ _) (ev_name rfl) (ev_name rfl)) (evAll_cons (ev_bin (bin_add _ _) (ev_name rfl) (ev_name rfl)) (evAll_cons (ev_bin (bin_add _ _) (ev_name rfl) (ev_name rfl)) (evAll_cons (ev_bin (bin_add _ _) (ev_name rfl) (ev_name rfl)) (evAll_cons ?_ evAll_nil))))
  exact ev_call hg (.inr (.inr hgk)) rfl (evAll_cons (ev_name rfl) (evAll_cons (ev_name rfl) evAll_nil)) (hc _ (R'.le (by omega)))
end
end Mine

/-! ### MyComp4 -/
namespace Mine

theorem putI_length (kvs : List (Int × Int)) (k v : Int) : (putI kvs k v).length ≤ kvs.length + 1 := by
  unfold putI; split <;> simp
def dFold (fk fv : Dt → Int) (xs : List Dt) : List (Int × Int) := xs.foldl (fun a d => putI a (fk d) (fv d)) []
theorem dFold_length (fk fv : Dt → Int) (xs : List Dt) : (dFold fk fv xs).length ≤ xs.length := by
  have : ∀ (xs : List Dt) (a : List (Int × Int)), (xs.foldl (fun a d => putI a (fk d) (fv d)) a).length ≤ a.length + xs.length := by
    intro xs
    induction xs with
    | nil => intro a; simp
    | cons d r ih => intro a; have h1 := ih (putI a (fk d) (fv d)); have h2 := putI_length a (fk d) (fv d); simp only [List.foldl_cons, List.length_cons]; omega
  simpa [dFold] using this xs []

section
variable {G : Wrld} {A : Around} {R : Result → Shared → Prop}

theorem comp_loopD {s : Shared} {h0 : Heap} {X : Addr → Prop} {kx vx iter : Expr} {x : Str} {px : Pos} {scope : Scope} {pos : Pos} {I D : Addr} {O : List Addr} {fp : List Addr} {xs : List Dt} {P : Nat → Value → Prop} {St : Nat → Heap → Prop} {env : Env}
    {Fr : Heap → Prop} {Γb : Dt → Ctx} {Γ : Ctx} (fk fv : Dt → Int)
    (it : ItAt G A X h0 I fp xs P St s.heap) (B : BindsBy G A env (.Name x px) O Fr xs Γb) (ok : G.Ok h0) (hk : EnvOk env) (low : Low X h0) (has : Has env Γ h0 X)
    (k0 : HLe h0 s.heap) (hD : s.heap.DictOf (intKind G.prog G.w) D []) (hDf : h0.get? D = none) (hOf : ∀ b ∈ O, h0.get? b = none) (hDI : D ≠ I) (hDO : D ∉ O) (hIO : I ∉ O) (hFr : Fr s.heap) (hsz : xs.length ≤ 1000)
    (hkey : ∀ d, d ∈ xs → Ev G A env (Γb d ++ Γ) kx (.int (fk d))) (hval : ∀ d, d ∈ xs → Ev G A env (Γb d ++ Γ) vx (.int (fv d)))
    (hR : ∀ h' tk vs, HLe h0 h' → h'.DictOf (intKind G.prog G.w) D vs → Fr h' → ValsAre vs (dFold fk fv xs) → R (.ok .next) { s with heap := h', toks := tk }) :
    codeAny G.M A (.compLoop (.DictComp kx vx [⟨.Name x px, iter, [], 0⟩] scope pos) 0 (.ref I) (.ref D) env) R s := by
  have hfpO : ∀ b ∈ fp, b ∉ O := fun b hb hO => by
    by_cases e : b = I
    · exact hIO (e ▸ hO)
    · obtain ⟨⟨o, ho⟩, _⟩ := it.old b hb e; rw [hOf b hO] at ho; cases ho
  have hfpD : ∀ b ∈ fp, b ≠ D := fun b hb e => by
    subst e
    obtain ⟨⟨o, ho⟩, _⟩ := it.old b hb hDI; rw [hDf] at ho; cases ho
  have h0X : ∀ a o, h0.get? a = some o → ¬ X a → ¬ XO X I D O a := fun a o e hx hx' => by
    rcases hx' with h | rfl | rfl | h
    · exact hx h
    · rw [it.fresh] at e; cases e
    · rw [hDf] at e; cases e
    · rw [hOf a h] at e; cases e
  refine codeAny_compLoop_testsD
    (fun k s' => ∃ h' tk i vs, s' = { s with heap := h', toks := tk } ∧ i ≤ xs.length ∧ k = xs.length + 1 - i ∧ St i h' ∧ HLe h0 h' ∧ h'.DictOf (intKind G.prog G.w) D vs ∧ Fr h' ∧ ValsAre vs (dFold fk fv (xs.take i))) ?_
    (xs.length + 1) ⟨s.heap, s.toks, 0, [], rfl, Nat.zero_le _, rfl, it.st, k0, hD, hFr, .nil⟩
  rintro k s' ⟨h, tk, i, ys, rfl, hi, rfl, hst, hk0, hacc, hfr, hys⟩
  by_cases hlt : i < xs.length
  · refine it.w.item i _ _ _ hlt hst fun v h₁ tk₁ hPv hst₁ hk₁ => ?_
    obtain ⟨d, hd, rd⟩ := it.rep i v hPv
    have hmem : d ∈ xs := List.mem_of_getElem? hd
    have hk01 : HLe h0 h₁ := fun b o e => hk₁ b o (by intro hb; rw [List.mem_singleton] at hb; subst hb; rw [it.fresh] at e; cases e) (hk0 b o e)
    have hfr₁ : Fr h₁ := B.keep _ _ hfr fun b hb o e => hk₁ b o (by intro hb'; rw [List.mem_singleton] at hb'; exact hIO (hb' ▸ hb)) e
    have rd₁ : Rep (fz h₁ (XO X I D O)) v d := rd.shift fun a o e hx => ⟨hk01 a o e, h0X a o e hx⟩
    refine B.bind _ (XO X I D O) _ _ v d hmem (fun b hb => .inr (.inr (.inr hb))) rd₁ hfr₁ fun h₂ tk₂ hk₂ hfr₂ hb₂ => ?_
    have hk02 : HLe h0 h₂ := fun b o e => hk₂ b o (fun hb => by rw [hOf b hb] at e; cases e) (hk01 b o e)
    have hst₂ : St (i + 1) h₂ := it.w.frame _ _ _ hst₁ fun b hb o e => hk₂ b o (hfpO b hb) e
    have hacc₂ : h₂.DictOf (intKind G.prog G.w) D ys := hacc.at fun o e => hk₂ _ o hDO (hk₁ _ o (by simpa using hDI) e)
    have low₂ : Low (XO X I D O) h₂ := fun a ha => by
      rcases ha with h | rfl | rfl | h
      · obtain ⟨o, ho⟩ := low a h; exact ⟨o, hk02 _ _ ho⟩
      · exact it.live _ _ hst₂
      · obtain ⟨o, _, _, ho, _⟩ := hacc₂; exact ⟨o, ho⟩
      · exact B.live _ hfr₂ a h
    have inv : Inv G env (Γb d ++ Γ) h₂ (XO X I D O) := ⟨ok.up hk02, hk, low₂, fun q hq => by
      rcases List.mem_append.mp hq with hq | hq
      · exact hb₂ q hq
      · obtain ⟨u, n, r⟩ := has q hq
        exact ⟨u, n.up hk02, r.shift fun a o e hx => ⟨hk02 a o e, h0X a o e hx⟩⟩⟩
    have etake : dFold fk fv (xs.take (i + 1)) = putI (dFold fk fv (xs.take i)) (fk d) (fv d) := by
      rw [dFold, List.take_add_one, hd, List.foldl_append]; rfl
    refine wpAny_tests_nil ?_
    rw [if_pos rfl]
    refine hkey d hmem _ (XO X I D O) _ _ inv fun kv s₄ k₄ r₄ => ?_
    obtain ⟨h₄, tk₄, rfl, hk₄⟩ := k₄
    refine hval d hmem _ (XO X I D O) _ _ (inv.up hk₄) fun y s₅ k₅ r₅ => ?_
    obtain ⟨h₅, tk₅, rfl, hk₅⟩ := k₅
    cases r₄; cases r₅
    have hacc₅ : h₅.DictOf (intKind G.prog G.w) D ys := hacc₂.at fun o e => hk₅ _ o (hk₄ _ o e)
    have hl := dFold_length fk fv (xs.take i)
    have hl2 : (xs.take i).length ≤ xs.length := by rw [List.length_take]; omega
    refine wpAny_dictSet_pairs (intKind_is G.prog G.w _ _) hacc₅ (fun h₆ hl₆ hs₆ => ?_) (by rw [sizeLine_eq, hys.length]; omega)
    refine ⟨xs.length + 1 - (i + 1), by omega, h₆, _, i + 1, _, rfl, hlt, rfl, it.w.frame _ _ _ hst₂ fun b hb o e => hs₆.extBut b o (hfpD b hb) (hk₅ _ o (hk₄ _ o e)), fun b o e => hs₆.extBut b o (fun h => by subst h; rw [hDf] at e; cases e) (hk₅ _ o (hk₄ _ o (hk02 b o e))), hl₆, ?_, ?_⟩
    · exact B.keep _ _ hfr₂ fun b hb o e => hs₆.extBut b o (fun h => hDO (h ▸ hb)) (hk₅ _ o (hk₄ _ o e))
    · rw [etake]; exact hys.stored _ _ _
  · obtain rfl : i = xs.length := by omega
    refine it.w.done _ _ _ hst fun h₁ tk₁ hk₁ => ?_
    rw [List.take_length] at hys
    exact hR h₁ tk₁ ys (fun b o e => hk₁ b o (by intro hb; rw [List.mem_singleton] at hb; subst hb; rw [it.fresh] at e; cases e) (hk0 b o e)) (hacc.at fun o e => hk₁ _ o (by simpa using hDI) e)
      (B.keep _ _ hfr fun b hb o e => hk₁ b o (by intro hb'; rw [List.mem_singleton] at hb'; exact hIO (hb' ▸ hb)) e) hys
end

section
variable {G : Wrld} {A : Around} {E : Value → Shared → Prop}

theorem comp_blockD {s₁ s₂ : Shared} {X : Addr → Prop} {kx vx iter : Expr} {x : Str} {px : Pos} {scope : Scope} {pos : Pos} {I : Addr} {fp : List Addr} {xs : List Dt} {P : Nat → Value → Prop} {St : Nat → Heap → Prop} {env : Env} {Γ : Ctx}
    {RR : Value → Addr → Result → Shared → Prop} (fk fv : Dt → Int)
    (inv : Inv G env Γ s₁.heap X) (k : Keeps s₁ s₂) (it : ItAt G A X s₁.heap I fp xs P St s₂.heap) (hc : cloOk scope.names env = true) (hcell : ∀ y ∈ scope.names, y.2 ≠ .cell) (hkind : scope.kind = .function) (hx : scope.names.lookup x = some .local) (hsz : xs.length ≤ 1000)
    (hkey : ∀ C d, d ∈ xs → Ev G A (cEnv scope C env) ((x, d) :: seen scope Γ) kx (.int (fk d))) (hval : ∀ C d, d ∈ xs → Ev G A (cEnv scope C env) ((x, d) :: seen scope Γ) vx (.int (fv d)))
    (hRR : ∀ D C h' tk m' vs, s₁.heap.get? D = none → s₁.heap.get? C = none → ¬ X D → D ≠ C → (D == sysModules) = false → HLe s₁.heap h' → h'.Ns C m' → h'.DictOf (intKind G.prog G.w) D vs → ValsAre vs (dFold fk fv xs) → RR (.ref D) C (.ok .next) { s₂ with heap := h', toks := tk }) :
    wpAny G.M A newDict (fun acc s₃ => wpAny G.M A (newFunctionEnv scope env.globals (cloOf env scope.names []) [] env.qual none .none (some env)) (fun cenv s₄ =>
      codeAny G.M A (.compStart (.DictComp kx vx [⟨.Name x px, iter, [], 0⟩] scope pos) 0 (.ref I) acc { cenv with scope := relabel scope env }) (RR acc cenv.locals) s₄) E s₃) E s₂ := by
  refine wpAny_newObj_type (wpAny_newFunctionEnv hcell (by intro y hy; simp at hy) (fun h₁ hns₁ hsb₁ => ?_) hkind)
  dsimp only at hns₁ hsb₁ ⊢
  have hnew : (s₂.heap.push { cls := .type "dict", dict := none, data := .dict #[] }).DictOf (intKind G.prog G.w) s₂.heap.objs.size [] := Heap.DictOf.new s₂.heap
  generalize hH2 : s₂.heap.push { cls := .type "dict", dict := none, data := .dict #[] } = H2 at hns₁ hsb₁ hnew ⊢
  have hC : H2.objs.size = s₂.heap.objs.size + 1 := by rw [← hH2, Heap.size_push]
  have hDC : s₂.heap.objs.size ≠ H2.objs.size := by rw [hC]; exact Nat.ne_of_lt (Nat.lt_succ_self _)
  have below : ∀ b, b < s₂.heap.objs.size → b ≠ H2.objs.size := fun b hb => by rw [hC]; exact Nat.ne_of_lt (Nat.lt_succ_of_lt hb)
  have old : HLe s₂.heap h₁ := fun b o e => hsb₁.extBut b o (below b (Heap.lt_size e)) (Heap.get?_push_of_some _ (hH2 ▸ Heap.get?_push_of_some _ e))
  have hacc : h₁.DictOf (intKind G.prog G.w) s₂.heap.objs.size [] := hnew.at fun o e => hsb₁.extBut _ _ hDC (Heap.get?_push_of_some _ e)
  have fresh : ∀ a, s₂.heap.objs.size ≤ a → s₁.heap.get? a = none := fun a ha => by
    cases e : s₁.heap.get? a with
    | none => rfl
    | some o' => exact absurd (Heap.lt_size (Keeps.hle k _ _ e)) (Nat.not_lt.mpr ha)
  have hmod : (s₂.heap.objs.size == sysModules) = false := by
    have h1 := modules_low (inv.ok.up (Keeps.hle k)).nolim
    exact beq_eq_false_iff_ne.mpr (Nat.ne_of_gt h1)
  obtain ⟨oI, hoI⟩ := it.live _ _ it.st
  have hIlt : I < s₂.heap.objs.size := Heap.lt_size hoI
  have it' : ItAt G A X s₁.heap I fp xs P St h₁ := ⟨it.w, it.w.frame _ _ _ it.st fun b _ o e => old b o e, it.fresh, it.mem, it.live, it.kind, it.old, it.rep⟩
  have loop : ∀ s₃ : Shared, s₃ = { s₂ with heap := h₁, toks := s₂.toks + ([] : List (Str × Value)).length } →
      codeAny G.M A (.compLoop (.DictComp kx vx [⟨.Name x px, iter, [], 0⟩] scope pos) 0 (.ref I) (.ref s₂.heap.objs.size) (cEnv scope H2.objs.size env)) (RR (.ref s₂.heap.objs.size) H2.objs.size) s₃ := by
    rintro s₃ rfl
    refine comp_loopD (h0 := s₁.heap) (X := X) (O := [H2.objs.size]) (Γ := seen scope Γ) fk fv it' (binds_name hkind hx) inv.ok (cEnv_ok hkind inv.envok) inv.low (has_seen hc inv.has) (HLe.trans (Keeps.hle k) old) hacc
      (fresh _ (Nat.le_refl _)) (fun b hb => by rw [List.mem_singleton] at hb; subst hb; exact fresh _ (by omega)) (Nat.ne_of_gt hIlt) (by simpa using hDC) (by simpa using below I hIlt) ⟨_, hns₁⟩ hsz
      (fun d hd => hkey _ d hd) (fun d hd => hval _ d hd) fun h' tk ys hk' hpl hfr hrep => ?_
    obtain ⟨m', hn'⟩ := hfr
    exact hRR _ _ h' tk m' ys (fresh _ (Nat.le_refl _)) (fresh _ (by omega)) ((inv.low.mono (Keeps.hle k)).size) hDC hmod hk' hn' hpl hrep
  exact codeAny_compStart_dict (loop _ rfl) (it'.w.self 0 _ _ _ it'.st (loop _ rfl))
end

section
variable {G : Wrld} {A : Around} {env : Env} {Γ : Ctx}

theorem ev_dcomp {kx vx iter : Expr} {x : Str} {px : Pos} {scope : Scope} {pos : Pos} {d : Dt} {xs : List Dt} (fk fv : Dt → Int) (hh : A.handled = none) (hb : blockOk scope x = true) (hc : cloOk scope.names env = true)
    (hiter : Ev G A env Γ iter d) (hx : d.items = some xs) (ok : d.srcOk) (hsz : xs.length ≤ 1000)
    (hkey : ∀ C d, d ∈ xs → Ev G A (cEnv scope C env) ((x, d) :: seen scope Γ) kx (.int (fk d))) (hval : ∀ C d, d ∈ xs → Ev G A (cEnv scope C env) ((x, d) :: seen scope Γ) vx (.int (fv d)))
    (hs : ∀ v, foldedSetIterable iter env v = pure v := by intro _; rfl) : Ev G A env Γ (.DictComp kx vx [⟨.Name x px, iter, [], 0⟩] scope pos) (.dict (dFold fk fv xs)) := by
  intro s X E Q inv h
  obtain ⟨hkind, hcell, hnames, hxl⟩ := blockOk_of hb
  rw [arm_eval_DictComp]
  refine wpAny_comprehension_free (use := none) rfl hs (closureFor_eq hc) hkind hnames (hiter s X E _ inv fun v s₁ k₁ r₁ => iter_src (G := G) hh r₁ hx ok fun I fp P St s₂ k₂ it => ?_)
  refine comp_blockD (RR := fun acc C => compPost G.M A E none Q acc C) fk fv (inv.up (Keeps.hle k₁)) k₂ it hc hcell hkind hxl hsz hkey hval ?_
  intro D C h' tk m' vs hD hC hXD hDC hmod hk' hn' hpl hrep
  refine ⟨m', hn', fun h'' hs'' => ?_⟩
  have hk'' : HLe s₁.heap h'' := fun b o e => hs''.extBut b o (fun hb => by subst hb; rw [hC] at e; cases e) (hk' b o e)
  have hK : Keeps s₁ { s₂ with heap := h'', toks := tk } := by
    obtain ⟨h₂, t₂, rfl, _⟩ := k₂
    exact ⟨h'', tk, rfl, hk''⟩
  exact h _ _ (Keeps.trans' k₁ hK) (Rep.ofDict (hpl.at fun o e => hs''.extBut _ _ hDC e) hrep hXD hmod)

variable {s₀ s : Shared} {c : Heap} {X O : Addr → Prop} {E : Value → Shared → Prop}
set_option maxHeartbeats 1000000 in
/-- y = {k: v for x in iter}, the store ahead of the block's own names' end -/
theorem FS.assignDComp {kx vx iter : Expr} {x y : Str} {px py : Pos} {scope : Scope} {pos spos : Pos} {d : Dt} {xs : List Dt} {Q : Flow → Shared → Prop} (fk fv : Dt → Int) (S : FS G env Γ [] s₀ c X O s) (hh : A.handled = none)
    (hsw : swapsWith (.DictComp kx vx [⟨.Name x px, iter, [], 0⟩] scope pos) (some (.Name y py)) spos.line env = pure true) (hy : canStore env y = true) (hb : blockOk scope x = true) (hc : cloOk scope.names env = true)
    (hiter : Ev G A env Γ iter d) (hx : d.items = some xs) (ok : d.srcOk) (hsz : xs.length ≤ 1000)
    (hkey : ∀ C d, d ∈ xs → Ev G A (cEnv scope C env) ((x, d) :: seen scope Γ) kx (.int (fk d))) (hval : ∀ C d, d ∈ xs → Ev G A (cEnv scope C env) ((x, d) :: seen scope Γ) vx (.int (fv d)))
    (h : ∀ s', FS G env (put y (.dict (dFold fk fv xs)) Γ) [] s₀ c X O s' → Q .next s')
    (hs : ∀ v, foldedSetIterable iter env v = pure v := by intro _; rfl) : wpAny G.M A (exec (.Assign [.Name y py] (.DictComp kx vx [⟨.Name x px, iter, [], 0⟩] scope pos) spos) env) Q E s := by
  obtain ⟨hkind, hcell, hnames, hxl⟩ := blockOk_of hb
  rw [exec_Assign_Name_used _ _ _ _ hsw]
  refine wpAny_bind (wpAny_standAt (wpAny_bind ?_))
  show wpAny _ A (do let _ ← comprehension (.DictComp kx vx [⟨.Name x px, iter, [], 0⟩] scope pos) scope env _ newDict false (eval iter env) (some (PySem.assign (.Name y py) env))) _ _ s
  refine wpAny_bind (wpAny_comprehension_free (use := some (PySem.assign (.Name y py) env)) rfl hs (closureFor_eq hc) hkind hnames (S.ev hiter fun v s₁ S₁ k₁ r₁ => iter_src (G := G) hh r₁ hx ok fun I fp P St s₂ k₂ it => ?_))
  refine comp_blockD (RR := fun acc C => compPost G.M A E (some (PySem.assign (.Name y py) env)) _ acc C) fk fv S₁.inv k₂ it hc hcell hkind hxl hsz hkey hval ?_
  intro D C h' tk m' vs hD hC hXD hDC hmod hk' hn' hpl hrep
  have hK : Keeps s₁ { s₂ with heap := h', toks := tk } := by
    obtain ⟨h₂, t₂, rfl, _⟩ := k₂
    exact ⟨h', tk, rfl, hk'⟩
  have hCO : ¬ O C := fun hO => by obtain ⟨o, ho⟩ := S₁.inv.low C (.inr hO); rw [hC] at ho; cases ho
  have hCX : ¬ X C := fun hO => by obtain ⟨o, ho⟩ := S₁.inv.low C (.inl hO); rw [hC] at ho; cases ho
  have hCl : C ≠ env.locals := fun e => by obtain ⟨m, o, _, _, ho, _⟩ := S₁.ns; rw [← e, hC] at ho; cases ho
  have hCc : ∀ z q, env.cells.lookup z = some q → C ≠ q := fun z q e e' => by obtain ⟨_, _, v, o, ho, _⟩ := S₁.cells z q e; rw [← e', hC] at ho; cases ho
  have hC0 : s₀.heap.get? C = none := by
    cases e : s₀.heap.get? C with
    | none => rfl
    | some o => have := Keeps.hle S₁.keeps _ _ e; rw [hC] at this; cases this
  have hCm : c.get? C = none := by
    cases e : c.get? C with
    | none => rfl
    | some o => have := S₁.mod _ _ hCO e; rw [hC] at this; cases this
  have S₂ : FS G env Γ [] s₀ c X (XI O C) { s₂ with heap := h', toks := tk } := S₁.grow hK hC (let ⟨o, _, _, ho, _⟩ := hn'; ⟨o, ho⟩)
  have rD : Rep (fz h' (XU X (XI O C))) (.ref D) (.dict (dFold fk fv xs)) := Rep.ofDict hpl hrep (fun hx => by
      rcases hx with h | h | h
      · exact hXD (.inl h)
      · exact hXD (.inr h)
      · exact hDC h) hmod
  refine wpAny_assign_Name (S₂.store2 hy (fun q hq => nomatch hq) rD fun h'' tk'' a S₃ ha hsb => ?_)
  have hCa : C ≠ a := by
    rcases ha with rfl | ⟨z, e⟩
    · exact hCl
    · exact hCc z a e
  refine ⟨m', hn'.sameBut hsb hCa, fun h₃ hs₃ => wpAny_pure ?_⟩
  exact wpAny_pure (h _ (S₃.placeGone (tk := _) hCO hCX hCl hCc (fun q hq => nomatch hq) hC0 hCm fun b o hb e => hs₃.extBut b o hb e))

/-- a display of one pair -/
theorem ev_dict1 {kx vx : Expr} {pos : Pos} {k v : Int} (hk : Ev G A env Γ kx (.int k)) (hv : Ev G A env Γ vx (.int v)) : Ev G A env Γ (.Dict [some kx] [vx] pos) (.dict [(k, v)]) := by
  intro s X E Q inv h
  have hp : HLe s.heap (s.heap.push { cls := .type "dict", data := .dict #[] }) := HLe.push _ _
  have hmod : (s.heap.objs.size == sysModules) = false := beq_eq_false_iff_ne.mpr (Nat.ne_of_gt (modules_low inv.ok.nolim))
  refine wpAny_Dict_walk (knd := intKind G.prog G.w) rfl rfl (by simp) (by show 1 ≤ 15; decide) (pairTrees_cons_walk ?_)
  refine hk _ X E _ (inv.up hp) fun kv s₁ k₁ r₁ => hv _ X E _ ((inv.up hp).up (Keeps.hle k₁)) fun vv s₂ k₂ r₂ => pairTrees_nil_walk ?_
  cases r₁; cases r₂
  rename_i t u
  refine ⟨[(k, .int v u)], carries_intKeyPairs G.prog G.w [(.int k t, .int v u)] rfl, ?_, fun h' hd hs => ?_⟩
  · exact (Heap.DictOf.new (knd := intKind G.prog G.w) s.heap).at fun o e => Keeps.hle k₂ _ _ (Keeps.hle k₁ _ _ e)
  · have hX := inv.low.size
    have kk := Keeps.trans' k₁ k₂
    obtain ⟨h₂, t₂, rfl, hk₂⟩ := kk
    refine h _ _ ⟨h', _, rfl, fun b o e => hs.extBut b o (Nat.ne_of_lt (Heap.lt_size e)) (hk₂ _ _ (hp _ _ e))⟩ (Rep.ofDict hd (.cons .nil) hX hmod)
/-- the empty display -/
theorem ev_dict0 {pos : Pos} : Ev G A env Γ (.Dict [] [] pos) (.dict []) := by
  intro s X E Q inv h
  refine wpAny_Dict_empty (h _ _ (Keeps.mk' (HLe.push _ _)) (Rep.ofDict (Heap.DictOf.new (knd := intKind G.prog G.w) s.heap) .nil inv.low.size (beq_eq_false_iff_ne.mpr (Nat.ne_of_gt (modules_low inv.ok.nolim)))))
end
end Mine

/-! ### MyEq -/
namespace Mine

def dictEq (kvs lvs : List (Int × Int)) : Bool := kvs.length == lvs.length && kvs.all fun p => getI lvs p.1 == some p.2

theorem getI_self {kvs : List (Int × Int)} (hn : (kvs.map (·.1)).Nodup) : ∀ p ∈ kvs, getI kvs p.1 = some p.2 := by
  induction kvs with
  | nil => intro p hp; cases hp
  | cons q r ih =>
    intro p hp
    rw [List.map_cons, List.nodup_cons] at hn
    by_cases e : q.1 = p.1
    · rcases List.mem_cons.mp hp with rfl | hp
      · simp [getI]
      · exact absurd (List.mem_map.mpr ⟨p, hp, e.symm⟩) hn.1
    · rcases List.mem_cons.mp hp with rfl | hp
      · exact absurd rfl e
      · have := ih hn.2 p hp
        simpa [getI, e] using this
theorem dictEq_self {kvs : List (Int × Int)} (hn : (kvs.map (·.1)).Nodup) : dictEq kvs kvs = true := by
  unfold dictEq
  simp only [beq_self_eq_true, Bool.true_and, List.all_eq_true, beq_iff_eq]
  exact getI_self hn
def entKvs (es : List DictEntry) : List (Int × Int) := es.map fun e => match e.key, e.val with | .int k _, .int v _ => (k, v) | _, _ => (0, 0)
theorem EntsAre.kvs {es : List DictEntry} {kvs : List (Int × Int)} (h : EntsAre es kvs) : kvs = entKvs es := by
  induction h with
  | nil => rfl
  | cons _ ih => rw [ih]; rfl
theorem EntsAre.uniq {es : List DictEntry} {kvs lvs : List (Int × Int)} (h : EntsAre es kvs) (g : EntsAre es lvs) : kvs = lvs := h.kvs.trans g.kvs.symm

theorem hits_of {A : Around} {s : Shared} {kb : List (Int × Value)} {lvs : List (Int × Int)} (hb : ValsAre kb lvs) : ∀ {ka : List (Int × Value)} {kvs : List (Int × Int)}, ValsAre ka kvs → KeqHits A s kb ka (kvs.all fun p => getI lvs p.1 == some p.2)
  | _, _, .nil => .nil
  | _, _, .cons (k := k) (v := v) (t := t) (kvs := kvs) h => by
    rcases hb.value k with ⟨e1, e2⟩ | ⟨n, u, e1, e2⟩
    · have : (((k, v) :: kvs).all fun p => getI lvs p.1 == some p.2) = false := by rw [List.all_cons]; simp [e2]
      rw [this]; exact .miss e1
    · have : (((k, v) :: kvs).all fun p => getI lvs p.1 == some p.2) = ((v == n) && (kvs.all fun p => getI lvs p.1 == some p.2)) := by
        rw [List.all_cons, e2]
        congr 1
        by_cases hh : v = n
        · simp [hh]
        · rw [beq_eq_false_iff_ne.mpr hh]; exact beq_eq_false_iff_ne.mpr (fun e => hh (Option.some.inj e).symm)
      rw [this]
      exact .hit e1 (SeqAt.EqAt.int_int v t n u) (hits_of hb h)

theorem eqAt_dict {A : Around} {s : Shared} {X : Addr → Prop} {v v' : Value} {kvs lvs : List (Int × Int)} (hu : A.units < cLine) (r : Rep (fz s.heap X) v (.dict kvs)) (r' : Rep (fz s.heap X) v' (.dict lvs)) : SeqAt.EqAt A s v v' (dictEq kvs lvs) := by
  have hk := r; have hk' := r'
  cases r with
  | dict h1 h2 h3 h4 =>
  cases r' with
  | dict g1 g2 g3 g4 =>
  rename_i a es n b es' n'
  by_cases e : a = b
  · subst e
    have e1 := h1.1.symm.trans g1.1
    injection e1 with e1
    have e2 : es = es' := by
      have := congrArg Obj.data e1
      simp only [dictOf] at this
      injection this with this _
      simpa using congrArg Array.toList this
    subst e2
    rw [EntsAre.uniq h2 g2] at *
    rw [dictEq_self g3]
    exact SeqAt.EqAt.same _
  · refine SeqAt.EqAt.of_refs e fun prog w E Q h => ?_
    obtain ⟨a', va, ep, e1, _, m1, d1, w1⟩ := hk.dictAt (G := ⟨prog, w, default, fun _ => none, fun _ => none⟩)
    obtain ⟨b', vb, ep', e2, _, m2, d2, w2⟩ := hk'.dictAt (G := ⟨prog, w, default, fun _ => none, fun _ => none⟩)
    cases e1; cases e2
    refine keq_eq m1 m2 d1.dictOf d2.dictOf hu (fun _ => hits_of w2 w1) ?_
    rw [w1.length, w2.length]
    exact h

section
variable {G : Wrld} {A : Around}
def statEq (a b c d : Int) (kvs : List (Int × Int)) (a' b' c' d' : Int) (lvs : List (Int × Int)) : Bool := (a == a') && ((b == b') && ((c == c') && ((d == d') && dictEq kvs lvs)))

theorem rep_stat {F : FM} {vs : List Value} {a b c d : Int} {kvs : List (Int × Int)} (r : RepAll F vs [.int a, .int b, .int c, .int d, .dict kvs]) : ∃ t1 t2 t3 t4 v, vs = [.int a t1, .int b t2, .int c t3, .int d t4, v] ∧ Rep F v (.dict kvs) := by
  cases r with | cons r1 r =>
  cases r with | cons r2 r =>
  cases r with | cons r3 r =>
  cases r with | cons r4 r =>
  cases r with | cons r5 r =>
  cases r
  cases r1; cases r2; cases r3; cases r4
  exact ⟨_, _, _, _, _, rfl, r5⟩

theorem stat_elts {s : Shared} {X : Addr → Prop} {vs vs' : List Value} {a b c d a' b' c' d' : Int} {kvs lvs : List (Int × Int)} (hu : A.units < cLine) (r : RepAll (fz s.heap X) vs [.int a, .int b, .int c, .int d, .dict kvs]) (r' : RepAll (fz s.heap X) vs' [.int a', .int b', .int c', .int d', .dict lvs]) :
    ∃ e : Nat → Bool, (∀ j (h1 : j < vs.toArray.size) (h2 : j < vs'.toArray.size), SeqAt.EqAt A s vs.toArray[j] vs'.toArray[j] (e j)) ∧ ((List.range (min vs.toArray.size vs'.toArray.size)).all e && vs.toArray.size == vs'.toArray.size) = statEq a b c d kvs a' b' c' d' lvs := by
  obtain ⟨t1, t2, t3, t4, v, rfl, rv⟩ := rep_stat r
  obtain ⟨u1, u2, u3, u4, v', rfl, rv'⟩ := rep_stat r'
  refine ⟨fun j => match j with | 0 => a == a' | 1 => b == b' | 2 => c == c' | 3 => d == d' | _ => dictEq kvs lvs, fun j h1 h2 => ?_, ?_⟩
  · have hj : j < 5 := h1
    rcases j with _ | _ | _ | _ | _ | j
    · exact SeqAt.EqAt.int_int _ _ _ _
    · exact SeqAt.EqAt.int_int _ _ _ _
    · exact SeqAt.EqAt.int_int _ _ _ _
    · exact SeqAt.EqAt.int_int _ _ _ _
    · exact eqAt_dict hu rv rv'
    · omega
  · show ((List.range 5).all _ && (5 == 5)) = _
    simp [List.range_succ, statEq, Bool.and_assoc]

theorem cmp_eq_stat {a b c d a' b' c' d' : Int} {kvs lvs : List (Int × Int)} (hu : A.units + 64 < cLine) : CmpIs G A .Eq (statD a b c d kvs) (statD a' b' c' d' lvs) (statEq a b c d kvs a' b' c' d' lvs) := by
  intro s X E Q v v' r₁ r₂ h
  obtain ⟨l, vs, n, rfl, hl, _, ra⟩ := r₁.isTup
  obtain ⟨l', vs', n', rfl, hl', _, ra'⟩ := r₂.isTup
  obtain ⟨e, he, ee⟩ := stat_elts (A := A.in1) (by show A.units + 1 < cLine; omega) ra ra'
  have hh := SeqAt.RcAt.tuples (A := A) (s := s) ⟨_, hl, rfl, _, rfl⟩ ⟨_, hl', rfl, _, rfl⟩ (by omega) he
  rw [ee] at hh
  exact hh _ _ _ _ (h s (Keeps.rfl' s))
theorem cmp_ne_stat {a b c d a' b' c' d' : Int} {kvs lvs : List (Int × Int)} (hu : A.units + 64 < cLine) : CmpIs G A .NotEq (statD a b c d kvs) (statD a' b' c' d' lvs) (!statEq a b c d kvs a' b' c' d' lvs) := by
  intro s X E Q v v' r₁ r₂ h
  obtain ⟨l, vs, n, rfl, hl, _, ra⟩ := r₁.isTup
  obtain ⟨l', vs', n', rfl, hl', _, ra'⟩ := r₂.isTup
  obtain ⟨e, he, ee⟩ := stat_elts (A := A.in1) (by show A.units + 1 < cLine; omega) ra ra'
  have hh := SeqAt.RcNeAt.tuples (A := A) (s := s) ⟨_, hl, rfl, _, rfl⟩ ⟨_, hl', rfl, _, rfl⟩ (by omega) he
  rw [ee] at hh
  exact hh _ _ _ _ (h s (Keeps.rfl' s))

theorem cmp_ne_ints {ns ms : List Int} (hu : A.units + 64 < cLine) : CmpIs G A .NotEq (.list (ns.map .int)) (.list (ms.map .int)) (!decide (ns = ms)) := by
  intro s X E Q v v' r₁ r₂ h
  obtain ⟨l, vs, n, rfl, hl, _, ra⟩ := r₁.isList
  obtain ⟨l', vs', n', rfl, hl', _, ra'⟩ := r₂.isList
  exact ke_ne_ints ⟨_, hl, rfl, _, rfl⟩ ⟨_, hl', rfl, _, rfl⟩ ra.ints ra'.ints hu (h s (Keeps.rfl' s))

/-- is it the empty list? -/
theorem cmp_eq_nil {xs : List Dt} (hu : A.units + 64 < cLine) : CmpIs G A .Eq (.list xs) (.list []) xs.isEmpty := by
  intro s X E Q v v' r₁ r₂ h
  obtain ⟨l, vs, n, rfl, hl, _, ra⟩ := r₁.isList
  obtain ⟨l', vs', n', rfl, hl', _, ra'⟩ := r₂.isList
  cases ra'
  cases ra with
  | nil => exact SeqAt.RcAt.lists (A := A) (s := s) (e := fun _ => true) ⟨_, hl, rfl, _, rfl⟩ ⟨_, hl', rfl, _, rfl⟩ rfl (by omega) (fun j h1 _ => absurd h1 (Nat.not_lt_zero _)) _ _ _ _ (h s (Keeps.rfl' s))
  | cons _ _ => exact SeqAt.RcAt.lists_lengths (A := A) (s := s) ⟨_, hl, rfl, _, rfl⟩ ⟨_, hl', rfl, _, rfl⟩ (by simp) (by omega) _ _ _ _ (h s (Keeps.rfl' s))

/-! lists of pairs of ints -/
def prD (p : Int × Int) : Dt := .tup [.int p.1, .int p.2]
def prP (p : Int × Int) : PyData := .tuple [.int p.1, .int p.2]
theorem reads_pr {h : Heap} {X : Addr → Prop} {v : Value} {p : Int × Int} (r : Rep (fz h X) v (prD p)) : Reads h v (prP p) [] := by
  cases r with
  | tup h1 r =>
  cases r with | cons r1 r =>
  cases r with | cons r2 r =>
  cases r; cases r1; cases r2
  exact .tuple h1.1 rfl rfl (.cons (.int _ _) (.cons (.int _ _) .nil))
theorem reads_prs {h : Heap} {X : Addr → Prop} : ∀ {vs : List Value} {ps : List (Int × Int)}, RepAll (fz h X) vs (ps.map prD) → ReadsAll h vs (ps.map prP) []
  | _, [], .nil => .nil
  | _, p :: ps, .cons r rr => .cons (reads_pr r) (reads_prs rr)
theorem eqv_prs : ∀ ps qs : List (Int × Int), PyData.eqvAll (ps.map prP) (qs.map prP) = decide (ps = qs)
  | [], [] => rfl
  | [], _ :: _ => rfl
  | _ :: _, [] => rfl
  | (a, b) :: ps, (c, d) :: qs => by
    show (((a == c) && ((b == d) && true)) && PyData.eqvAll (ps.map prP) (qs.map prP)) = _
    rw [eqv_prs ps qs]
    by_cases h1 : a = c <;> by_cases h2 : b = d <;> by_cases h3 : ps = qs <;> simp [h1, h2, h3]
theorem shaped_prs (ps : List (Int × Int)) : SeqAt.shaped (.list (ps.map prP)) = true := by
  have h1 : PyData.canLayAll0 (ps.map prP) = true := by
    induction ps with
    | nil => rfl
    | cons p r ih => show (true && _) = true; rw [ih]; rfl
  have h2 : PyData.depthAll (ps.map prP) ≤ 1 := by
    clear h1
    induction ps with
    | nil => exact Nat.zero_le _
    | cons p r ih => have : max 1 (PyData.depthAll (r.map prP)) ≤ 1 := Nat.max_le.mpr ⟨Nat.le_refl _, ih⟩; exact this
  unfold SeqAt.shaped
  have h3 : (PyData.list (ps.map prP)).canLay0 = PyData.canLayAll0 (ps.map prP) := rfl
  rw [h3, h1]
  simp only [Bool.true_and, decide_eq_true_eq]
  show PyData.depthAll (ps.map prP) + 1 ≤ 64
  omega
theorem cmp_eq_prs {ps qs : List (Int × Int)} (hu : A.units + 64 < cLine) : CmpIs G A .Eq (.list (ps.map prD)) (.list (qs.map prD)) (decide (ps = qs)) := by
  intro s X E Q v v' r₁ r₂ h
  obtain ⟨l, vs, n, rfl, hl, _, ra⟩ := r₁.isList
  obtain ⟨l', vs', n', rfl, hl', _, ra'⟩ := r₂.isList
  refine SeqAt.compareEq_shaped (da := .list (ps.map prP)) (db := .list (qs.map prP)) (.list hl rfl rfl (reads_prs ra)) (.list hl' rfl rfl (reads_prs ra')) (shaped_prs _) (shaped_prs _) hu ?_
  show Q (.bool (PyData.eqvAll (ps.map prP) (qs.map prP))) s
  rw [eqv_prs]
  exact h s (Keeps.rfl' s)
end
end Mine

/-! ### MySort -/
namespace Mine

/-! ## the sort's questions, answered -/
def askRun {α : Type} (lt : Nat → Nat → Bool) : KasT α → α
  | .ret a => a
  | .ask i j k => askRun lt (k (lt i j))
/-- every question and every place lies below n -/
def askBelow (n : Nat) : KasT (Array Nat) → Bool
  | .ret p => p.toList.all (· < n)
  | .ask i j k => decide (i < n) && decide (j < n) && askBelow n (k true) && askBelow n (k false)

theorem askBelow_run {n : Nat} {lt : Nat → Nat → Bool} : ∀ (t : KasT (Array Nat)), askBelow n t = true → ∀ i ∈ (askRun lt t).toList, i < n
  | .ret p, h => fun i hi => of_decide_eq_true (List.all_eq_true.mp h i hi)
  | .ask i j k, h => by
    have h' : (((decide (i < n) && decide (j < n)) && askBelow n (k true)) && askBelow n (k false)) = true := h
    simp only [Bool.and_eq_true] at h'
    show ∀ x ∈ (askRun lt (k (lt i j))).toList, x < n
    cases e : lt i j with
    | true => exact askBelow_run (k true) h'.1.2
    | false => exact askBelow_run (k false) h'.2

theorem askPure {n : Nat} {lt : Nat → Nat → Bool} {cmp : Nat → Nat → (Bool → Shared → Prop) → Shared → Prop} {Q : Array Nat → Shared → Prop} {s : Shared} (hc : ∀ i j C, i < n → j < n → C (lt i j) s → cmp i j C s) :
    ∀ (t : KasT (Array Nat)), askBelow n t = true → Q (askRun lt t) s → t.kasWp cmp Q s
  | .ret p, _, h => h
  | .ask i j k, hb, h => by
    have h' : (((decide (i < n) && decide (j < n)) && askBelow n (k true)) && askBelow n (k false)) = true := hb
    simp only [Bool.and_eq_true, decide_eq_true_eq] at h'
    show cmp i j (fun b s' => (k b).kasWp cmp Q s') s
    refine hc i j _ h'.1.1.1 h'.1.1.2 ?_
    have h₂ : Q (askRun lt (k (lt i j))) s := h
    cases e : lt i j with
    | true => rw [e] at h₂; exact askPure hc (k true) h'.1.2 h₂
    | false => rw [e] at h₂; exact askPure hc (k false) h'.2 h₂

/-- the places in sorted order -/
def sortIdx (lt : Nat → Nat → Bool) (n : Nat) : List Nat := if n < 2 then List.range n else (askRun lt (kas_sort n)).toList
def sortOut {α : Type} (z : α) (lt : Nat → Nat → Bool) (vs : List α) : List α := (sortIdx lt vs.length).map fun i => vs.getD i z

theorem range_getD {α : Type} (z : α) (vs : List α) : (List.range vs.length).map (fun i => vs.getD i z) = vs := by
  apply List.ext_getElem
  · simp
  · intro i h1 h2
    simp at h1
    simp [h1]

section
variable {G : Wrld} {A : Around} {E : Value → Shared → Prop} {s : Shared}

theorem lsort_raw {a : Addr} {vs : List Value} {n : Nat} {κ : SortKind} {lt : Nat → Nat → Bool} {P : PySem.Fin → Shared → Prop} (ho : s.heap.get? a = some (seqObj "list" vs.toArray n)) (h64 : vs.length < 64)
    (hkind : 2 ≤ vs.length → ∀ (s' : Shared) (C : SortKind → Shared → Prop), (∀ b o, b ≠ a → s.heap.get? b = some o → s'.heap.get? b = some o) → C κ s' → wpAny G.M A (keyKind' vs.toArray) C (fun _ _ => False) s')
    (hask : ∀ (s' : Shared) (i j : Nat) (C : Bool → Shared → Prop), (∀ b o, b ≠ a → s.heap.get? b = some o → s'.heap.get? b = some o) → i < vs.length → j < vs.length → C (lt i j) s' → kas_ask G.prog G.w A κ vs i j C s')
    (hbel : 2 ≤ vs.length → askBelow vs.length (kas_sort vs.length) = true)
    (h : ∀ h' c, (∀ b o, b ≠ a → s.heap.get? b = some o → h'.get? b = some o) → h'.get? a = some (seqObj "list" (List.toArray (sortOut Value.none lt vs)) c) → P (.done (.ret .none)) { s with heap := h' }) :
    wpAny G.M A (Builtin.«list.sort» ⟨[.ref a], []⟩) P E s := by
  have ha : a < s.heap.objs.size := Heap.lt_size ho
  have s1 := Heap.SameBut.update s.heap a (Obj.mapSeq fun _ => (#[] : Array Value))
  obtain ⟨e1, ho1⟩ : ∃ e1, (s.heap.update a (Obj.mapSeq fun _ => (#[] : Array Value))).get? a = some (seqObj "list" #[] e1) := ⟨_, get?_update_seq ho fun _ => #[]⟩
  rw [list_sort_plain]
  refine wpAny_bind (listItems_at ho rfl ?_)
  refine wpAny_bind (listUpdate_at ho rfl ?_ (by rw [List.size_toArray, sizeLine_eq]; omega) (Nat.zero_le _))
  refine wpAny_bind (seqEpoch_at ho1 rfl ?_)
  refine wpAny_bind (wpAny_newTuple ?_ (by show vs.length ≤ _; rw [sizeLine_eq]; omega))
  refine wpAny_bind (wpAny_newList ?_ (Nat.zero_le _))
  refine wpAny_holding ?_
  generalize hH : ((s.heap.update a (Obj.mapSeq fun _ => (#[] : Array Value))).push { cls := .type "tuple", data := .seq vs.toArray.toList.toArray }).push { cls := .type "list", data := .seq ([] : List Value).toArray } = H
  have hk : ∀ b o, b ≠ a → s.heap.get? b = some o → H.get? b = some o := fun b o hb e => by
    rw [← hH]; exact Heap.get?_push_of_some _ (Heap.get?_push_of_some _ (s1.extBut b o hb e))
  have hoa : H.get? a = some (seqObj "list" #[] e1) := by rw [← hH]; exact Heap.get?_push_of_some _ (Heap.get?_push_of_some _ ho1)
  have fin : ∀ (st' : SortSt), (arrOf st').map (·.2) = List.toArray (sortOut Value.none lt vs) → failedOf st' = none → (sortOut Value.none lt vs).length = vs.length →
      wpAny G.M A (do
        let sorted := (arrOf st').map (·.2)
        let touched := (← seqEpoch a) != e1
        Builtin.List.listUpdate (.ref a) fun _ => sorted
        if let some e := failedOf st' then rule "list.sort.comparison-raised"; throw e
        if touched then rule "list.sort.modified"; raiseError "ValueError" "list modified during sort"
        ret .none) P E { s with heap := H } := by
    intro st' hout hf hsz
    have s2 := Heap.SameBut.update H a (Obj.mapSeq fun _ => List.toArray (sortOut Value.none lt vs))
    obtain ⟨c2, hc2⟩ : ∃ c2, (H.update a (Obj.mapSeq fun _ => List.toArray (sortOut Value.none lt vs))).get? a = some (seqObj "list" (List.toArray (sortOut Value.none lt vs)) c2) := ⟨_, get?_update_seq hoa fun _ => List.toArray (sortOut Value.none lt vs)⟩
    rw [hout]
    refine wpAny_bind (seqEpoch_at hoa rfl ?_)
    refine wpAny_bind (listUpdate_at hoa rfl ?_ (Nat.zero_le _) (by rw [List.size_toArray, hsz, sizeLine_eq]; omega))
    rw [hf]
    simp only [bne_self_eq_false, Bool.false_eq_true, if_false]
    exact wpAny_pure (h _ c2 (fun b o hb e => s2.extBut b o hb (hk b o hb e)) hc2)
  by_cases h2 : vs.toArray.size < 2
  · have h2' : vs.length < 2 := by rwa [List.size_toArray] at h2
    have eo : sortOut Value.none lt vs = vs := by unfold sortOut sortIdx; rw [if_pos h2']; exact range_getD _ _
    rw [if_pos h2, if_pos h2]
    refine wpAny_bind (wpAny_pure (wpAny_bind ?_))
    rw [StateT.run_pure]
    refine wpAny_pure ?_
    refine fin _ ?_ rfl (by rw [eo])
    rw [eo]
    show (vs.toArray.zip vs.toArray).map (·.2) = _
    apply Array.toList_inj.mp
    simp
    exact List.map_snd_zip (Nat.le_refl _)
  · have h2' : 2 ≤ vs.length := by rw [List.size_toArray] at h2; omega
    rw [if_neg h2, if_neg h2]
    refine wpAny_bind (wpAny_mono (hkind h2' _ (fun κ' s' => κ' = κ ∧ s' = { s with heap := H }) hk ⟨rfl, rfl⟩) ?_ fun _ _ x => x.elim)
    rintro _ _ ⟨rfl, rfl⟩
    have eo : sortOut Value.none lt vs = (askRun lt (kas_sort vs.length)).toList.map fun i => vs.getD i Value.none := by unfold sortOut sortIdx; rw [if_neg (by omega)]
    refine wpAny_bind (wpAny_mono (kat_run (E := E) (Q := fun st' s' => ∃ p : Array Nat, p.size = vs.length ∧ arrOf st' = p.map (kas_item (vs.toArray.zip vs.toArray)) ∧ failedOf st' = none ∧ p = askRun lt (kas_sort vs.length) ∧ s' = { s with heap := H })
      rfl h2' h64 (fun p' st' s' a1 a2 a3 a4 => ⟨p', a1, a2, a3, a4⟩) (askPure (n := vs.length) (lt := lt) (Q := fun p s' => p = askRun lt (kas_sort vs.length) ∧ s' = { s with heap := H }) (fun i j C hi hj hC => hask _ i j C hk hi hj hC) _ (hbel h2') ⟨rfl, rfl⟩)) ?_ fun _ _ e => e)
    rintro ⟨⟨⟩, st'⟩ s' ⟨p, hp, har, hf, hpe, rfl⟩
    have hout := kat_snds rfl har
    refine fin st' ?_ hf ?_
    · rw [hout, eo, hpe]
    · rw [eo, List.length_map, ← hpe, Array.length_toList, hp]

theorem sorted_raw {l : Addr} {vs : List Value} {κ : SortKind} {lt : Nat → Nat → Bool} {Q : Value → Shared → Prop} (hl : s.heap.IsList l vs.toArray) (h64 : vs.length < 64)
    (hkind : 2 ≤ vs.length → ∀ (s' : Shared) (C : SortKind → Shared → Prop), HLe s.heap s'.heap → C κ s' → wpAny G.M A.in1.in1 (keyKind' vs.toArray) C (fun _ _ => False) s')
    (hask : ∀ (s' : Shared) (i j : Nat) (C : Bool → Shared → Prop), HLe s.heap s'.heap → i < vs.length → j < vs.length → C (lt i j) s' → kas_ask G.prog G.w A.in1.in1 κ vs i j C s')
    (hbel : 2 ≤ vs.length → askBelow vs.length (kas_sort vs.length) = true)
    (h : ∀ D h' c, s.heap.objs.size ≤ D → HLe s.heap h' → h'.get? D = some (seqObj "list" (List.toArray (sortOut Value.none lt vs)) c) → Q (.ref D) { s with heap := h' }) :
    wpAny G.M A (call (.builtin "sorted") [.ref l]) Q E s := by
  refine Calls.call_function_entry kind_sorted plain_sorted entry_sorted (args_sorted1 _) ?_
  unfold Builtin.«sorted»
  refine wpAny_bind (m := checkCount "sorted" 1 1 _) (wpAny_pure ?_)
  refine wpAny_bind (collect_list hl ?_ (by rw [sizeLine_eq]; omega))
  refine wpAny_bind (wpAny_newList ?_ (by rw [sizeLine_eq]; omega))
  generalize hH1 : (s.heap.push (seqObj "list" #[] 0)).update s.heap.objs.size (Obj.mapSeq (· ++ vs.toArray)) = H1
  have hsz : H1.objs.size = s.heap.objs.size + 1 := by rw [← hH1, Heap.size_update, size_push']
  have keep1 : HLe s.heap H1 := fun b o q => by
    have hlt : b < s.heap.objs.size := Heap.lt_size q
    rw [← hH1, Heap.get?_update_ne _ _ _ _ (Nat.ne_of_lt hlt), Heap.get?_push_ne _ _ _ (Nat.ne_of_lt hlt)]
    exact q
  have hoL : (H1.push (seqObj "list" vs.toArray 0)).get? H1.objs.size = some (seqObj "list" vs.toArray 0) := Heap.get?_push_size _ rfl
  have keep : HLe s.heap (H1.push (seqObj "list" vs.toArray 0)) := HLe.trans keep1 (HLe.push _ _)
  have hne : ∀ b o, s.heap.get? b = some o → b ≠ H1.objs.size := fun b o e => Nat.ne_of_lt (by rw [hsz]; exact Nat.lt_succ_of_lt (Heap.lt_size e))
  have kk : ∀ s' : Shared, (∀ b o, b ≠ H1.objs.size → (H1.push (seqObj "list" vs.toArray 0)).get? b = some o → s'.heap.get? b = some o) → HLe s.heap s'.heap := fun s' hh b o e => hh b o (hne b o e) (keep b o e)
  show wpAny _ _ _ _ _ { s with heap := H1.push (seqObj "list" vs.toArray 0) }
  refine wpAny_bind (wpAny_holding (wpAny_call_entry slot_list_sort ⟨_, hoL, rfl⟩ entry_list_sort ?body (args_list_sort _)))
  case body =>
    refine lsort_raw (s := { s with heap := H1.push (seqObj "list" vs.toArray 0) }) (κ := κ) (lt := lt) hoL h64 (fun h2 s' C hh hc => hkind h2 s' C (kk s' hh) hc) (fun s' i j C hh hi hj hc => hask s' i j C (kk s' hh) hi hj hc) hbel fun h' c hh hg => ?_
    exact ⟨_, rfl, wpAny_pure ⟨_, rfl, h _ h' c (by rw [hsz]; exact Nat.le_succ _) (kk { s with heap := h' } hh) hg⟩⟩
end
end Mine

/-! ### MyLt -/
open AutoSeq1 (wpAny_loadPart')
open MeetsSeq MeetsSeq2 MeetsSeq3 SeqRoads2
namespace Mine

def lexLt : List Int → List Int → Bool
  | x :: xs, y :: ys => if x = y then lexLt xs ys else decide (x < y)
  | [], [] => false
  | [], _ :: _ => true
  | _ :: _, [] => false

theorem ints_at {vs : List Value} {ns : List Int} (h : IntsAre vs ns) {i : Nat} (hi : i < vs.length) : ∃ n t, vs[i]? = some (.int n t) ∧ ns.drop i = n :: ns.drop (i + 1) := by
  induction h generalizing i with
  | nil => simp at hi
  | cons n t r ih =>
    cases i with
    | zero => exact ⟨n, t, rfl, rfl⟩
    | succ i => obtain ⟨m, u, a, b⟩ := ih (by simpa using hi); exact ⟨m, u, by simpa using a, by simpa using b⟩
theorem ints_end {vs : List Value} {ns : List Int} (h : IntsAre vs ns) {i : Nat} (hi : vs.length ≤ i) : ns.drop i = [] := by
  have : ns.length = vs.length := h.length.symm
  exact List.drop_eq_nil_of_le (by omega)

theorem lt_loop (l b : Addr) (vs us : List Value) (n n2 : Nat) (ns ms : List Int) (hv : IntsAre vs ns) (hu : IntsAre us ms) (hsz : vs.length = us.length) (k : Nat) :
    ∀ i : Nat, vs.length - i = k → Meets (Builtin.«list.__eq__.loop» ⟨[.ref l, .ref b, rawInt i, rawInt 0], []⟩)
      (fun A R s => s.heap.get? l = some (lstObj vs n) ∧ s.heap.get? b = some (lstObj us n2) ∧ R (.ok (.ret (.bool (lexLt (ns.drop i) (ms.drop i))))) s) := by
  induction k with
  | zero =>
    intro i hk prog w A R s h
    obtain ⟨hp, g, d, tk, os⟩ := s; obtain ⟨hl, hb, h⟩ := h
    wp_walk using wpAny_loadPart' hl, wpAny_loadPart' hb
    have hi1 : vs.toArray[((i : Nat) : Int).toNat]? = none := by simp; omega
    have hi2 : us.toArray[((i : Nat) : Int).toNat]? = none := by simp; omega
    rw [ints_end hv (by omega), ints_end hu (by omega)] at h
    rw [hi1, hi2]
    wp_walk using wpAny_loadPart' hl, wpAny_loadPart' hb
    show R (.ok (.ret (.bool (decide (vs.toArray.size < us.toArray.size))))) _
    rw [List.size_toArray, List.size_toArray, hsz]
    simpa [lexLt] using h
  | succ k ih =>
    intro i hk prog w A R s h
    obtain ⟨hp, g, d, tk, os⟩ := s; obtain ⟨hl, hb, h⟩ := h
    wp_walk using wpAny_loadPart' hl, wpAny_loadPart' hb
    obtain ⟨x, t, hx, ex⟩ := ints_at hv (i := i) (by omega)
    obtain ⟨y, u, hy, ey⟩ := ints_at hu (i := i) (by omega)
    have hi1 : vs.toArray[((i : Nat) : Int).toNat]? = some (.int x t) := by simpa using hx
    have hi2 : us.toArray[((i : Nat) : Int).toNat]? = some (.int y u) := by simpa using hy
    have hc : ((i : Int) + 1) = ((i + 1 : Nat) : Int) := by push_cast; rfl
    rw [ex, ey, lexLt] at h
    rw [hi1, hi2]
    refine wpAny_bind (SeqAt.EqAt.int_int x t y u prog w _ _ ?_)
    by_cases e : x = y
    · rw [if_pos e] at h
      have e' : (x == y) = true := by simp [e]
      rw [e']
      wp_walk
      rw [hc]
      exact ⟨plainId_quiet plain_eq_loop _, codeAny_builtin entry_eq_loop (by
        rw [Around.under_plainId plain_eq_loop _]
        exact ih (i + 1) (by omega) prog w A R _ ⟨hl, hb, h⟩)⟩
    · rw [if_neg e] at h
      have e' : (x == y) = false := by simp [e]
      rw [e']
      wp_walk using wpAny_loadPart' hl, wpAny_loadPart' hb
      rw [hi1, hi2]
      show wpAny _ _ (compareOp .Lt (.int x t) (.int y u) >>= _) _ _ _
      refine wpAny_bind (wpAny_lt_int ?_)
      wp_walk
      simpa using h

theorem list_ltAt (l b : Addr) (vs us : List Value) (n n2 : Nat) (ns ms : List Int) (hv : IntsAre vs ns) (hu : IntsAre us ms) (hsz : vs.length = us.length) :
    Meets (Builtin.«list.__lt__» ⟨[.ref l, .ref b], []⟩)
      (fun A R s => s.heap.get? l = some (lstObj vs n) ∧ s.heap.get? b = some (lstObj us n2) ∧ R (.ok (.ret (.bool (lexLt ns ms)))) s) := by
  intro prog w A R s h
  obtain ⟨hp, g, d, tk, os⟩ := s; obtain ⟨hl, hb, h⟩ := h
  have f3 := AutoSeq1.sub_list_list
  wp_walk using wpAny_loadPart' hl, wpAny_loadPart' hb
  exact ⟨plainId_quiet plain_eq_loop _, codeAny_builtin entry_eq_loop (by
    rw [Around.under_plainId plain_eq_loop _]
    exact lt_loop l b vs us n n2 ns ms hv hu hsz _ 0 rfl prog w A R _ ⟨hl, hb, by simpa using h⟩)⟩
end Mine

/-! ### MySort2 -/
namespace Mine

theorem below2 : askBelow 2 (kas_sort 2) = true := by decide +kernel
theorem below3 : askBelow 3 (kas_sort 3) = true := by decide +kernel
theorem below5 : askBelow 5 (kas_sort 5) = true := by decide +kernel

theorem sortIdx_below {lt : Nat → Nat → Bool} {n : Nat} (h : 2 ≤ n → askBelow n (kas_sort n) = true) : ∀ i ∈ sortIdx lt n, i < n := by
  intro i hi
  unfold sortIdx at hi
  split at hi
  · exact List.mem_range.mp hi
  · exact askBelow_run _ (h (by omega)) i hi

theorem RepAll.pick {F : FM} {vs : List Value} {ds : List Dt} (r : RepAll F vs ds) (z : Dt) : ∀ {is : List Nat}, (∀ i ∈ is, i < vs.length) → RepAll F (is.map fun i => vs.getD i Value.none) (is.map fun i => ds.getD i z)
  | [], _ => .nil
  | i :: is, h => by
    have hi : i < vs.length := h i (List.mem_cons_self)
    obtain ⟨d, hd, rd⟩ := r.getV (List.getElem?_eq_getElem hi)
    refine .cons ?_ (RepAll.pick r z fun j hj => h j (List.mem_cons_of_mem _ hj))
    have e1 : vs.getD i Value.none = vs[i] := by simp [hi]
    have e2 : ds.getD i z = d := by simp [List.getD, hd]
    show Rep F (vs.getD i Value.none) (ds.getD i z)
    rw [e1, e2]; exact rd

section
variable {G : Wrld} {A : Around} {E : Value → Shared → Prop} {s : Shared}

/-- sorted of a list, by its questions -/
theorem call_sorted {ds : List Dt} {κ : SortKind} (lt : Nat → Nat → Bool) (z : Dt) (h64 : ds.length < 64) (hbel : 2 ≤ ds.length → askBelow ds.length (kas_sort ds.length) = true)
    (hkind : 2 ≤ ds.length → ∀ (X : Addr → Prop) (vs : List Value) (s' : Shared) (C : SortKind → Shared → Prop), RepAll (fz s'.heap X) vs ds → C κ s' → wpAny G.M A.in1.in1 (keyKind' vs.toArray) C (fun _ _ => False) s')
    (hask : ∀ (X : Addr → Prop) (s' : Shared) (i j : Nat) (d d' : Dt) (v v' : Value) (C : Bool → Shared → Prop), ds[i]? = some d → ds[j]? = some d' → Rep (fz s'.heap X) v d → Rep (fz s'.heap X) v' d' → C (lt i j) s' → wpAny G.M A.in1.in1 (keyLt' κ v v') C (fun _ _ => False) s') :
    CallIs G A (.builtin "sorted") [.list ds] (.list (sortOut z lt ds)) := by
  intro s X E Q vs ok low r h
  cases r with
  | cons r r' =>
  cases r'
  obtain ⟨l, us, n, rfl, hl, _, ra⟩ := r.isList
  have hlen := ra.length
  refine sorted_raw (κ := κ) (lt := lt) ⟨_, hl, rfl, _, rfl⟩ (by omega) (fun h2 s' C hk hC => hkind (by omega) X us s' C (ra.up hk) hC) (fun s' i j C hk hi hj hC => ?_) (fun h2 => by rw [hlen]; exact hbel (by omega)) fun D h' c hD hk hg => ?_
  · obtain ⟨d, hd, rd⟩ := ra.getV (List.getElem?_eq_getElem hi)
    obtain ⟨d', hd', rd'⟩ := ra.getV (List.getElem?_eq_getElem hj)
    unfold kas_ask
    have e1 : us.getD i Value.none = us[i] := by simp [hi]
    have e2 : us.getD j Value.none = us[j] := by simp [hj]
    rw [e1, e2]
    exact hask X s' i j d d' _ _ C hd hd' (rd.up hk) (rd'.up hk) hC
  · refine h _ _ (Keeps.mk' hk) (.list (vs := sortOut Value.none lt us) (n := c) ⟨hg, low.size_of hD⟩ ?_)
    unfold sortOut
    rw [hlen]
    exact (ra.up hk).pick z fun i hi => by rw [hlen]; exact sortIdx_below hbel i hi

/-! pairs of ints -/
def prLt (p q : Int × Int) : Bool := if p.1 = q.1 then (if p.2 = q.2 then false else decide (p.2 < q.2)) else decide (p.1 < q.1)
theorem prD_vals {F : FM} {v : Value} {p : Int × Int} (r : Rep F v (prD p)) : ∃ a n t u, v = .ref a ∧ F a (tupObj [.int p.1 t, .int p.2 u] n) := by
  cases r with
  | tup h1 r =>
  cases r with | cons r1 r =>
  cases r with | cons r2 r =>
  cases r; cases r1; cases r2
  exact ⟨_, _, _, _, rfl, h1⟩
theorem katTups_prs {h : Heap} {X : Addr → Prop} : ∀ {vs : List Value} {ps : List (Int × Int)}, RepAll (fz h X) vs (ps.map prD) → ∃ fs, KatTups h vs fs ∧ fs.length = ps.length ∧ ∀ f ∈ fs, ∃ n t, f = .int n t
  | _, [], .nil => ⟨[], trivial, rfl, fun f hf => nomatch hf⟩
  | _, p :: ps, .cons r rr => by
    obtain ⟨fs, k, hl, hf⟩ := katTups_prs rr
    obtain ⟨a, n, t, u, rfl, hF⟩ := prD_vals r
    exact ⟨.int p.1 t :: fs, KatTups.cons hF.1 rfl rfl rfl k, by simp [hl], fun f hm => by
      rcases List.mem_cons.mp hm with rfl | hm
      · exact ⟨_, _, rfl⟩
      · exact hf f hm⟩

theorem ask_prs {X : Addr → Prop} {p q : Int × Int} {v v' : Value} {C : Bool → Shared → Prop} (r : Rep (fz s.heap X) v (prD p)) (r' : Rep (fz s.heap X) v' (prD q)) (h : C (prLt p q) s) : wpAny G.M A (keyLt' (tuples' true) v v') C E s := by
  obtain ⟨a, n, t, u, rfl, hF⟩ := prD_vals r
  obtain ⟨a', n', t', u', rfl, hF'⟩ := prD_vals r'
  refine kat_lt hF.1 rfl hF'.1 rfl (kat_cons ?_)
  refine SeqAt.EqAt.int_int p.1 t q.1 t' _ _ _ _ ?_
  unfold prLt at h
  by_cases e : p.1 = q.1
  · rw [if_pos e] at h
    have e' : (p.1 == q.1) = true := by simp [e]
    rw [e']
    refine kat_yes (kat_cons (SeqAt.EqAt.int_int p.2 u q.2 u' _ _ _ _ ?_))
    by_cases e2 : p.2 = q.2
    · rw [if_pos e2] at h
      have e2' : (p.2 == q.2) = true := by simp [e2]
      rw [e2']
      exact kat_yes (kat_nil h)
    · rw [if_neg e2] at h
      have e2' : (p.2 == q.2) = false := by simp [e2]
      rw [e2']
      refine kat_no ?_
      exact kat_one _ _ (wpAny_lt_int h)
  · rw [if_neg e] at h
    have e' : (p.1 == q.1) = false := by simp [e]
    rw [e']
    exact kat_no (oneLt_int h)

theorem call_sorted_prs {ps : List (Int × Int)} (h3 : ps.length ≤ 3) :
    CallIs G A (.builtin "sorted") [.list (ps.map prD)] (.list ((sortOut (0, 0) (fun i j => prLt (ps.getD i (0, 0)) (ps.getD j (0, 0))) ps).map prD)) := by
  have e : (sortOut (prD (0, 0)) (fun i j => prLt (ps.getD i (0, 0)) (ps.getD j (0, 0))) (ps.map prD)) = (sortOut (0, 0) (fun i j => prLt (ps.getD i (0, 0)) (ps.getD j (0, 0))) ps).map prD := by
    unfold sortOut
    rw [List.length_map, List.map_map]
    refine List.map_congr_left fun i _ => ?_
    show (ps.map prD).getD i (prD (0, 0)) = prD (ps.getD i (0, 0))
    rw [List.getD_eq_getElem?_getD, List.getD_eq_getElem?_getD, List.getElem?_map]
    cases ps[i]? <;> rfl
  rw [← e]
  refine call_sorted (κ := tuples' true) _ _ (by rw [List.length_map]; omega) (fun h2 => ?_) (fun h2 X vs s' C r hC => ?_) (fun X s' i j d d' v v' C hd hd' r r' hC => ?_)
  · rw [List.length_map] at h2 ⊢
    rcases (by omega : ps.length = 2 ∨ ps.length = 3) with e | e <;> rw [e]
    · exact below2
    · exact below3
  · rw [List.length_map] at h2
    obtain ⟨fs, k, hl, hf⟩ := katTups_prs r
    refine kat_kind (T := .type "int") k (by omega) (fun v hv => ?_) rfl hC
    obtain ⟨n, t, rfl⟩ := hf v hv
    exact Looks.of_pure rfl
  · rw [List.getElem?_map] at hd hd'
    cases e1 : ps[i]? with
    | none => rw [e1] at hd; cases hd
    | some p =>
      cases e2 : ps[j]? with
      | none => rw [e2] at hd'; cases hd'
      | some q =>
        rw [e1] at hd; rw [e2] at hd'
        cases hd; cases hd'
        have g1 : ps.getD i (0, 0) = p := by simp [List.getD, e1]
        have g2 : ps.getD j (0, 0) = q := by simp [List.getD, e2]
        rw [g1, g2] at hC
        exact ask_prs r r' hC

/-! lists of ints -/
def inD (ns : List Int) : Dt := .list (ns.map .int)
theorem looks_lists {h : Heap} {X : Addr → Prop} : ∀ {vs : List Value} {ls : List (List Int)}, RepAll (fz h X) vs (ls.map inD) → ∀ v ∈ vs, Looks G.M h (typeOf v) (.type "list")
  | _, [], .nil, v, hv => nomatch hv
  | _, p :: ps, .cons r rr, v, hv => by
    rcases List.mem_cons.mp hv with rfl | hv
    · cases r with
      | list h1 r => exact (Looks.ld h1.1).andThen .now
    · exact looks_lists rr v hv

theorem ask_lists {X : Addr → Prop} {ns ms : List Int} {v v' : Value} {C : Bool → Shared → Prop} (hu : A.units < cLine) (hl : ns.length = ms.length) (r : Rep (fz s.heap X) v (inD ns)) (r' : Rep (fz s.heap X) v' (inD ms)) (h : C (lexLt ns ms) s) : wpAny G.M A (keyLt' oneType' v v') C E s := by
  obtain ⟨a, vs, n, rfl, ha, _, ra⟩ := Rep.isList r
  obtain ⟨a', vs', n', rfl, ha', _, ra'⟩ := Rep.isList r'
  rw [keyLt'_oneType, oneLt'_eq]
  simp only [if_true]
  refine wpAny_bind (wpAny_cRoomFor hu ?_)
  have hT : s.TypeIs (.ref a) "list" := ⟨_, ha, rfl⟩
  have e1 := ra.length
  have e2 := ra'.length
  rw [List.length_map] at e1 e2
  refine wpAny_bind (wpAny_callSpecialIfBound?_slot hT PySem.F.slot_list_lt (call_meets PySem.F.slot_list_lt hT PySem.F.entry_list_lt (PySem.F.args_list_lt_2 _ _) (list_ltAt a a' vs vs' n n' ns ms ra.ints ra'.ints (by omega)) ⟨ha, ha', ?_⟩))
  exact wpAny_truthy_bool h

theorem call_sorted_lists {ls : List (List Int)} (h5 : ls.length = 5) (h3 : ∀ l ∈ ls, l.length = 3) (hu : A.units + 64 < cLine) :
    CallIs G A (.builtin "sorted") [.list (ls.map inD)] (.list ((sortOut [] (fun i j => lexLt (ls.getD i []) (ls.getD j [])) ls).map inD)) := by
  have e : (sortOut (inD []) (fun i j => lexLt (ls.getD i []) (ls.getD j [])) (ls.map inD)) = (sortOut [] (fun i j => lexLt (ls.getD i []) (ls.getD j [])) ls).map inD := by
    unfold sortOut
    rw [List.length_map, List.map_map]
    refine List.map_congr_left fun i _ => ?_
    show (ls.map inD).getD i (inD []) = inD (ls.getD i [])
    rw [List.getD_eq_getElem?_getD, List.getD_eq_getElem?_getD, List.getElem?_map]
    cases ls[i]? <;> rfl
  rw [← e]
  refine call_sorted (κ := oneType') _ _ (by rw [List.length_map]; omega) (fun h2 => ?_) (fun h2 X vs s' C r hC => ?_) (fun X s' i j d d' v v' C hd hd' r r' hC => ?_)
  · rw [List.length_map, h5]; exact below5
  · have hl := r.length
    exact kas_kind (T := .type "list") (by omega) (looks_lists r) rfl rfl hC
  · rw [List.getElem?_map] at hd hd'
    cases e1 : ls[i]? with
    | none => rw [e1] at hd; cases hd
    | some p =>
      cases e2 : ls[j]? with
      | none => rw [e2] at hd'; cases hd'
      | some q =>
        rw [e1] at hd; rw [e2] at hd'
        cases hd; cases hd'
        have g1 : ls.getD i [] = p := by simp [List.getD, e1]
        have g2 : ls.getD j [] = q := by simp [List.getD, e2]
        rw [g1, g2] at hC
        exact ask_lists (by show A.units + 1 + 1 < cLine; omega) ((h3 p (List.mem_of_getElem? e1)).trans (h3 q (List.mem_of_getElem? e2)).symm) r r' hC
end
end Mine

/-! ### MyComp5 -/
namespace Mine

/-! ## a target of two names -/
theorem binds_pair {G : Wrld} {A : Around} {scope : Scope} {env : Env} {C : Addr} {x y : Str} {px py pt : Pos} {k : Nat} {ps : List (Int × Int)} (hh : A.handled = none) (hk : scope.kind = .function) (hx : scope.names.lookup x = some .local) (hy : scope.names.lookup y = some .local) (hxy : x ≠ y) :
    BindsBy G A (cEnv scope C env) (.Tuple [.Name x px, .Name y py] k pt) [C] (fun h => ∃ m, h.Ns C m) (ps.map prD) (fun d => match d with | .tup [a, b] => [(x, a), (y, b)] | _ => []) where
  keep := fun h h' ⟨m, n⟩ k => ⟨m, n.at' fun o e => k C (by simp) o e⟩
  live := fun h ⟨m, n⟩ b hb => by
    rw [List.mem_singleton] at hb; subst hb
    obtain ⟨o, _, _, ho, _⟩ := n
    exact ⟨o, ho⟩
  bind := fun s X E Q v d hd hX r ⟨m, n⟩ h => by
    obtain ⟨p, _, rfl⟩ := List.mem_map.mp hd
    have hkx : (cEnv scope C env).kindOf x = some .local := lookup_relabel_local hx
    have hky : (cEnv scope C env).kindOf y = some .local := lookup_relabel_local hy
    have hp : ((cEnv scope C env).scope.kind == .class || ((cEnv scope C env).scope.kind == .module && (cEnv scope C env).locals != (cEnv scope C env).globals)) = false := by simp [compEnvC, relabel, hk]
    obtain ⟨t, n0, t1, t2, rfl, hF⟩ := prD_vals r
    refine assign_Tuple_tuple (items := #[.int p.1 t1, .int p.2 t2]) hh ⟨_, hF.1, rfl, _, rfl⟩ rfl rfl fun h₁ hx₁ => ?_
    have hle : HLe s.heap h₁ := fun b o e => hx₁ b o (Nat.ne_of_lt (Heap.lt_size e)) e
    refine assignInOrder_cons (wpAny_assign_Name (wpAny_storeName_local hkx (n.keeps hle) (fun h₂ hn₂ hs₂ => ?_) hp))
    refine assignInOrder_cons (wpAny_assign_Name (wpAny_storeName_local hky hn₂ (fun h₃ hn₃ hs₃ => ?_) hp))
    refine assignInOrder_nil (h h₃ _ (fun b o hb e => ?_) ⟨_, hn₃⟩ fun q hq => ?_)
    · have hbC : b ≠ C := fun e => hb (List.mem_singleton.mpr e)
      exact hs₃.extBut b o hbC (hs₂.extBut b o hbC (hle b o e))
    · have hq' : q = (x, .int p.1) ∨ q = (y, .int p.2) := by simpa [prD] using hq
      rcases hq' with rfl | rfl
      · exact ⟨.int p.1 t1, .inl ⟨hkx, _, hn₃, by simp [hxy]⟩, .int _ _⟩
      · exact ⟨.int p.2 t2, .inl ⟨hky, _, hn₃, by simp⟩, .int _ _⟩

/-! ## a block whose target is any, over its own names -/
section
variable {G : Wrld} {A : Around} {E : Value → Shared → Prop}
theorem comp_blockT {s₁ s₂ : Shared} {X : Addr → Prop} {elt iter target : Expr} {scope : Scope} {pos : Pos} {I : Addr} {fp : List Addr} {xs : List Dt} {P : Nat → Value → Prop} {St : Nat → Heap → Prop} {env : Env} {Γ : Ctx} {Γb : Dt → Ctx}
    {RR : Value → Addr → Result → Shared → Prop} (f : Dt → Dt)
    (inv : Inv G env Γ s₁.heap X) (k : Keeps s₁ s₂) (it : ItAt G A X s₁.heap I fp xs P St s₂.heap) (hc : cloOk scope.names env = true) (hcell : ∀ y ∈ scope.names, y.2 ≠ .cell) (hkind : scope.kind = .function) (hsz : xs.length ≤ 1000000)
    (B : ∀ C, BindsBy G A (cEnv scope C env) target [C] (fun h => ∃ m, h.Ns C m) xs Γb)
    (helt : ∀ C d, d ∈ xs → Ev G A (cEnv scope C env) (Γb d ++ seen scope Γ) elt (f d))
    (hRR : ∀ D C h' tk m' ys, s₁.heap.get? D = none → s₁.heap.get? C = none → ¬ X D → D ≠ C → HLe s₁.heap h' → h'.Ns C m' → h'.PlainList D ys.toArray → RepAll (fz h' (XO X I D [C])) ys (xs.map f) → RR (.ref D) C (.ok .next) { s₂ with heap := h', toks := tk }) :
    wpAny G.M A (newList []) (fun acc s₃ => wpAny G.M A (newFunctionEnv scope env.globals (cloOf env scope.names []) [] env.qual none .none (some env)) (fun cenv s₄ =>
      codeAny G.M A (.compStart (.ListComp elt [⟨target, iter, [], 0⟩] scope pos) 0 (.ref I) acc { cenv with scope := relabel scope env }) (RR acc cenv.locals) s₄) E s₃) E s₂ := by
  refine wpAny_newObj_type (wpAny_newFunctionEnv hcell (by intro y hy; simp at hy) (fun h₁ hns₁ hsb₁ => ?_) hkind)
  dsimp only at hns₁ hsb₁ ⊢
  generalize hH2 : s₂.heap.push { cls := .type "list", dict := none, data := .seq ([] : List Value).toArray } = H2 at hns₁ hsb₁ ⊢
  have hC : H2.objs.size = s₂.heap.objs.size + 1 := by rw [← hH2, Heap.size_push]
  have hDC : s₂.heap.objs.size ≠ H2.objs.size := by rw [hC]; exact Nat.ne_of_lt (Nat.lt_succ_self _)
  have below : ∀ b, b < s₂.heap.objs.size → b ≠ H2.objs.size := fun b hb => by rw [hC]; exact Nat.ne_of_lt (Nat.lt_succ_of_lt hb)
  have old : HLe s₂.heap h₁ := fun b o e => hsb₁.extBut b o (below b (Heap.lt_size e)) (Heap.get?_push_of_some _ (hH2 ▸ Heap.get?_push_of_some _ e))
  have hacc : h₁.PlainList s₂.heap.objs.size #[] := ⟨_, hsb₁.extBut _ _ hDC (Heap.get?_push_of_some _ (hH2 ▸ Heap.get?_push_size _ rfl))⟩
  have fresh : ∀ a, s₂.heap.objs.size ≤ a → s₁.heap.get? a = none := fun a ha => by
    cases e : s₁.heap.get? a with
    | none => rfl
    | some o' => exact absurd (Heap.lt_size (Keeps.hle k _ _ e)) (Nat.not_lt.mpr ha)
  obtain ⟨oI, hoI⟩ := it.live _ _ it.st
  have hIlt : I < s₂.heap.objs.size := Heap.lt_size hoI
  have it' : ItAt G A X s₁.heap I fp xs P St h₁ := ⟨it.w, it.w.frame _ _ _ it.st fun b _ o e => old b o e, it.fresh, it.mem, it.live, it.kind, it.old, it.rep⟩
  have loop : ∀ s₃ : Shared, s₃ = { s₂ with heap := h₁, toks := s₂.toks + ([] : List (Str × Value)).length } →
      codeAny G.M A (.compLoop (.ListComp elt [⟨target, iter, [], 0⟩] scope pos) 0 (.ref I) (.ref s₂.heap.objs.size) (cEnv scope H2.objs.size env)) (RR (.ref s₂.heap.objs.size) H2.objs.size) s₃ := by
    rintro s₃ rfl
    refine comp_loop (h0 := s₁.heap) (X := X) (O := [H2.objs.size]) (Γ := seen scope Γ) (fun _ => true) f it' (B _) inv.ok (cEnv_ok hkind inv.envok) inv.low (has_seen hc inv.has) (HLe.trans (Keeps.hle k) old) hacc
      (fresh _ (Nat.le_refl _)) (fun b hb => by rw [List.mem_singleton] at hb; subst hb; exact fresh _ (by omega)) (Nat.ne_of_gt hIlt) (by simpa using hDC) (by simpa using below I hIlt) ⟨_, hns₁⟩ hsz
      (fun d hd => evTs_nil) (fun d hd _ => helt _ d hd) fun h' tk ys hk' hpl hfr hrep => ?_
    obtain ⟨m', hn'⟩ := hfr
    rw [List.filter_eq_self.mpr (fun _ _ => rfl)] at hrep
    exact hRR _ _ h' tk m' ys (fresh _ (Nat.le_refl _)) (fresh _ (by omega)) ((inv.low.mono (Keeps.hle k)).size) hDC hk' hn' hpl hrep
  exact codeAny_compStart_list (loop _ rfl) (it'.w.self 0 _ _ _ it'.st (loop _ rfl))
end

section
variable {G : Wrld} {A : Around} {env : Env} {Γ : Ctx}
/-- [elt for x, y in iter], the items pairs of ints -/
theorem ev_mapPair {elt iter : Expr} {x y : Str} {px py pt : Pos} {kk : Nat} {scope : Scope} {pos : Pos} {ps : List (Int × Int)} (f : Int → Int → Dt) (hh : A.handled = none) (hb : blockOk scope x = true) (hy : scope.names.lookup y = some .local) (hxy : x ≠ y) (hc : cloOk scope.names env = true)
    (hiter : Ev G A env Γ iter (.list (ps.map prD))) (hsz : ps.length ≤ 1000000)
    (helt : ∀ C p, p ∈ ps → Ev G A (cEnv scope C env) ((x, .int p.1) :: (y, .int p.2) :: seen scope Γ) elt (f p.1 p.2))
    (hs : ∀ v, foldedSetIterable iter env v = pure v := by intro _; rfl) : Ev G A env Γ (.ListComp elt [⟨.Tuple [.Name x px, .Name y py] kk pt, iter, [], 0⟩] scope pos) (.list (ps.map fun p => f p.1 p.2)) := by
  intro s X E Q inv h
  obtain ⟨hkind, hcell, hnames, hxl⟩ := blockOk_of hb
  rw [eval_ListComp]
  refine wpAny_comprehension_free (use := none) rfl hs (closureFor_eq hc) hkind hnames (hiter s X E _ inv fun v s₁ k₁ r₁ => iter_src (G := G) hh r₁ (rfl : Dt.items _ = some (ps.map prD)) trivial fun I fp P St s₂ k₂ it => ?_)
  refine comp_blockT (RR := fun acc C => compPost G.M A E none Q acc C) (fun d => match d with | .tup [.int a, .int b] => f a b | _ => .int 0) (inv.up (Keeps.hle k₁)) k₂ it hc hcell hkind (by rw [List.length_map]; exact hsz) (fun C => binds_pair hh hkind hxl hy hxy) (fun C d hd => ?_) ?_
  · obtain ⟨p, hp, rfl⟩ := List.mem_map.mp hd
    exact helt C p hp
  · intro D C h' tk m' ys hD hC hXD hDC hk' hn' hpl hrep
    refine ⟨m', hn', fun h'' hs'' => ?_⟩
    have hk'' : HLe s₁.heap h'' := fun b o e => hs''.extBut b o (fun hb => by subst hb; rw [hC] at e; cases e) (hk' b o e)
    obtain ⟨n, hpl⟩ := hpl
    have hK : Keeps s₁ { s₂ with heap := h'', toks := tk } := by
      obtain ⟨h₂, t₂, rfl, _⟩ := k₂
      exact ⟨h'', tk, rfl, hk''⟩
    rw [List.map_map] at hrep
    refine h _ _ (Keeps.trans' k₁ hK) (.list ⟨hs''.extBut _ _ hDC hpl, hXD⟩ (hrep.shift fun a o e hx' => ⟨hs''.extBut a o (fun hb => hx' (.inr (.inr (.inr (List.mem_singleton.mpr hb))))) e, fun hX => hx' (.inl hX)⟩))
end

/-! ## a target that is a cell of the block -/
abbrev cEnvK (scope : Scope) (x : Str) (c C : Addr) (env : Env) : Env := compEnvC scope ((x, c) :: cloOf env scope.names []) C env

/-- the one cell of the block is x, ahead of its other names -/
def cellOk (scope : Scope) (x : Str) : Bool :=
  scope.kind == .function && (scope.names.filter fun y => y.2 == .cell) == [(x, .cell)] && scope.names.lookup x == some .cell && (scope.names.all fun y => y.2 != .local || scope.names.lookup y.1 == some .local)

theorem relabel_cell {env : Env} : ∀ {names : List (Str × NameKind)} {x : Str}, names.lookup x = some .cell →
    (names.map fun (n, k) => if (k == NameKind.free && env.scope.kind == .function && env.kindOf n == some .cell) then (n, NameKind.cell) else (n, k)).lookup x = some .cell
  | [], _, h => by cases h
  | (n, k) :: r, x, h => by
    rw [List.lookup_cons] at h
    show List.lookup x ((if (k == NameKind.free && env.scope.kind == .function && env.kindOf n == some .cell) = true then (n, NameKind.cell) else (n, k)) :: _) = _
    cases hx : x == n with
    | true =>
      rw [hx] at h
      injection h with h
      subst h
      rw [if_neg (by simp), List.lookup_cons, hx]
    | false =>
      rw [hx] at h
      have ih := relabel_cell (env := env) (names := r) h
      by_cases hc : (k == NameKind.free && env.scope.kind == .function && env.kindOf n == some .cell) = true
      · rw [if_pos hc]; rw [List.lookup_cons, hx]; exact ih
      · rw [if_neg hc]; rw [List.lookup_cons, hx]; exact ih

theorem has_seenK {scope : Scope} {env : Env} {Γ : Ctx} {h : Heap} {X : Addr → Prop} {c C : Addr} {x : Str} (hx : scope.names.lookup x = some .cell) (hc : cloOk scope.names env = true) (has : Has env Γ h X) : Has (cEnvK scope x c C env) (seen scope Γ) h X := by
  intro q hq
  obtain ⟨hq, hf⟩ := List.mem_filter.mp hq
  have hf : scope.names.lookup q.1 = some .free := by simpa using hf
  obtain ⟨v, n, r⟩ := has q hq
  obtain ⟨hs, hk⟩ := cloOk_mem hc (lookup_mem hf)
  refine ⟨v, .inr ⟨relabel_free (env := env) hf, ?_⟩, r⟩
  rcases n with ⟨a, _⟩ | ⟨_, c', e, ce⟩
  · rcases hk with hk | hk <;> (rw [a] at hk; cases hk)
  · refine ⟨c', ?_, ce⟩
    show ((x, c) :: cloOf env scope.names []).lookup q.1 = some c'
    have hne : (q.1 == x) = false := by
      cases hb : q.1 == x with
      | false => rfl
      | true => rw [eq_of_beq hb, hx] at hf; cases hf
    rw [List.lookup_cons, hne]
    show (cloOf env scope.names []).lookup q.1 = some c'
    rw [cloOf_get env _ _ hf, e]; rfl

theorem binds_cell {G : Wrld} {A : Around} {scope : Scope} {env : Env} {c C : Addr} {x : Str} {px : Pos} {xs : List Dt} (hk : scope.kind = .function) (hx : scope.names.lookup x = some .cell) (hcC : c ≠ C) :
    BindsBy G A (cEnvK scope x c C env) (.Name x px) [C, c] (fun h => (∃ m, h.Ns C m) ∧ ∃ v, h.IsCell c v) xs (fun d => [(x, d)]) where
  keep := fun h h' ⟨⟨m, n⟩, v, e⟩ k => ⟨⟨m, n.at' fun o e => k C (by simp) o e⟩, v, let ⟨o, ho, hd⟩ := e; ⟨o, k c (by simp) o ho, hd⟩⟩
  live := fun h ⟨⟨m, n⟩, v, e⟩ b hb => by
    simp only [List.mem_cons, List.not_mem_nil, or_false] at hb
    rcases hb with rfl | rfl
    · obtain ⟨o, _, _, ho, _⟩ := n; exact ⟨o, ho⟩
    · obtain ⟨o, ho, _⟩ := e; exact ⟨o, ho⟩
  bind := fun s X E Q v d _ hX r ⟨⟨m, n⟩, v₀, e⟩ h => by
    have hkl : (cEnvK scope x c C env).kindOf x = some .cell := relabel_cell hx
    have hcl : (cEnvK scope x c C env).cells.lookup x = some c := by show ((x, c) :: _).lookup x = _; simp
    refine wpAny_assign_Name (wpAny_storeName_cell hk hkl hcl e fun h' hc' hs' => ?_)
    refine h h' s.toks (fun b o hb e => hs'.extBut b o (fun hh => hb (by simp [hh])) e) ⟨⟨m, n.sameBut hs' (Ne.symm hcC)⟩, _, hc'⟩ fun q hq => ?_
    rw [List.mem_singleton] at hq
    subst hq
    exact ⟨v, .inr ⟨.inl hkl, c, hcl, hc'⟩, r.shift fun a o e hx' => ⟨hs'.extBut a o (fun hh => hx' (by rw [hh]; exact hX c (by simp))) e, hx'⟩⟩

theorem cellsFrom_acc : ∀ (names : List (Str × NameKind)) (n : Nat) (acc : List (Str × Addr)) (x : Str), (names.filter fun y => y.2 == .cell) = [(x, .cell)] → cellsFrom n names acc = (x, n) :: acc
  | [], n, acc, x, h => by simp at h
  | (y, kd) :: r, n, acc, x, h => by
    unfold cellsFrom
    by_cases hk : (kd == NameKind.cell) = true
    · rw [if_pos hk]
      have hk2 : ((y, kd).2 == NameKind.cell) = true := hk
      rw [List.filter_cons_of_pos (p := fun y : Str × NameKind => y.2 == .cell) hk2] at h
      injection h with h1 h2
      have : ∀ (r : List (Str × NameKind)) (n : Nat) (acc : List (Str × Addr)), (r.filter fun y => y.2 == .cell) = [] → cellsFrom n r acc = acc := by
        intro r
        induction r with
        | nil => intro n acc _; rfl
        | cons z r ih =>
          intro n acc hz
          obtain ⟨z1, z2⟩ := z
          have hz2 : ¬ ((z1, z2).2 == NameKind.cell) = true := fun hh => by rw [List.filter_cons_of_pos (p := fun y : Str × NameKind => y.2 == .cell) hh] at hz; cases hz
          unfold cellsFrom
          rw [if_neg hz2]
          exact ih n acc (by rwa [List.filter_cons_of_neg (p := fun y : Str × NameKind => y.2 == .cell) hz2] at hz)
      rw [this r _ _ h2]
      cases h1; rfl
    · rw [if_neg hk]
      have hk2 : ¬ ((y, kd).2 == NameKind.cell) = true := hk
      exact cellsFrom_acc r n acc x (by rwa [List.filter_cons_of_neg (p := fun y : Str × NameKind => y.2 == .cell) hk2] at h)
theorem pushCells_one : ∀ (names : List (Str × NameKind)) (h : Heap) (x : Str), (names.filter fun y => y.2 == .cell) = [(x, .cell)] → pushCells h names = h.push { cls := .type "cell", data := .cell none }
  | [], h, x, e => by simp at e
  | (y, kd) :: r, h, x, e => by
    unfold pushCells
    by_cases hk : (kd == NameKind.cell) = true
    · rw [if_pos hk]
      have hk2 : ((y, kd).2 == NameKind.cell) = true := hk
      rw [List.filter_cons_of_pos (p := fun y : Str × NameKind => y.2 == .cell) hk2] at e
      injection e with h1 h2
      have : ∀ (r : List (Str × NameKind)) (h : Heap), (r.filter fun y => y.2 == .cell) = [] → pushCells h r = h := by
        intro r
        induction r with
        | nil => intro h _; rfl
        | cons z r ih =>
          intro h hz
          obtain ⟨z1, z2⟩ := z
          have hz2 : ¬ ((z1, z2).2 == NameKind.cell) = true := fun hh => by rw [List.filter_cons_of_pos (p := fun y : Str × NameKind => y.2 == .cell) hh] at hz; cases hz
          unfold pushCells
          rw [if_neg hz2]
          exact ih h (by rwa [List.filter_cons_of_neg (p := fun y : Str × NameKind => y.2 == .cell) hz2] at hz)
      exact this r _ h2
    · rw [if_neg hk]
      have hk2 : ¬ ((y, kd).2 == NameKind.cell) = true := hk
      exact pushCells_one r h x (by rwa [List.filter_cons_of_neg (p := fun y : Str × NameKind => y.2 == .cell) hk2] at e)

section
variable {M : Model} {A : Around} {E : Value → Shared → Prop} {s : Shared}
theorem newEnv_cell {scope : Scope} {cl : List (Str × Addr)} {env : Env} {x : Str} {Q : Env → Shared → Prop} (hx : (scope.names.filter fun y => y.2 == .cell) = [(x, .cell)])
    (h : Q { scope := scope, locals := s.heap.objs.size, globals := env.globals, cells := (x, s.heap.objs.size + 1) :: cl, qual := env.qual, func := none, code := env.code, frame := env.frame, builtins := env.builtins }
      { s with heap := (s.heap.push { cls := .type "dict", data := .dict #[] }).push { cls := .type "cell", data := .cell none } }) :
    wpAny M A (newFunctionEnv scope env.globals cl [] env.qual none .none (some env)) Q E s := by
  simp only [newFunctionEnv, Option.isSome_some, if_true]
  refine wpAny_bind (wpAny_alloc ?_)
  refine wpAny_bind (wpAny_layCells _ (fun name kind cells => by cases hkc : kind == NameKind.cell <;> simp) _ _ _ _ ?_)
  rw [cellsFrom_acc _ _ _ x hx, pushCells_one _ _ x hx]
  rw [show ({ s with heap := s.heap.push { cls := .type "dict", data := .dict #[] } } : Shared).heap.objs.size = s.heap.objs.size + 1 from Heap.size_push ..]
  exact wpAny_bind (by rw [List.forIn_nil]; exact wpAny_pure (wpAny_pure h))
end

section
variable {G : Wrld} {A : Around} {env : Env} {Γ : Ctx}
set_option maxHeartbeats 1000000 in
/-- [elt for x in iter], x a cell of the block -/
theorem ev_mapC {elt iter : Expr} {x : Str} {px : Pos} {scope : Scope} {pos : Pos} {d : Dt} {xs : List Dt} (f : Dt → Dt) (hh : A.handled = none) (hb : cellOk scope x = true) (hc : cloOk scope.names env = true)
    (hiter : Ev G A env Γ iter d) (hx : d.items = some xs) (ok : d.srcOk) (hsz : xs.length ≤ 1000000)
    (helt : ∀ c C d, d ∈ xs → Ev G A (cEnvK scope x c C env) ((x, d) :: seen scope Γ) elt (f d))
    (hs : ∀ v, foldedSetIterable iter env v = pure v := by intro _; rfl) : Ev G A env Γ (.ListComp elt [⟨.Name x px, iter, [], 0⟩] scope pos) (.list (xs.map f)) := by
  intro s X E Q inv h
  unfold cellOk at hb
  simp only [Bool.and_eq_true, List.all_eq_true, bne_iff_ne, ne_eq, Bool.or_eq_true, beq_iff_eq] at hb
  obtain ⟨⟨⟨hkind, hfil⟩, hxc⟩, hnm⟩ := hb
  have hnames : ∀ y ∈ scope.names, y.2 = .local → scope.names.lookup y.1 = some .local := fun y hy hl => (hnm y hy).resolve_left (fun hn => hn hl)
  rw [eval_ListComp]
  refine wpAny_comprehension_free (use := none) rfl hs (closureFor_eq hc) hkind hnames (hiter s X E _ inv fun v s₁ k₁ r₁ => iter_src (G := G) hh r₁ hx ok fun I fp P St s₂ k₂ it => ?_)
  have inv₁ := inv.up (Keeps.hle k₁)
  refine wpAny_newObj_type (newEnv_cell hfil ?_)
  dsimp only
  generalize hH2 : s₂.heap.push { cls := .type "list", dict := none, data := .seq ([] : List Value).toArray } = H2
  have hC : H2.objs.size = s₂.heap.objs.size + 1 := by rw [← hH2, Heap.size_push]
  generalize hH3 : (H2.push { cls := .type "dict", data := .dict #[] }).push { cls := .type "cell", data := .cell none } = H3
  have hDC : s₂.heap.objs.size ≠ H2.objs.size := by rw [hC]; exact Nat.ne_of_lt (Nat.lt_succ_self _)
  have old2 : HLe H2 H3 := fun b o e => hH3 ▸ Heap.get?_push_of_some _ (Heap.get?_push_of_some _ e)
  have old : HLe s₂.heap H3 := fun b o e => old2 _ _ (hH2 ▸ Heap.get?_push_of_some _ e)
  have hacc : H3.PlainList s₂.heap.objs.size #[] := ⟨_, old2 _ _ (hH2 ▸ Heap.get?_push_size _ rfl)⟩
  have hns : H3.Ns H2.objs.size (fun _ => none) := (Heap.Ns.new H2 (.type "dict")).keeps fun b o e => hH3 ▸ Heap.get?_push_of_some _ e
  have hcell : H3.IsCell (H2.objs.size + 1) none := by
    rw [← hH3]
    refine ⟨{ cls := .type "cell", data := .cell none }, ?_, rfl⟩
    have := Heap.get?_push_size (H2.push { cls := .type "dict", data := .dict #[] }) (o := { cls := .type "cell", data := .cell none }) rfl
    rwa [Heap.size_push] at this
  have fresh : ∀ a, s₂.heap.objs.size ≤ a → s₁.heap.get? a = none := fun a ha => by
    cases e : s₁.heap.get? a with
    | none => rfl
    | some o' => exact absurd (Heap.lt_size (Keeps.hle k₂ _ _ e)) (Nat.not_lt.mpr ha)
  obtain ⟨oI, hoI⟩ := it.live _ _ it.st
  have hIlt : I < s₂.heap.objs.size := Heap.lt_size hoI
  have it' : ItAt G A X s₁.heap I fp xs P St H3 := ⟨it.w, it.w.frame _ _ _ it.st fun b _ o e => old b o e, it.fresh, it.mem, it.live, it.kind, it.old, it.rep⟩
  have hcC : H2.objs.size + 1 ≠ H2.objs.size := Nat.ne_of_gt (Nat.lt_succ_self _)
  have loop : ∀ s₃ : Shared, s₃ = { s₂ with heap := H3 } →
      codeAny G.M A (.compLoop (.ListComp elt [⟨.Name x px, iter, [], 0⟩] scope pos) 0 (.ref I) (.ref s₂.heap.objs.size) (cEnvK scope x (H2.objs.size + 1) H2.objs.size env)) (compPost G.M A E none Q (.ref s₂.heap.objs.size) H2.objs.size) s₃ := by
    rintro s₃ rfl
    refine comp_loop (h0 := s₁.heap) (X := X) (O := [H2.objs.size, H2.objs.size + 1]) (Γ := seen scope Γ) (Γb := fun d => [(x, d)]) (fun _ => true) f it' (binds_cell hkind hxc hcC) inv₁.ok ⟨hkind, inv₁.envok.g, inv₁.envok.b⟩ inv₁.low (has_seenK hxc hc inv₁.has) (HLe.trans (Keeps.hle k₂) old) hacc
      (fresh _ (Nat.le_refl _)) (fun b hb => ?_) (Nat.ne_of_gt hIlt) ?_ ?_ ⟨⟨_, hns⟩, _, hcell⟩ hsz
      (fun d hd => evTs_nil) (fun d hd _ => helt _ _ d hd) fun h' tk ys hk' hpl hfr hrep => ?_
    · simp only [List.mem_cons, List.not_mem_nil, or_false] at hb
      rcases hb with rfl | rfl
      · exact fresh _ (by rw [hC]; exact Nat.le_succ _)
      · exact fresh _ (by rw [hC]; exact Nat.le_trans (Nat.le_succ _) (Nat.le_succ _))
    · simp only [List.mem_cons, List.not_mem_nil, or_false, not_or]
      exact ⟨hDC, by rw [hC]; exact Nat.ne_of_lt (Nat.lt_trans (Nat.lt_succ_self _) (Nat.lt_succ_self _))⟩
    · simp only [List.mem_cons, List.not_mem_nil, or_false, not_or]
      exact ⟨by rw [hC]; exact Nat.ne_of_lt (Nat.lt_succ_of_lt hIlt), by rw [hC]; exact Nat.ne_of_lt (Nat.lt_succ_of_lt (Nat.lt_succ_of_lt hIlt))⟩
    · obtain ⟨⟨m', hn'⟩, _⟩ := hfr
      rw [List.filter_eq_self.mpr (fun _ _ => rfl)] at hrep
      refine ⟨m', hn', fun h'' hs'' => ?_⟩
      have hCn : s₁.heap.get? H2.objs.size = none := fresh _ (by rw [hC]; exact Nat.le_succ _)
      have hk'' : HLe s₁.heap h'' := fun b o e => hs''.extBut b o (fun hb => by rw [hb, hCn] at e; cases e) (hk' b o e)
      obtain ⟨n, hpl⟩ := hpl
      have hK : Keeps s₁ { s₂ with heap := h'', toks := tk } := by
        obtain ⟨h₂, t₂, rfl, _⟩ := k₂
        exact ⟨h'', tk, rfl, hk''⟩
      have hXD : ¬ X s₂.heap.objs.size := (inv₁.low.mono (Keeps.hle k₂)).size
      refine h _ _ (Keeps.trans' k₁ hK) (.list ⟨hs''.extBut _ _ hDC hpl, hXD⟩ (hrep.shift fun a o e hx' => ⟨hs''.extBut a o (fun hb => hx' (.inr (.inr (.inr (by simp [hb]))))) e, fun hX => hx' (.inl hX)⟩))
  exact codeAny_compStart_list (loop _ rfl) (it'.w.self 0 _ _ _ it'.st (loop _ rfl))
end
end Mine

/-! ### MyLaw1 -/
namespace Mine

/-! ## the law's own body: what it computes, and the first names -/
def lawS : Stmt := nthS tops 8
def lawB : List Stmt := bodyOf lawS

/-- the law's frame -/
def lenv (L : Addr) (qual : Str) (fn : Option Addr) (code : Value) : Env := newEnv (scopeOf lawS) L mainGlobals (cellsFrom (L + 1) (scopeOf lawS).names []) qual fn code none builtinsNs

/-- the names of the top that the law reaches -/
structure LawG (G : Wrld) (C f fI fS fC fX fM : Addr) : Prop where
  sum : GlobIs G (S' "sum") (.builtin "sum")
  range : GlobIs G (S' "range") (.type "range")
  max : GlobIs G (S' "max") (.builtin "max")
  min : GlobIs G (S' "min") (.builtin "min")
  len : GlobIs G (S' "len") (.builtin "len")
  str : GlobIs G (S' "str") (.type "str")
  sorted : GlobIs G (S' "sorted") (.builtin "sorted")
  isi : GlobIs G (S' "isinstance") (.builtin "isinstance")
  tup : GlobIs G (S' "tuple") (.type "tuple")
  crc : GlobIs G (S' "_gen_crc") (.ref fX)
  crcD : DefAt G fX crcS [S' "crc"]
  crcK : keepIn G.K (.ref fX) = true
  mrk : GlobIs G (S' "_law_mark") (.ref fM)
  mrkD : DefAt G fM mrkS [S' "word"]
  mrkK : keepIn G.K (.ref fM) = true
  sts : GlobIs G (S' "add_func_stats") (.ref fS)
  stsD : DefAt G fS stsS [S' "target", S' "source"]
  stsK : keepIn G.K (.ref fS) = true
  cll : GlobIs G (S' "add_callers") (.ref fC)
  cllD : DefAt G fC cllS [S' "target", S' "source"]
  cllK : keepIn G.K (.ref fC) = true
  cls : GlobIs G (S' "TupleComp") (.ref C)
  clsOk : ClsOk G C f fI
  cmpD : DefAt G f cmpS [S' "self", S' "left", S' "right"]
  iniD : DefAt G fI iniS [S' "self", S' "comp_select_list"]

def drawnN (ns : List Int) (k : Nat) : Int := (sliceInts ns (k : Int) 5).sum + 2 ^ k
def drawnL (ns : List Int) : List Int := (List.range 5).map (drawnN ns)
def priceN (d : Int) : Int × Int := (d.fmod 3, (let m := if d.fdiv 8 < 10 ^ 30 then d.fdiv 8 else 10 ^ 30; if m > -10 ^ 30 then m else -10 ^ 30))
def firstN (t : Int) : Int := 1 - 2 * t.fmod 2
def secondN (t : Int) : Int := 1 - 2 * (t.fdiv 2).fmod 2
def keysL (t : Int) : List (Int × Int) := if (t.fdiv 4).fmod 2 = 0 then [(1, firstN t), (2, secondN t)] else [(2, secondN t), (1, firstN t)]

def intsD (ns : List Int) : Dt := .list (ns.map .int)
def prsD (ps : List (Int × Int)) : Dt := .list (ps.map prD)

def ctxA (C : Addr) (ns : List Int) : Ctx :=
  [(S' "comp", .comp C (keysD (keysL ns.sum))), (S' "keys", keysD (keysL ns.sum)), (S' "second", .int (secondN ns.sum)), (S' "first", .int (firstN ns.sum)), (S' "prices", prsD ((drawnL ns).map priceN)), (S' "drawn", intsD (drawnL ns)), (S' "total", .int ns.sum), (S' "script", .numl ns)]

section
variable {G : Wrld} {A : Around} {L : Addr} {qual : Str} {fn : Option Addr} {code : Value} {s₀ s : Shared} {c : Heap} {X O : Addr → Prop} {E : Value → Shared → Prop} {C f fI fS fC fX fM : Addr} {n : Nat}

theorem nopl {x y : Int} (h : y.natAbs < 1073741824) : Builtin.divisionGoesByPylong x y = false := PyProof.noPylong_small h

set_option maxHeartbeats 4000000 in
theorem seg_a {ns : List Int} {Q : Flow → Shared → Prop} (R : Room A (n + 20)) (T : LawG G C f fI fS fC fX fM) (hn : ns.length ≤ 63) (S : FS G (lenv L qual fn code) [(S' "script", .numl ns)] [] s₀ c X O s)
    (h : ∀ s', FS G (lenv L qual fn code) (ctxA C ns) [] s₀ c X O s' → wpAny G.M A (execs (lawB.drop 7) (lenv L qual fn code)) Q E s') : wpAny G.M A (execs lawB (lenv L qual fn code)) Q E s := by
  have noΩ : ∀ x : Str, ∀ q ∈ ([] : List (Str × List Dt)), q.1 ≠ x := fun x q hq => nomatch hq
  refine wpAny_execs_cons (S.assign (d := .int ns.sum) (ev_call T.sum (.inl ⟨_, rfl⟩) rfl (evAll_cons (ev_name rfl) evAll_nil) (call_sum (n := n) (R.le (by omega)) rfl trivial)) rfl (noΩ _) rfl fun s₁ S₁ => ?_)
  have S₁ : FS G (lenv L qual fn code) [(S' "total", .int ns.sum), (S' "script", .numl ns)] [] s₀ c X O s₁ := S₁
  refine wpAny_execs_cons (S₁.assignComp (d := .range 0 5) (xs := rangeD 0 5) (fun _ => true) (fun d => match d with | .int k => .int (drawnN ns k.toNat) | _ => .int 0) R.handled rfl rfl rfl rfl ?_ rfl ⟨by decide, by decide⟩ (by decide) (fun C d hd => evTs_nil) (fun C d hd _ => ?_) fun s₂ S₂ => ?_)
  · exact ev_call T.range (.inr (.inl ⟨_, rfl⟩)) rfl (evAll_cons (ev_int 5 _ _) evAll_nil) (call_range1 5)
  · obtain ⟨i, hi⟩ := List.getElem?_of_mem hd
    obtain ⟨hi5, rfl⟩ := rangeD_get hi
    have e : drawnN ns (0 + (i : Int)).toNat = (sliceInts ns (0 + (i : Int)) 5).sum + 2 ^ (0 + (i : Int)).toNat := by
      unfold drawnN; simp
    show Ev G A _ _ _ (.int (drawnN ns (0 + (i : Int)).toNat))
    rw [e]
    refine ev_bin (bin_add _ _) (ev_call T.sum (.inl ⟨_, rfl⟩) rfl (evAll_cons (ev_slice (ns := ns) (a := 0 + (i : Int)) (c := 5) (ev_name rfl) (ev_name rfl) (ev_int 5 _ _) (by decide) (by omega)) evAll_nil) (call_sum (n := n) (R.le (by omega)) rfl trivial)) (ev_bin (bin_pow (by omega) (by omega) (by decide)) (ev_int 2 _ _) (ev_name rfl))
  · have ed : (((rangeD 0 5).filter fun _ => true).map fun d => match d with | .int k => Dt.int (drawnN ns k.toNat) | _ => .int 0) = (drawnL ns).map .int := by
      rw [List.filter_eq_self.mpr (fun _ _ => rfl)]
      rfl
    have S₂ : FS G (lenv L qual fn code) [(S' "drawn", intsD (drawnL ns)), (S' "total", .int ns.sum), (S' "script", .numl ns)] [] s₀ c X O s₂ := by
      rw [ed] at S₂; exact S₂
    refine wpAny_execs_cons (S₂.assign (d := prsD ((drawnL ns).map priceN)) ?_ rfl (noΩ _) rfl fun s₃ S₃ => ?_)
    · have ep : prsD ((drawnL ns).map priceN) = .list (((drawnL ns).map Dt.int).map fun d => match d with | .int k => prD (priceN k) | _ => .int 0) := by
        unfold prsD; rw [List.map_map, List.map_map]; rfl
      rw [ep]
      refine ev_map _ R.handled rfl rfl (ev_name (d := intsD (drawnL ns)) rfl) rfl trivial (by simp [drawnL]) fun C d hd => ?_
      obtain ⟨k, _, rfl⟩ := List.mem_map.mp hd
      refine ev_tup (evAll_cons (ev_bin (bin_mod (by decide)) (ev_name rfl) (ev_int 3 _ _)) (evAll_cons ?_ evAll_nil))
      refine ev_call T.max (.inl ⟨_, rfl⟩) rfl (evAll_cons (ev_neg (ev_bin (bin_pow (a := 10) (b := 30) (by decide) (by decide) (by decide)) (ev_int 10 _ _) (ev_int 30 _ _))) (evAll_cons (ev_call T.min (.inl ⟨_, rfl⟩) rfl (evAll_cons (ev_bin (bin_pow (a := 10) (b := 30) (by decide) (by decide) (by decide)) (ev_int 10 _ _) (ev_int 30 _ _)) (evAll_cons (ev_bin (bin_div (by decide) (nopl (by decide))) (ev_name rfl) (ev_int 8 _ _)) evAll_nil)) (call_min2 _ _ R.handled)) evAll_nil)) (call_max2 _ _ R.handled)
    · have S₃ : FS G (lenv L qual fn code) [(S' "prices", prsD ((drawnL ns).map priceN)), (S' "drawn", intsD (drawnL ns)), (S' "total", .int ns.sum), (S' "script", .numl ns)] [] s₀ c X O s₃ := S₃
      refine wpAny_execs_cons (S₃.assign (d := .int (firstN ns.sum)) (ev_bin (bin_sub _ _) (ev_int 1 _ _) (ev_bin (mul_small (by decide)) (ev_int 2 _ _) (ev_bin (bin_mod (by decide)) (ev_name rfl) (ev_int 2 _ _)))) rfl (noΩ _) rfl fun s₄ S₄ => ?_)
      have S₄ : FS G (lenv L qual fn code) [(S' "first", .int (firstN ns.sum)), (S' "prices", prsD ((drawnL ns).map priceN)), (S' "drawn", intsD (drawnL ns)), (S' "total", .int ns.sum), (S' "script", .numl ns)] [] s₀ c X O s₄ := S₄
      refine wpAny_execs_cons (S₄.assign (d := .int (secondN ns.sum)) (ev_bin (bin_sub _ _) (ev_int 1 _ _) (ev_bin (mul_small (by decide)) (ev_int 2 _ _) (ev_bin (bin_mod (by decide)) (ev_bin (bin_div (by decide) (nopl (by decide))) (ev_name rfl) (ev_int 2 _ _)) (ev_int 2 _ _)))) rfl (noΩ _) rfl fun s₅ S₅ => ?_)
      have S₅ : FS G (lenv L qual fn code) [(S' "second", .int (secondN ns.sum)), (S' "first", .int (firstN ns.sum)), (S' "prices", prsD ((drawnL ns).map priceN)), (S' "drawn", intsD (drawnL ns)), (S' "total", .int ns.sum), (S' "script", .numl ns)] [] s₀ c X O s₅ := S₅
      refine wpAny_execs_cons (S₅.assign (d := keysD (keysL ns.sum)) (ev_ifexp (evt_cmp (cmp_eq _ _) (ev_bin (bin_mod (by decide)) (ev_bin (bin_div (by decide) (nopl (by decide))) (ev_name rfl) (ev_int 4 _ _)) (ev_int 2 _ _)) (ev_int 0 _ _)) (fun hb => ?_) (fun hb => ?_)) rfl (noΩ _) rfl fun s₆ S₆ => ?_)
      · have e : keysL ns.sum = [(1, firstN ns.sum), (2, secondN ns.sum)] := by unfold keysL; rw [if_pos (eq_of_beq hb)]
        rw [e]
        exact ev_list (evAll_cons (ev_tup (evAll_cons (ev_int 1 _ _) (evAll_cons (ev_name rfl) evAll_nil))) (evAll_cons (ev_tup (evAll_cons (ev_int 2 _ _) (evAll_cons (ev_name rfl) evAll_nil))) evAll_nil))
      · have e : keysL ns.sum = [(2, secondN ns.sum), (1, firstN ns.sum)] := by unfold keysL; rw [if_neg (fun e => by rw [e] at hb; cases hb)]
        rw [e]
        exact ev_list (evAll_cons (ev_tup (evAll_cons (ev_int 2 _ _) (evAll_cons (ev_name rfl) evAll_nil))) (evAll_cons (ev_tup (evAll_cons (ev_int 1 _ _) (evAll_cons (ev_name rfl) evAll_nil))) evAll_nil))
      · have S₆ : FS G (lenv L qual fn code) [(S' "keys", keysD (keysL ns.sum)), (S' "second", .int (secondN ns.sum)), (S' "first", .int (firstN ns.sum)), (S' "prices", prsD ((drawnL ns).map priceN)), (S' "drawn", intsD (drawnL ns)), (S' "total", .int ns.sum), (S' "script", .numl ns)] [] s₀ c X O s₆ := S₆
        refine wpAny_execs_cons (S₆.assign (d := .comp C (keysD (keysL ns.sum))) (ev_call T.cls (.inr (.inr T.clsOk.keepC)) rfl (evAll_cons (ev_name rfl) evAll_nil) (make_call (n := n) (R.le (by omega)) T.iniD T.clsOk)) rfl (noΩ _) rfl fun s₇ S₇ => h s₇ S₇)
end
end Mine

/-! ### MyLaw2 -/
namespace Mine

/-! ## marks -/
def crcT : Nat → Int → Int
  | 0, a => a
  | i + 1, a => crcN 8 (crcT i a)
def markN (d : Int) : Int := (crcT 4 (d.fmod (2 ^ 32))).fmod 8
def ctxB (C : Addr) (ns : List Int) : Ctx := (S' "marks", intsD ((drawnL ns).map markN)) :: ctxA C ns

theorem mem_tail2 {α : Type} {a : α} {l : List α} : ∀ p ∈ l, p ∈ a :: l := fun p hp => List.mem_cons_of_mem _ hp

section
variable {G : Wrld} {A : Around} {L : Addr} {qual : Str} {fn : Option Addr} {code : Value} {s₀ s : Shared} {c : Heap} {X O : Addr → Prop} {E : Value → Shared → Prop} {C f fI fS fC fX fM : Addr} {n : Nat}

set_option maxHeartbeats 4000000 in
theorem seg_b {ns : List Int} {Q : Flow → Shared → Prop} (R : Room A (n + 20)) (T : LawG G C f fI fS fC fX fM) (S : FS G (lenv L qual fn code) (ctxA C ns) [] s₀ c X O s)
    (h : ∀ c' O' s', FS G (lenv L qual fn code) (ctxB C ns) [] s₀ c' X O' s' → wpAny G.M A (execs (lawB.drop 9) (lenv L qual fn code)) Q E s') : wpAny G.M A (execs (lawB.drop 7) (lenv L qual fn code)) Q E s := by
  refine wpAny_execs_cons (S.ownNil rfl rfl fun O₁ s₁ S₁ => ?_)
  have S₁ : FS G (lenv L qual fn code) (ctxA C ns) [(S' "marks", [])] s₀ c X O₁ s₁ := S₁
  refine wpAny_execs_cons ?_
  refine S₁.forName (d := intsD (drawnL ns)) (xs := (drawnL ns).map .int) R.handled (ev_name rfl) rfl trivial rfl (fun i => ctxA C ns) (fun i => [(S' "marks", (((drawnL ns).take i).map markN).map .int)]) (fun p hp => hp) (fun q hq => hq) (fun i q hq => ?_) (fun i d c' X' s₂ hd S₂ hX => ?_) (fun s₂ S₂ => ?_)
  · rw [List.mem_singleton] at hq; subst hq; show S' "marks" ≠ S' "number"; decide
  · rw [List.getElem?_map] at hd
    cases e : (drawnL ns)[i]? with
    | none => rw [e] at hd; cases hd
    | some a =>
      rw [e] at hd; cases hd
      have hΩ : ∀ x : Str, x ≠ S' "marks" → ∀ q ∈ [(S' "marks", (((drawnL ns).take i).map markN).map Dt.int)], q.1 ≠ x := fun x hx q hq => by
        rw [List.mem_singleton] at hq; subst hq; exact Ne.symm hx
      have S₂ : FS G (lenv L qual fn code) ((S' "number", .int a) :: ctxA C ns) [(S' "marks", (((drawnL ns).take i).map markN).map .int)] s₀ c' X' O₁ s₂ := S₂
      refine wpAny_execs_cons (S₂.assign (d := .int (a.fmod (2 ^ (32 : Int).toNat))) (ev_bin (bin_mod (by decide)) (ev_name rfl) (ev_bin (bin_pow (by decide) (by decide) (by decide)) (ev_int 2 _ _) (ev_int 32 _ _))) rfl (hΩ _ (by decide)) rfl fun s₃ S₃ => ?_)
      have S₃ : FS G (lenv L qual fn code) ((S' "crc", .int (crcT 0 (a.fmod (2 ^ 32)))) :: (S' "number", .int a) :: ctxA C ns) [(S' "marks", (((drawnL ns).take i).map markN).map .int)] s₀ c' X' O₁ s₃ := S₃
      refine wpAny_execs_cons ?_
      refine S₃.forName (d := .range 0 4) (xs := rangeD 0 4) R.handled ?_ rfl ⟨by decide, by decide⟩ rfl (fun j => (S' "crc", .int (crcT j (a.fmod (2 ^ 32)))) :: ctxA C ns) (fun j => [(S' "marks", (((drawnL ns).take i).map markN).map .int)]) (fun p hp => ?_) (fun q hq => hq) (fun j => hΩ _ (by decide)) (fun j d c'' X'' s₄ hd S₄ hX' => ?_) (fun s₄ S₄ => ?_)
      · exact ev_call T.range (.inr (.inl ⟨_, rfl⟩)) rfl (evAll_cons (ev_int 4 _ _) evAll_nil) (call_range1 4)
      · rcases List.mem_cons.mp hp with rfl | hp
        · exact List.mem_cons_self
        · exact List.mem_cons_of_mem _ (List.mem_cons_of_mem _ hp)
      · have S₄ : FS G (lenv L qual fn code) ((S' "k", d) :: (S' "crc", .int (crcT j (a.fmod (2 ^ 32)))) :: ctxA C ns) [(S' "marks", (((drawnL ns).take i).map markN).map .int)] s₀ c'' X'' O₁ s₄ := S₄
        refine wpAny_execs_cons (S₄.assign (d := .int (crcN 8 (crcT j (a.fmod (2 ^ 32))))) (ev_call T.crc (.inr (.inr T.crcK)) rfl (evAll_cons (ev_name rfl) evAll_nil) (crc_call (n := n) (R.le (by omega)) T.crcD T.range)) rfl (hΩ _ (by decide)) rfl fun s₅ S₅ => wpAny_execs_nil ?_)
        have S₅ : FS G (lenv L qual fn code) ((S' "crc", .int (crcT (j + 1) (a.fmod (2 ^ 32)))) :: (S' "k", d) :: ctxA C ns) [(S' "marks", (((drawnL ns).take i).map markN).map .int)] s₀ c'' X'' O₁ s₅ := S₅
        refine S₅.sub (fun p hp => ?_) fun q hq => hq
        rcases List.mem_cons.mp hp with rfl | hp
        · exact List.mem_cons_self
        · exact List.mem_cons_of_mem _ (List.mem_cons_of_mem _ hp)
      · have S₄ : FS G (lenv L qual fn code) ((S' "crc", .int (crcT 4 (a.fmod (2 ^ 32)))) :: ctxA C ns) [(S' "marks", (((drawnL ns).take i).map markN).map .int)] s₀ c' X' O₁ s₄ := S₄
        refine wpAny_execs_cons (S₄.append (d := .int (markN a)) (ev_bin (bin_mod (by decide)) (ev_name rfl) (ev_int 8 _ _)) (by simp [drawnL]; omega) fun s₅ S₅ => wpAny_execs_nil ?_)
        have et : (((drawnL ns).take (i + 1)).map markN).map Dt.int = (((drawnL ns).take i).map markN).map Dt.int ++ [.int (markN a)] := by
          rw [List.take_add_one, e]; simp
        rw [et]
        exact S₅.sub (fun p hp => List.mem_cons_of_mem _ hp) fun q hq => hq
  · rw [List.length_map, List.take_length] at S₂
    obtain ⟨O₂, S₃⟩ := S₂.freeze
    exact h _ O₂ s₂ S₃
end
end Mine

/-! ### MyLaw3 -/
namespace Mine

/-! ## entries and the row -/
abbrev prI (ps : List (Int × Int)) (k : Nat) : Int × Int := ps.getD k (0, 0)
abbrev mkI (ms : List Int) (k : Nat) : Int := ms.getD k 0
def entD (ps : List (Int × Int)) (ms : List Int) (k : Nat) : Dt := statD 1 (prI ps k).1 (prI ps k).2 (2 ^ k) [(mkI ms k, 1)]
def entL (ps : List (Int × Int)) (ms : List Int) : List Dt := (List.range 5).map (entD ps ms)
def natsD (l : List Nat) : Dt := .list (l.map fun (k : Nat) => Dt.int (k : Int))

def ctxG (C : Addr) (ks ps : List (Int × Int)) (ds ms : List Int) : Ctx :=
  [(S' "marks", intsD ms), (S' "comp", .comp C (keysD ks)), (S' "keys", keysD ks), (S' "prices", prsD ps), (S' "drawn", intsD ds)]
def ctxC (C : Addr) (ks ps : List (Int × Int)) (ds ms : List Int) : Ctx := (S' "entries", .list (entL ps ms)) :: ctxG C ks ps ds ms

theorem prs_get {ps : List (Int × Int)} {k : Nat} (h : k < ps.length) : (ps.map prD)[k]? = some (prD (prI ps k)) := by
  rw [List.getElem?_map, List.getElem?_eq_getElem h]
  simp [prI, h]
theorem ints_get {ms : List Int} {k : Nat} (h : k < ms.length) : (ms.map Dt.int)[k]? = some (.int (mkI ms k)) := by
  rw [List.getElem?_map, List.getElem?_eq_getElem h]
  simp [mkI, h]

/-- what compare sees of a price -/
def colI (p : Int × Int) (i : Int) : Int := if i = 1 then p.1 else p.2
def cmpE (ks ps : List (Int × Int)) (i j : Nat) : Int := cmpOf ks (colI (prI ps i)) (colI (prI ps j))
def ltE (ks ps : List (Int × Int)) (i j : Nat) : Bool := decide (cmpE ks ps i j < 0)

def rowAt (lt : Nat → Nat → Bool) (row : List Nat) (k : Nat) : Nat → Nat
  | 0 => 0
  | a + 1 => if lt k (row.getD a 0) = true then rowAt lt row k a else a + 1
def rowIns (lt : Nat → Nat → Bool) (row : List Nat) (k : Nat) : List Nat := row.take (rowAt lt row k row.length) ++ [k] ++ row.drop (rowAt lt row k row.length)
def rowN (lt : Nat → Nat → Bool) : Nat → List Nat
  | 0 => []
  | k + 1 => rowIns lt (rowN lt k) k
theorem rowAt_le (lt : Nat → Nat → Bool) (row : List Nat) (k : Nat) : ∀ a, rowAt lt row k a ≤ a
  | 0 => Nat.le_refl _
  | a + 1 => by
    unfold rowAt
    split
    · exact Nat.le_succ_of_le (rowAt_le lt row k a)
    · exact Nat.le_refl _
theorem rowN_length (lt : Nat → Nat → Bool) : ∀ k, (rowN lt k).length = k
  | 0 => rfl
  | k + 1 => by
    have h1 := rowN_length lt k
    have h2 := rowAt_le lt (rowN lt k) k (rowN lt k).length
    simp only [rowN, rowIns, List.length_append, List.length_take, List.length_drop, List.length_singleton]
    omega
theorem rowN_lt (lt : Nat → Nat → Bool) : ∀ k, ∀ i ∈ rowN lt k, i < k
  | 0 => fun i hi => nomatch hi
  | k + 1 => fun i hi => by
    have ih := rowN_lt lt k
    simp only [rowN, rowIns, List.mem_append, List.mem_singleton] at hi
    rcases hi with (hi | rfl) | hi
    · exact Nat.lt_succ_of_lt (ih i (List.mem_of_mem_take hi))
    · exact Nat.lt_succ_self _
    · exact Nat.lt_succ_of_lt (ih i (List.mem_of_mem_drop hi))

section
variable {G : Wrld} {A : Around} {env : Env} {Γ : Ctx} {L : Addr} {qual : Str} {fn : Option Addr} {code : Value} {s₀ s : Shared} {c : Heap} {X O : Addr → Prop} {E : Value → Shared → Prop} {C f fI fS fC fX fM : Addr} {n : Nat}

theorem ev_range5 {env : Env} {Γ : Ctx} {p q : Pos} {kk : Nat} {r : Pos} (T : LawG G C f fI fS fC fX fM) (hk : env.kindOf (S' "range") = some .globalImplicit) : Ev G A env Γ (.Call (.Name (S' "range") p) [.Constant (.int 5) kk r] [] q) (.range 0 5) :=
  ev_call T.range (.inr (.inl ⟨_, rfl⟩)) hk (evAll_cons (ev_int 5 _ _) evAll_nil) (call_range1 5)

set_option maxHeartbeats 4000000 in
theorem seg_c {ks ps : List (Int × Int)} {ds ms : List Int} {Q : Flow → Shared → Prop} (R : Room A (n + 20)) (T : LawG G C f fI fS fC fX fM) (hps : ps.length = 5) (hms : ms.length = 5) (S : FS G (lenv L qual fn code) (ctxG C ks ps ds ms) [] s₀ c X O s)
    (h : ∀ s', FS G (lenv L qual fn code) (ctxC C ks ps ds ms) [] s₀ c X O s' → wpAny G.M A (execs (lawB.drop 10) (lenv L qual fn code)) Q E s') : wpAny G.M A (execs (lawB.drop 9) (lenv L qual fn code)) Q E s := by
  refine wpAny_execs_cons (S.assign (d := .list (entL ps ms)) ?_ rfl (fun q hq => nomatch hq) rfl fun s₁ S₁ => h s₁ S₁)
  have ee : Dt.list (entL ps ms) = .list ((rangeD 0 5).map fun d => match d with | .int k => entD ps ms k.toNat | _ => .int 0) := rfl
  rw [ee]
  refine ev_map _ R.handled rfl rfl (ev_range5 T rfl) rfl ⟨by decide, by decide⟩ (by decide) fun C' d hd => ?_
  obtain ⟨i, hi⟩ := List.getElem?_of_mem hd
  obtain ⟨hi5, rfl⟩ := rangeD_get hi
  have hi0 : (0 + (i : Int)).toNat = i := by omega
  show Ev G A _ _ _ (statD 1 (prI ps (0 + (i : Int)).toNat).1 (prI ps (0 + (i : Int)).toNat).2 (2 ^ (0 + (i : Int)).toNat) [(mkI ms (0 + (i : Int)).toNat, 1)])
  have hp : (ps.map prD)[(0 + (i : Int)).toNat]? = some (prD (prI ps (0 + (i : Int)).toNat)) := prs_get (by omega)
  have hm : (ms.map Dt.int)[(0 + (i : Int)).toNat]? = some (.int (mkI ms (0 + (i : Int)).toNat)) := ints_get (by omega)
  refine ev_tup (evAll_cons (ev_int 1 _ _) (evAll_cons ?_ (evAll_cons ?_ (evAll_cons (ev_bin (bin_pow (by omega) (by omega) (by decide)) (ev_int 2 _ _) (ev_name rfl)) (evAll_cons ?_ evAll_nil)))))
  · exact ev_titem (ev_item (xs := ps.map prD) (ev_name rfl) (ev_name rfl) (by omega) hp (by omega)) (ev_int 0 _ _) (by decide) rfl (by decide)
  · exact ev_titem (ev_item (xs := ps.map prD) (ev_name rfl) (ev_name rfl) (by omega) hp (by omega)) (ev_int 1 _ _) (by decide) rfl (by decide)
  · exact ev_dict1 (ev_item (xs := ms.map Dt.int) (ev_name rfl) (ev_name rfl) (by omega) hm (by omega)) (ev_int 1 _ _)
end
end Mine

/-! ### MyLaw4 -/
namespace Mine

def rowL (ks ps : List (Int × Int)) : List Nat := rowN (ltE ks ps) 5
def ctxD (C : Addr) (ks ps : List (Int × Int)) (ds ms : List Int) : Ctx := (S' "row", natsD (rowL ks ps)) :: ctxC C ks ps ds ms

theorem entL_get {ps : List (Int × Int)} {ms : List Int} {k : Nat} (h : k < 5) : (entL ps ms)[k]? = some (entD ps ms k) := by
  unfold entL
  rw [List.getElem?_map, List.getElem?_range h]; rfl
theorem nats_get {l : List Nat} {a : Nat} (h : a < l.length) : (l.map fun (k : Nat) => Dt.int (k : Int))[a]? = some (.int ((l.getD a 0 : Nat) : Int)) := by
  rw [List.getElem?_map, List.getElem?_eq_getElem h]
  simp [h]
theorem getD_mem {l : List Nat} {a : Nat} (h : a < l.length) : l.getD a 0 ∈ l := by
  have : l.getD a 0 = l[a] := by simp [h]
  rw [this]; exact List.getElem_mem h
theorem rowAt_stop {lt : Nat → Nat → Bool} {row : List Nat} {k a : Nat} (h : (decide (0 < a) && lt k (row.getD (a - 1) 0)) = false) : rowAt lt row k a = a := by
  cases a with
  | zero => rfl
  | succ a =>
    have : lt k (row.getD a 0) = false := by simpa using h
    unfold rowAt; rw [if_neg (by rw [this]; decide)]
theorem rowAt_go {lt : Nat → Nat → Bool} {row : List Nat} {k a : Nat} (h : (decide (0 < a) && lt k (row.getD (a - 1) 0)) = true) : 0 < a ∧ rowAt lt row k a = rowAt lt row k (a - 1) := by
  cases a with
  | zero => simp at h
  | succ a =>
    have : lt k (row.getD a 0) = true := by simpa using h
    refine ⟨Nat.succ_pos _, ?_⟩
    show (if lt k (row.getD a 0) = true then rowAt lt row k a else a + 1) = _
    rw [if_pos this]; rfl

section
variable {G : Wrld} {A : Around} {env : Env} {Γ : Ctx} {L : Addr} {qual : Str} {fn : Option Addr} {code : Value} {s₀ s : Shared} {c : Heap} {X O : Addr → Prop} {E : Value → Shared → Prop} {C f fI fS fC fX fM : Addr} {n : Nat}

/-- an own list's int stored under a name -/
theorem FS.assignOwn {y x : Str} {px pos : Pos} {e : Expr} {ds : List Dt} {i : Int} {Q : Flow → Shared → Prop} (S : FS G env Γ [(y, ds)] s₀ c X O s) (he : Ev G A env ((y, .list ds) :: Γ) e (.int i)) (hx : canStore env x = true) (hyx : y ≠ x)
    (hs : swapsWith e (some (.Name x px)) pos.line env = pure false) (h : ∀ s', FS G env (put x (.int i) Γ) [(y, ds)] s₀ c X O s' → Q .next s') : wpAny G.M A (exec (.Assign [.Name x px] e pos) env) Q E s :=
  wpAny_Assign_Name (S.evOwnInt he fun v s₁ S₁ r => S₁.store hx (fun q hq => by rw [List.mem_singleton] at hq; subst hq; exact hyx) r fun h' tk S' _ => h _ S') hs

/-- compare over two stats of the law -/
theorem cmp_stats {ks : List (Int × Int)} {a b c d a' b' c' d' : Int} {kv lv : List (Int × Int)} (R : Room A (n + 3)) (T : LawG G C f fI fS fC fX fM) (hks : ∀ k ∈ ks, k.1 = 1 ∨ k.1 = 2) (hl : ks.length ≤ 10) :
    CallIs G A (.ref f) [.comp C (keysD ks), statD a b c d kv, statD a' b' c' d' lv] (.int (cmpOf ks (colI (b, c)) (colI (b', c')))) := by
  refine cmp_call (n := n) R T.cmpD T.clsOk (fun k hk => ?_) hl
  rcases hks k hk with e | e <;> rw [e] <;> exact ⟨by decide, by decide, rfl, rfl⟩

set_option maxHeartbeats 4000000 in
theorem seg_d {ks ps : List (Int × Int)} {ds ms : List Int} {Q : Flow → Shared → Prop} (R : Room A (n + 20)) (T : LawG G C f fI fS fC fX fM) (hks : ∀ k ∈ ks, k.1 = 1 ∨ k.1 = 2) (hl : ks.length ≤ 10) (S : FS G (lenv L qual fn code) (ctxC C ks ps ds ms) [] s₀ c X O s)
    (h : ∀ c' O' s', FS G (lenv L qual fn code) (ctxD C ks ps ds ms) [] s₀ c' X O' s' → wpAny G.M A (execs (lawB.drop 12) (lenv L qual fn code)) Q E s') : wpAny G.M A (execs (lawB.drop 10) (lenv L qual fn code)) Q E s := by
  refine wpAny_execs_cons (S.ownNil rfl rfl fun O₁ s₁ S₁ => ?_)
  have S₁ : FS G (lenv L qual fn code) (ctxC C ks ps ds ms) [(S' "row", [])] s₀ c X O₁ s₁ := S₁
  refine wpAny_execs_cons ?_
  refine S₁.forName (d := .range 0 5) (xs := rangeD 0 5) R.handled (ev_range5 T rfl) rfl ⟨by decide, by decide⟩ rfl (fun i => ctxC C ks ps ds ms) (fun i => [(S' "row", (rowN (ltE ks ps) i).map fun (k : Nat) => Dt.int (k : Int))]) (fun p hp => hp) (fun q hq => hq) (fun i q hq => ?_) (fun i d c' X' s₂ hd S₂ hX => ?_) (fun s₂ S₂ => ?_)
  · rw [List.mem_singleton] at hq; subst hq; show S' "row" ≠ S' "k"; decide
  · obtain ⟨hi5, rfl⟩ := rangeD_get hd
    have e0 : (0 + (i : Int)) = (i : Int) := by omega
    rw [e0] at S₂
    obtain ⟨row, hrow⟩ : ∃ row, row = rowN (ltE ks ps) i := ⟨_, rfl⟩
    have hlen : row.length = i := by rw [hrow]; exact rowN_length _ _
    have hrlt : ∀ j ∈ row, j < i := by rw [hrow]; exact rowN_lt _ _
    rw [← hrow] at S₂
    have S₂ : FS G (lenv L qual fn code) ((S' "k", .int (i : Int)) :: ctxC C ks ps ds ms) [(S' "row", row.map fun (k : Nat) => Dt.int (k : Int))] s₀ c' X' O₁ s₂ := S₂
    refine wpAny_execs_cons (S₂.assignOwn (i := (row.length : Int)) ?_ rfl (by decide) rfl fun s₃ S₃ => ?_)
    · have := call_len (G := G) (A := A) (xs := row.map fun (k : Nat) => Dt.int (k : Int)) (by rw [List.length_map]; omega)
      rw [List.length_map] at this
      exact ev_call T.len (.inl ⟨_, rfl⟩) rfl (evAll_cons (ev_name rfl) evAll_nil) this
    · have S₃ : FS G (lenv L qual fn code) ((S' "at", .int (row.length : Int)) :: (S' "k", .int (i : Int)) :: ctxC C ks ps ds ms) [(S' "row", row.map fun (k : Nat) => Dt.int (k : Int))] s₀ c' X' O₁ s₃ := S₃
      refine wpAny_execs_cons ?_
      refine FS.whil (σ := Nat) (fun a => (S' "at", .int (a : Int)) :: (S' "k", .int (i : Int)) :: ctxC C ks ps ds ms) (fun a => [(S' "row", row.map fun (k : Nat) => Dt.int (k : Int))]) (fun a => decide (0 < a) && ltE ks ps i (row.getD (a - 1) 0)) (fun a => a)
        (fun a => a ≤ row.length ∧ rowAt (ltE ks ps) row i a = rowAt (ltE ks ps) row i row.length) row.length ⟨Nat.le_refl _, rfl⟩ S₃ (fun a s₄ hg S₄ E' Q' hQ => ?_) (fun a s₄ hg hb S₄ => ?_) (fun a s₄ hg hb S₄ => ?_)
      · have hpe : (decide ((0 : Int) < (a : Int)) && ltE ks ps i (row.getD (a - 1) 0)) = (decide (0 < a) && ltE ks ps i (row.getD (a - 1) 0)) := by
          congr 1; simp
        refine S₄.tstOwn (b := decide ((0 : Int) < (a : Int)) && ltE ks ps i (row.getD (a - 1) 0)) ?_ fun s₅ S₅ => by rw [hpe]; exact hQ s₅ S₅
        refine evt_and (evt_cmp (cmp_gt _ _) (ev_name rfl) (ev_int 0 _ _)) (fun hpos => ?_)
        have hp1 := of_decide_eq_true hpos
        have hg1 := hg.1
        have h2 : ((a : Int) - 1).toNat = a - 1 := by omega
        have hmem := hrlt _ (getD_mem (l := row) (a := a - 1) (by omega))
        refine evt_cmp (cmp_lt _ _) (ev_compare T.clsOk (ev_name rfl) (evAll_cons (ev_item (xs := entL ps ms) (k := (i : Int)) (d := entD ps ms i) (ev_name rfl) (ev_name rfl) (by omega) (by rw [Int.toNat_natCast]; exact entL_get hi5) (by omega))
            (evAll_cons (ev_item (xs := entL ps ms) (k := ((row.getD (a - 1) 0 : Nat) : Int)) (d := entD ps ms (row.getD (a - 1) 0)) (ev_name rfl)
              (ev_item (xs := row.map fun (k : Nat) => Dt.int (k : Int)) (k := (a : Int) - 1) (ev_name rfl) (ev_bin (bin_sub _ _) (ev_name rfl) (ev_int 1 _ _))
                (by omega) (by rw [h2]; exact nats_get (by omega)) (by omega))
              (by omega) (by rw [Int.toNat_natCast]; exact entL_get (by omega)) (by omega)) evAll_nil)) (cmp_stats (n := n) (R.le (by omega)) T hks hl)) (ev_int 0 _ _)
      · obtain ⟨hpos, hgo⟩ := rowAt_go hb
        refine wpAny_execs_cons (S₄.assign (d := .int ((a : Int) - 1)) (ev_bin (bin_sub _ _) (ev_name rfl) (ev_int 1 _ _)) rfl (fun q hq => by rw [List.mem_singleton] at hq; subst hq; show S' "row" ≠ S' "at"; decide) rfl fun s₅ S₅ => wpAny_execs_nil ⟨rfl, a - 1, ⟨by have := hg.1; omega, by rw [← hgo]; exact hg.2⟩, by show a - 1 < a; omega, ?_⟩)
        have ea : ((a - 1 : Nat) : Int) = (a : Int) - 1 := by omega
        rw [ea]; exact S₅
      · have hstop := rowAt_stop hb
        refine wpAny_execs_cons (S₄.insert (i := (a : Int)) (d := .int (i : Int)) (ev_name rfl) (ev_name rfl) (by omega) (by rw [List.length_map]; have := hg.1; omega) (by rw [List.length_map]; omega) fun s₅ S₅ => wpAny_execs_nil ?_)
        have er : (rowN (ltE ks ps) (i + 1)).map (fun (k : Nat) => Dt.int (k : Int)) = (row.map fun (k : Nat) => Dt.int (k : Int)).take (a : Int).toNat ++ [.int (i : Int)] ++ (row.map fun (k : Nat) => Dt.int (k : Int)).drop (a : Int).toNat := by
          rw [Int.toNat_natCast, rowN, rowIns, ← hrow, ← hg.2, hstop]
          simp [List.map_take, List.map_drop]
        rw [er]
        exact S₅.sub (fun p hp => List.mem_cons_of_mem _ (List.mem_cons_of_mem _ hp)) fun q hq => hq
  · obtain ⟨O₂, S₃⟩ := S₂.freeze
    exact h _ O₂ s₂ S₃
end
end Mine

/-! ### MyLaw5 -/
namespace Mine

/-! ## picks -/
abbrev natL (l : List Nat) : List Dt := l.map fun (k : Nat) => Dt.int (k : Int)
def pkStep (ms : List Int) (st : List Nat × List Int) (k : Nat) : List Nat × List Int :=
  if st.2.any (· == mkI ms k) then st else (st.1 ++ [k], st.2 ++ st.2.map fun one => Builtin.bitXor one (mkI ms k))
def pkN (ms : List Int) (row : List Nat) : List Nat × List Int := row.foldl (pkStep ms) ([], [0])
theorem pkN_length (ms : List Int) (row : List Nat) : (pkN ms row).1.length ≤ row.length ∧ (pkN ms row).2.length ≤ 2 ^ row.length := by
  have : ∀ (row : List Nat) (st : List Nat × List Int), (row.foldl (pkStep ms) st).1.length ≤ st.1.length + row.length ∧ (row.foldl (pkStep ms) st).2.length ≤ st.2.length * 2 ^ row.length := by
    intro row
    induction row with
    | nil => intro st; simp
    | cons k r ih =>
      intro st
      have h := ih (pkStep ms st k)
      have h1 : (pkStep ms st k).1.length ≤ st.1.length + 1 ∧ (pkStep ms st k).2.length ≤ st.2.length * 2 := by
        unfold pkStep; split
        · exact ⟨by omega, by omega⟩
        · simp; omega
      simp only [List.foldl_cons, List.length_cons]
      refine ⟨by omega, Nat.le_trans h.2 ?_⟩
      rw [Nat.pow_succ', ← Nat.mul_assoc]
      exact Nat.mul_le_mul_right _ h1.2
  have := this row ([], [0])
  simpa [pkN] using this
theorem pkN_mem (ms : List Int) (row : List Nat) : ∀ k ∈ (pkN ms row).1, k ∈ row := by
  have : ∀ (row : List Nat) (st : List Nat × List Int), ∀ k ∈ (row.foldl (pkStep ms) st).1, k ∈ st.1 ∨ k ∈ row := by
    intro row
    induction row with
    | nil => intro st k hk; exact .inl hk
    | cons a r ih =>
      intro st k hk
      rcases ih (pkStep ms st a) k hk with h | h
      · unfold pkStep at h
        split at h
        · exact .inl h
        · rcases List.mem_append.mp h with h | h
          · exact .inl h
          · rw [List.mem_singleton] at h; exact .inr (h ▸ List.mem_cons_self)
      · exact .inr (List.mem_cons_of_mem _ h)
  intro k hk
  rcases this row ([], [0]) k hk with h | h
  · cases h
  · exact h

def ctxE (C : Addr) (ks ps : List (Int × Int)) (ds ms : List Int) (row : List Nat) : Ctx := (S' "picks", natsD (pkN ms row).1) :: (S' "row", natsD row) :: ctxC C ks ps ds ms

section
variable {G : Wrld} {A : Around} {env : Env} {Γ : Ctx} {L : Addr} {qual : Str} {fn : Option Addr} {code : Value} {s₀ s : Shared} {c : Heap} {X O : Addr → Prop} {E : Value → Shared → Prop} {C f fI fS fC fX fM : Addr} {n : Nat}

set_option maxHeartbeats 4000000 in
theorem seg_e {ks ps : List (Int × Int)} {ds ms : List Int} {row : List Nat} {Q : Flow → Shared → Prop} (R : Room A (n + 20)) (T : LawG G C f fI fS fC fX fM) (hms : ms.length = 5) (hrow : ∀ k ∈ row, k < 5) (hrl : row.length = 5) (S : FS G (lenv L qual fn code) ((S' "row", natsD row) :: ctxC C ks ps ds ms) [] s₀ c X O s)
    (h : ∀ c' O' s', FS G (lenv L qual fn code) (ctxE C ks ps ds ms row) [] s₀ c' X O' s' → wpAny G.M A (execs (lawB.drop 15) (lenv L qual fn code)) Q E s') : wpAny G.M A (execs (lawB.drop 12) (lenv L qual fn code)) Q E s := by
  refine wpAny_execs_cons (S.ownNil rfl rfl fun O₁ s₁ S₁ => ?_)
  have S₁ : FS G (lenv L qual fn code) ((S' "row", natsD row) :: ctxC C ks ps ds ms) [(S' "picks", [])] s₀ c X O₁ s₁ := S₁
  have hΩ : ∀ (x : Str) (l : List Dt), x ≠ S' "picks" → ∀ q ∈ [(S' "picks", l)], q.1 ≠ x := fun x l hx q hq => by
    rw [List.mem_singleton] at hq; subst hq; exact Ne.symm hx
  refine wpAny_execs_cons (S₁.assign (d := .list [.int 0]) (ev_list (evAll_cons (ev_int 0 _ _) evAll_nil)) rfl (hΩ _ _ (by decide)) rfl fun s₂ S₂ => ?_)
  have S₂ : FS G (lenv L qual fn code) ((S' "span", intsD [0]) :: (S' "row", natsD row) :: ctxC C ks ps ds ms) [(S' "picks", [])] s₀ c X O₁ s₂ := S₂
  refine wpAny_execs_cons ?_
  refine S₂.forName (d := natsD row) (xs := natL row) R.handled (ev_name rfl) rfl trivial rfl (fun i => (S' "span", intsD (pkN ms (row.take i)).2) :: (S' "row", natsD row) :: ctxC C ks ps ds ms) (fun i => [(S' "picks", natL (pkN ms (row.take i)).1)]) (fun p hp => hp) (fun q hq => hq) (fun i q hq => hΩ _ _ (by decide) q hq) (fun i d c' X' s₃ hd S₃ hX => ?_) (fun s₃ S₃ => ?_)
  · rw [List.getElem?_map] at hd
    cases e : row[i]? with
    | none => rw [e] at hd; cases hd
    | some k =>
      rw [e] at hd; cases hd
      have hk5 : k < 5 := hrow k (List.mem_of_getElem? e)
      have hi : i < row.length := (List.getElem?_eq_some_iff.mp e).1
      obtain ⟨st, hst⟩ : ∃ st, st = pkN ms (row.take i) := ⟨_, rfl⟩
      have hlen := pkN_length ms (row.take i)
      rw [← hst, List.length_take, Nat.min_eq_left (by omega)] at hlen
      have h32 : (2 : Nat) ^ i ≤ 2 ^ 5 := Nat.pow_le_pow_right (by decide) (by omega)
      have hnext : pkN ms (row.take (i + 1)) = pkStep ms st k := by
        rw [List.take_add_one, e, hst]; unfold pkN; rw [List.foldl_append]; rfl
      rw [← hst] at S₃
      rw [hnext]
      have S₃ : FS G (lenv L qual fn code) ((S' "k", .int (k : Int)) :: (S' "span", intsD st.2) :: (S' "row", natsD row) :: ctxC C ks ps ds ms) [(S' "picks", natL st.1)] s₀ c' X' O₁ s₃ := S₃
      have hm : (ms.map Dt.int)[(k : Int).toNat]? = some (.int (mkI ms k)) := by rw [Int.toNat_natCast]; exact ints_get (by omega)
      refine wpAny_execs_cons (S₃.iff (b := !(st.2.any (· == mkI ms k))) (evt_cmp (cmp_notin _ _) (ev_item (xs := ms.map Dt.int) (ev_name rfl) (ev_name rfl) (by omega) hm (by omega)) (ev_name rfl)) (fun hb s₄ S₄ => ?_) (fun hb s₄ S₄ => ?_))
      · have hb' : st.2.any (· == mkI ms k) = false := by simpa using hb
        have hstep : pkStep ms st k = (st.1 ++ [k], st.2 ++ st.2.map fun one => Builtin.bitXor one (mkI ms k)) := by
          unfold pkStep; rw [hb']; rfl
        rw [hstep]
        refine wpAny_execs_cons (S₄.append (d := .int (k : Int)) (ev_name rfl) (by rw [List.length_map]; omega) fun s₅ S₅ => ?_)
        have ecat : intsD (st.2 ++ st.2.map fun one => Builtin.bitXor one (mkI ms k)) = .list (st.2.map Dt.int ++ (st.2.map Dt.int).map fun d => match d with | .int a => Dt.int (Builtin.bitXor a (mkI ms k)) | _ => .int 0) := by
          unfold intsD; rw [List.map_append, List.map_map, List.map_map]; rfl
        refine wpAny_execs_cons (S₅.assign (d := intsD (st.2 ++ st.2.map fun one => Builtin.bitXor one (mkI ms k))) ?_ rfl (hΩ _ _ (by decide)) rfl fun s₆ S₆ => wpAny_execs_nil (wpAny_execs_nil ?_))
        · rw [ecat]
          refine ev_cat (ev_name rfl) (ev_map _ R.handled rfl rfl (ev_name (d := intsD st.2) rfl) rfl trivial (by rw [List.length_map]; omega) fun C' d hd => ?_) (by simp only [List.length_map]; omega)
          obtain ⟨a, _, rfl⟩ := List.mem_map.mp hd
          exact ev_bin (bin_xor _ _) (ev_name rfl) (ev_item (xs := ms.map Dt.int) (k := (k : Int)) (ev_name rfl) (ev_name rfl) (by omega) hm (by omega))
        · have el : natL (st.1 ++ [k]) = natL st.1 ++ [.int (k : Int)] := by simp
          have S₆ : FS G (lenv L qual fn code) ((S' "span", intsD (st.2 ++ st.2.map fun one => Builtin.bitXor one (mkI ms k))) :: (S' "k", .int (k : Int)) :: (S' "row", natsD row) :: ctxC C ks ps ds ms) [(S' "picks", natL st.1 ++ [.int (k : Int)])] s₀ c' X' O₁ s₆ := S₆
          show FS G _ _ [(S' "picks", natL (st.1 ++ [k]))] _ _ _ _ _
          rw [el]
          refine S₆.sub (fun p hp => ?_) fun q hq => hq
          rcases List.mem_cons.mp hp with rfl | hp
          · exact List.mem_cons_self
          · exact List.mem_cons_of_mem _ (List.mem_cons_of_mem _ hp)
      · have hb' : st.2.any (· == mkI ms k) = true := by simpa using hb
        have hstep : pkStep ms st k = st := by unfold pkStep; rw [hb']; rfl
        rw [hstep]
        exact wpAny_execs_nil (wpAny_execs_nil (S₄.sub (fun p hp => List.mem_cons_of_mem _ hp) fun q hq => hq))
  · rw [List.length_map, List.take_length] at S₃
    obtain ⟨O₂, S₄⟩ := S₃.freeze
    refine h _ O₂ s₃ (S₄.sub (fun p hp => ?_) fun q hq => hq)
    rcases List.mem_cons.mp hp with rfl | hp
    · exact List.mem_cons_self
    · exact List.mem_cons_of_mem _ (List.mem_cons_of_mem _ hp)
end
end Mine

/-! ### MyLaw6 -/
namespace Mine

/-! ## told, shown, line -/
def toldN (d : Int) : Int := mrkOut (mrkN (d.fmod (2 ^ 32)) 64)
def shKey (ks ps : List (Int × Int)) (k : Nat) : List Int := ks.map (fun p => p.2 * colI (prI ps k) p.1) ++ [(k : Int)]
def shL (ks ps : List (Int × Int)) : List (List Int) := (List.range 5).map (shKey ks ps)
def lineL (ks ps : List (Int × Int)) : List Nat := sortIdx (fun i j => lexLt ((shL ks ps).getD i []) ((shL ks ps).getD j [])) 5

theorem lineL_lt (ks ps : List (Int × Int)) : ∀ i ∈ lineL ks ps, i < 5 := sortIdx_below fun _ => below5
/-- what holds at every end of the questions -/
def askLeaf (p : List Nat → Bool) : KasT (Array Nat) → Bool
  | .ret a => p a.toList
  | .ask i j k => askLeaf p (k true) && askLeaf p (k false)
theorem askLeaf_run {p : List Nat → Bool} {lt : Nat → Nat → Bool} : ∀ (t : KasT (Array Nat)), askLeaf p t = true → p (askRun lt t).toList = true
  | .ret a, h => h
  | .ask i j k, h => by
    have h' : (askLeaf p (k true) && askLeaf p (k false)) = true := h
    rw [Bool.and_eq_true] at h'
    show p (askRun lt (k (lt i j))).toList = true
    cases e : lt i j with
    | true => exact askLeaf_run (k true) h'.1
    | false => exact askLeaf_run (k false) h'.2
theorem leaf5 : askLeaf (fun l => l.length == 5) (kas_sort 5) = true := by decide +kernel
theorem lineL_length (ks ps : List (Int × Int)) : (lineL ks ps).length = 5 := by
  unfold lineL sortIdx
  rw [if_neg (by decide)]
  exact eq_of_beq (askLeaf_run (p := fun l => l.length == 5) _ leaf5)
theorem shL_get {ks ps : List (Int × Int)} {k : Nat} (h : k < 5) : (shL ks ps).getD k [] = shKey ks ps k := by
  unfold shL
  rw [List.getD_eq_getElem?_getD, List.getElem?_map, List.getElem?_range h]; rfl

def ctxF (C : Addr) (ks ps : List (Int × Int)) (ds ms ts : List Int) (line picks : List Nat) : Ctx :=
  [(S' "line", natsD line), (S' "told", intsD ts), (S' "picks", natsD picks), (S' "entries", .list (entL ps ms)), (S' "comp", .comp C (keysD ks)), (S' "prices", prsD ps)]

section
variable {G : Wrld} {A : Around} {env : Env} {Γ : Ctx} {L : Addr} {qual : Str} {fn : Option Addr} {code : Value} {s₀ s : Shared} {c : Heap} {X O : Addr → Prop} {E : Value → Shared → Prop} {C f fI fS fC fX fM : Addr} {n : Nat}

set_option maxHeartbeats 4000000 in
theorem seg_f {ks ps : List (Int × Int)} {ds ms : List Int} {row : List Nat} {Q : Flow → Shared → Prop} (R : Room A (n + 20)) (T : LawG G C f fI fS fC fX fM) (hds : ds.length ≤ 1000) (hps : ps.length = 5) (hks : ∀ k ∈ ks, k.1 = 1 ∨ k.1 = 2) (hkw : ∀ k ∈ ks, k.2 = 1 ∨ k.2 = -1) (hl : ks.length = 2)
    (S : FS G (lenv L qual fn code) (ctxE C ks ps ds ms row) [] s₀ c X O s)
    (h : ∀ s', FS G (lenv L qual fn code) (ctxF C ks ps ds ms (ds.map toldN) (lineL ks ps) (pkN ms row).1) [] s₀ c X O s' → wpAny G.M A (execs (lawB.drop 18) (lenv L qual fn code)) Q E s') : wpAny G.M A (execs (lawB.drop 15) (lenv L qual fn code)) Q E s := by
  have noΩ : ∀ x : Str, ∀ q ∈ ([] : List (Str × List Dt)), q.1 ≠ x := fun x q hq => nomatch hq
  refine wpAny_execs_cons (S.assign (d := intsD (ds.map toldN)) ?_ rfl (noΩ _) rfl fun s₁ S₁ => ?_)
  · have e : intsD (ds.map toldN) = .list ((ds.map Dt.int).map fun d => match d with | .int a => Dt.int (toldN a) | _ => .int 0) := by
      unfold intsD; rw [List.map_map, List.map_map]; rfl
    rw [e]
    refine ev_map _ R.handled rfl rfl (ev_name (d := intsD ds) rfl) rfl trivial (by rw [List.length_map]; omega) fun C' d hd => ?_
    obtain ⟨a, _, rfl⟩ := List.mem_map.mp hd
    exact ev_call T.mrk (.inr (.inr T.mrkK)) rfl (evAll_cons (ev_bin (bin_mod (a := a) (b := 2 ^ (32 : Int).toNat) (by decide)) (ev_name rfl) (ev_bin (bin_pow (by decide) (by decide) (by decide)) (ev_int 2 _ _) (ev_int 32 _ _))) evAll_nil) (mrk_call (n := n) (R.le (by omega)) T.mrkD T.range)
  have S₁ : FS G (lenv L qual fn code) ((S' "told", intsD (ds.map toldN)) :: ctxE C ks ps ds ms row) [] s₀ c X O s₁ := S₁
  have hsh3 : ∀ k, (shKey ks ps k).length = 3 := fun k => by unfold shKey; simp [hl]
  refine wpAny_execs_cons (S₁.assign (d := .list ((lineL ks ps).map fun i => inD (shKey ks ps i))) ?_ rfl (noΩ _) rfl fun s₂ S₂ => ?_)
  · have hsort := call_sorted_lists (G := G) (A := A) (ls := shL ks ps) (by simp [shL]) (fun l hl => by
      unfold shL at hl; obtain ⟨k, _, rfl⟩ := List.mem_map.mp hl; exact hsh3 k) R.u
    have eo : (sortOut [] (fun i j => lexLt ((shL ks ps).getD i []) ((shL ks ps).getD j [])) (shL ks ps)).map inD = (lineL ks ps).map fun i => inD (shKey ks ps i) := by
      unfold sortOut
      have : (shL ks ps).length = 5 := by simp [shL]
      rw [this, List.map_map]
      show (lineL ks ps).map _ = _
      refine List.map_congr_left fun i hi => ?_
      show inD ((shL ks ps).getD i []) = _
      rw [shL_get (lineL_lt ks ps i hi)]
    rw [eo] at hsort
    refine ev_call T.sorted (.inl ⟨_, rfl⟩) rfl (evAll_cons ?_ evAll_nil) hsort
    have e : Dt.list ((shL ks ps).map inD) = .list ((rangeD 0 5).map fun d => match d with | .int k => inD (shKey ks ps k.toNat) | _ => .int 0) := rfl
    rw [e]
    refine ev_mapC _ R.handled rfl rfl (ev_range5 T rfl) rfl ⟨by decide, by decide⟩ (by decide) fun c' C' d hd => ?_
    obtain ⟨i, hi⟩ := List.getElem?_of_mem hd
    obtain ⟨hi5, rfl⟩ := rangeD_get hi
    have hi0 : (0 + (i : Int)).toNat = i := by omega
    have hi1 : (0 + (i : Int)) = (i : Int) := by omega
    show Ev G A _ _ _ (inD (shKey ks ps (0 + (i : Int)).toNat))
    rw [hi0, hi1]
    have e2 : inD (shKey ks ps i) = .list ((ks.map fun p => Dt.int (p.2 * colI (prI ps i) p.1)) ++ [.int (i : Int)]) := by
      unfold inD shKey; rw [List.map_append, List.map_map]; rfl
    rw [e2]
    refine ev_cat (ev_mapPair (ps := ks) (fun a b => Dt.int (b * colI (prI ps i) a)) R.handled rfl rfl (by decide) rfl (ev_name rfl) (by omega) fun C'' p hp => ?_) (ev_list (evAll_cons (ev_name rfl) evAll_nil)) (by simp; omega)
    have hpi : (ps.map prD)[(i : Int).toNat]? = some (prD (prI ps i)) := by rw [Int.toNat_natCast]; exact prs_get (by omega)
    have hm : Builtin.Int.intBits p.2 ≤ 64 := by rcases hkw p hp with e | e <;> rw [e] <;> decide
    refine ev_bin (mul_small hm) (ev_name rfl) ?_
    rcases hks p hp with e | e
    · rw [e]
      exact ev_titem (xs := [.int (prI ps i).1, .int (prI ps i).2]) (ev_item (xs := ps.map prD) (k := (i : Int)) (ev_name rfl) (ev_name rfl) (by omega) hpi (by omega)) (ev_bin (bin_sub 1 1) (ev_name rfl) (ev_int 1 _ _)) (by decide) rfl (by decide)
    · rw [e]
      exact ev_titem (xs := [.int (prI ps i).1, .int (prI ps i).2]) (ev_item (xs := ps.map prD) (k := (i : Int)) (ev_name rfl) (ev_name rfl) (by omega) hpi (by omega)) (ev_bin (bin_sub 2 1) (ev_name rfl) (ev_int 1 _ _)) (by decide) rfl (by decide)
  have S₂ : FS G (lenv L qual fn code) ((S' "shown", .list ((lineL ks ps).map fun i => inD (shKey ks ps i))) :: (S' "told", intsD (ds.map toldN)) :: ctxE C ks ps ds ms row) [] s₀ c X O s₂ := S₂
  refine wpAny_execs_cons (S₂.assign (d := natsD (lineL ks ps)) ?_ rfl (noΩ _) rfl fun s₃ S₃ => ?_)
  · have hg : ∀ i, ((shKey ks ps i).map Dt.int)[(2 : Int).toNat]? = some (.int (i : Int)) := fun i => by
      unfold shKey
      obtain ⟨a, b, rfl⟩ : ∃ a b, ks = [a, b] := by
        match ks, hl with
        | [a, b], _ => exact ⟨a, b, rfl⟩
      rfl
    have e : natsD (lineL ks ps) = .list (((lineL ks ps).map fun i => inD (shKey ks ps i)).map fun d => match d with | .list l => l.getD 2 (.int 0) | _ => .int 0) := by
      unfold natsD
      rw [List.map_map]
      congr 1
      refine List.map_congr_left fun i hi => ?_
      show Dt.int (i : Int) = ((shKey ks ps i).map Dt.int).getD 2 (.int 0)
      rw [List.getD_eq_getElem?_getD]
      exact (congrArg (fun o => Option.getD o (Dt.int 0)) (hg i)).symm
    rw [e]
    refine ev_map _ R.handled rfl rfl (ev_name (d := .list ((lineL ks ps).map fun i => inD (shKey ks ps i))) rfl) rfl trivial (by rw [List.length_map, lineL_length]; decide) fun C' d hd => ?_
    obtain ⟨i, hi, rfl⟩ := List.mem_map.mp hd
    show Ev G A _ _ _ (((shKey ks ps i).map Dt.int).getD 2 (.int 0))
    refine ev_item (xs := (shKey ks ps i).map Dt.int) (k := 2) (ev_name rfl) (ev_int 2 _ _) (by decide) ?_ (by decide)
    rw [hg i, List.getD_eq_getElem?_getD]
    exact congrArg some (congrArg (fun o => Option.getD o (Dt.int 0)) (hg i)).symm
  refine h s₃ (S₃.sub (fun p hp => ?_) fun q hq => hq)
  unfold ctxF at hp
  simp only [List.mem_cons, List.not_mem_nil, or_false] at hp
  show p ∈ (S' "line", natsD (lineL ks ps)) :: (S' "shown", _) :: (S' "told", intsD (ds.map toldN)) :: (S' "picks", natsD (pkN ms row).1) :: (S' "row", natsD row) :: (S' "entries", .list (entL ps ms)) :: (S' "marks", intsD ms) :: (S' "comp", .comp C (keysD ks)) :: (S' "keys", keysD ks) :: (S' "prices", prsD ps) :: (S' "drawn", intsD ds) :: []
  rcases hp with rfl | rfl | rfl | rfl | rfl | rfl <;> simp
end
end Mine

/-! ### MyLaw7 -/
namespace Mine

/-! ## choices, mixes, sums -/
structure Sum5 where
  a : Int
  b : Int
  c : Int
  d : Int
  kv : List (Int × Int)
def Sum5.D (x : Sum5) : Dt := statD x.a x.b x.c x.d x.kv
def addE (ps : List (Int × Int)) (ms : List Int) (k : Nat) (x : Sum5) : Sum5 := ⟨1 + x.a, (prI ps k).1 + x.b, (prI ps k).2 + x.c, 2 ^ k + x.d, addCallers x.kv [(mkI ms k, 1)]⟩
def chN : Nat → List (List Nat)
  | 0 => [[]]
  | k + 1 => chN k ++ (chN k).map (· ++ [k])
def mxN (ts : List Int) : Nat → List Int
  | 0 => [0]
  | k + 1 => mxN ts k ++ (mxN ts k).map fun x => Builtin.bitXor x (mkI ts k)
def smN (ps : List (Int × Int)) (ms : List Int) : Nat → List Sum5
  | 0 => [⟨0, 0, 0, 0, []⟩]
  | k + 1 => smN ps ms k ++ (smN ps ms k).map (addE ps ms k)

theorem chN_length : ∀ k, (chN k).length = 2 ^ k
  | 0 => rfl
  | k + 1 => by rw [chN, List.length_append, List.length_map, chN_length k]; omega
theorem mxN_length (ts : List Int) : ∀ k, (mxN ts k).length = 2 ^ k
  | 0 => rfl
  | k + 1 => by rw [mxN, List.length_append, List.length_map, mxN_length ts k]; omega
theorem smN_length (ps : List (Int × Int)) (ms : List Int) : ∀ k, (smN ps ms k).length = 2 ^ k
  | 0 => rfl
  | k + 1 => by rw [smN, List.length_append, List.length_map, smN_length ps ms k]; omega
theorem chN_len : ∀ k, ∀ l ∈ chN k, l.length ≤ k
  | 0 => fun l hl => by rw [chN, List.mem_singleton] at hl; subst hl; exact Nat.le_refl _
  | k + 1 => fun l hl => by
    rw [chN, List.mem_append] at hl
    rcases hl with hl | hl
    · exact Nat.le_succ_of_le (chN_len k l hl)
    · obtain ⟨l', h', rfl⟩ := List.mem_map.mp hl
      have := chN_len k l' h'
      simp; omega
theorem copy_length (kt : List (Int × Int)) : (kt.foldl (fun a p => putI a p.1 p.2) []).length ≤ kt.length := by
  have : ∀ (l acc : List (Int × Int)), (l.foldl (fun a p => putI a p.1 p.2) acc).length ≤ acc.length + l.length := by
    intro l
    induction l with
    | nil => intro acc; simp
    | cons d r ih => intro acc; have h1 := ih (putI acc d.1 d.2); have h2 := putI_length acc d.1 d.2; simp only [List.foldl_cons, List.length_cons]; omega
  simpa using this kt []
theorem addOne_length (acc : List (Int × Int)) (k c : Int) : (addOne acc k c).length ≤ acc.length + 1 := by
  unfold addOne; split <;> exact putI_length _ _ _
theorem addC_length (kt : List (Int × Int)) (m : Int) : (addCallers kt [(m, 1)]).length ≤ kt.length + 1 := by
  have h1 := copy_length kt
  have h2 := addOne_length (kt.foldl (fun a p => putI a p.1 p.2) []) m 1
  show (addOne _ m 1).length ≤ _
  omega
theorem smN_len (ps : List (Int × Int)) (ms : List Int) : ∀ k, ∀ x ∈ smN ps ms k, x.kv.length ≤ k
  | 0 => fun l hl => by rw [smN, List.mem_singleton] at hl; subst hl; exact Nat.le_refl _
  | k + 1 => fun l hl => by
    rw [smN, List.mem_append] at hl
    rcases hl with hl | hl
    · exact Nat.le_succ_of_le (smN_len ps ms k l hl)
    · obtain ⟨l', h', rfl⟩ := List.mem_map.mp hl
      have := smN_len ps ms k l' h'
      have h2 := addC_length l'.kv (mkI ms k)
      show (addCallers l'.kv [(mkI ms k, 1)]).length ≤ _
      omega

def ctxS (ps : List (Int × Int)) (ms ts : List Int) (k : Nat) : Ctx := [(S' "sums", .list ((smN ps ms k).map Sum5.D)), (S' "mixes", intsD (mxN ts k)), (S' "choices", .list ((chN k).map natsD))]

section
variable {G : Wrld} {A : Around} {env : Env} {Γ : Ctx} {L : Addr} {qual : Str} {fn : Option Addr} {code : Value} {s₀ s : Shared} {c : Heap} {X O : Addr → Prop} {E : Value → Shared → Prop} {C f fI fS fC fX fM : Addr} {n : Nat}

theorem addE_call {ps : List (Int × Int)} {ms : List Int} {k : Nat} {x : Sum5} (R : Room A (n + 6)) (T : LawG G C f fI fS fC fX fM) (hk : x.kv.length ≤ 900) : CallIs G A (.ref fS) [x.D, entD ps ms k] (addE ps ms k x).D := by
  refine stats_call (n := n) (R.le (by omega)) T.stsD T.cll T.cllK fun A' R' => ?_
  refine callers_call (n := n) R' T.cllD T.isi T.tup (fun i => ?_) (fun i => ?_)
  · have := copy_length (x.kv.take i)
    rw [List.length_take] at this
    omega
  · have := copy_length x.kv
    rcases i with _ | i
    · exact Nat.le_trans this (by omega)
    · have h2 := addOne_length (x.kv.foldl (fun a p => putI a p.1 p.2) []) (mkI ms k) 1
      have e : List.take (i + 1) [(mkI ms k, (1 : Int))] = [(mkI ms k, 1)] := by simp
      rw [e]
      show (addOne _ (mkI ms k) 1).length ≤ _
      omega

set_option maxHeartbeats 4000000 in
theorem seg_g {ks ps : List (Int × Int)} {ds ms ts : List Int} {line picks : List Nat} {Q : Flow → Shared → Prop} (R : Room A (n + 20)) (T : LawG G C f fI fS fC fX fM) (hts : ts.length = 5)
    (S : FS G (lenv L qual fn code) (ctxF C ks ps ds ms ts line picks) [] s₀ c X O s)
    (h : ∀ s', FS G (lenv L qual fn code) (ctxS ps ms ts 5 ++ ctxF C ks ps ds ms ts line picks) [] s₀ c X O s' → wpAny G.M A (execs (lawB.drop 22) (lenv L qual fn code)) Q E s') : wpAny G.M A (execs (lawB.drop 18) (lenv L qual fn code)) Q E s := by
  have noΩ : ∀ x : Str, ∀ q ∈ ([] : List (Str × List Dt)), q.1 ≠ x := fun x q hq => nomatch hq
  refine wpAny_execs_cons (S.assign (d := .list [.list []]) (ev_list (evAll_cons (ev_list evAll_nil) evAll_nil)) rfl (noΩ _) rfl fun s₁ S₁ => ?_)
  refine wpAny_execs_cons (S₁.assign (d := .list [.int 0]) (ev_list (evAll_cons (ev_int 0 _ _) evAll_nil)) rfl (noΩ _) rfl fun s₂ S₂ => ?_)
  refine wpAny_execs_cons (S₂.assign (d := .list [statD 0 0 0 0 []]) (ev_list (evAll_cons (ev_tup (evAll_cons (ev_int 0 _ _) (evAll_cons (ev_int 0 _ _) (evAll_cons (ev_int 0 _ _) (evAll_cons (ev_int 0 _ _) (evAll_cons ev_dict0 evAll_nil)))))) evAll_nil)) rfl (noΩ _) rfl fun s₃ S₃ => ?_)
  have S₃ : FS G (lenv L qual fn code) (ctxS ps ms ts 0 ++ ctxF C ks ps ds ms ts line picks) [] s₀ c X O s₃ := S₃
  refine wpAny_execs_cons ?_
  refine S₃.forName (d := .range 0 5) (xs := rangeD 0 5) R.handled (ev_range5 T rfl) rfl ⟨by decide, by decide⟩ rfl (fun i => ctxS ps ms ts i ++ ctxF C ks ps ds ms ts line picks) (fun i => []) (fun p hp => hp) (fun q hq => hq) (fun i q hq => nomatch hq) (fun i d c' X' s₄ hd S₄ hX => ?_) (fun s₄ S₄ => h s₄ S₄)
  obtain ⟨hi5, rfl⟩ := rangeD_get hd
  have e0 : (0 + (i : Int)) = (i : Int) := by omega
  rw [e0] at S₄
  have h32 : (2 : Nat) ^ i ≤ 2 ^ 5 := Nat.pow_le_pow_right (by decide) (by omega)
  have S₄ : FS G (lenv L qual fn code) ((S' "k", .int (i : Int)) :: (S' "sums", .list ((smN ps ms i).map Sum5.D)) :: (S' "mixes", intsD (mxN ts i)) :: (S' "choices", .list ((chN i).map natsD)) :: ctxF C ks ps ds ms ts line picks) [] s₀ c' X' O s₄ := S₄
  refine wpAny_execs_cons (S₄.assign (d := .list ((chN (i + 1)).map natsD)) ?_ rfl (noΩ _) rfl fun s₅ S₅ => ?_)
  · have e : Dt.list ((chN (i + 1)).map natsD) = .list ((chN i).map natsD ++ ((chN i).map natsD).map fun d => match d with | .list l => Dt.list (l ++ [.int (i : Int)]) | _ => .int 0) := by
      rw [chN, List.map_append, List.map_map, List.map_map]
      congr 2
      refine List.map_congr_left fun l _ => ?_
      show Dt.list ((l ++ [i]).map _) = _
      rw [List.map_append]; rfl
    rw [e]
    refine ev_cat (ev_name rfl) (ev_map _ R.handled rfl rfl (ev_name (d := .list ((chN i).map natsD)) rfl) rfl trivial (by rw [List.length_map, chN_length]; omega) fun C' d hd => ?_) (by simp only [List.length_map, chN_length]; omega)
    obtain ⟨l, hl, rfl⟩ := List.mem_map.mp hd
    have := chN_len i l hl
    exact ev_cat (ev_name rfl) (ev_list (evAll_cons (ev_name rfl) evAll_nil)) (by simp; omega)
  have S₅ : FS G (lenv L qual fn code) ((S' "choices", .list ((chN (i + 1)).map natsD)) :: (S' "k", .int (i : Int)) :: (S' "sums", .list ((smN ps ms i).map Sum5.D)) :: (S' "mixes", intsD (mxN ts i)) :: ctxF C ks ps ds ms ts line picks) [] s₀ c' X' O s₅ := S₅
  refine wpAny_execs_cons (S₅.assign (d := intsD (mxN ts (i + 1))) ?_ rfl (noΩ _) rfl fun s₆ S₆ => ?_)
  · have e : intsD (mxN ts (i + 1)) = .list ((mxN ts i).map Dt.int ++ ((mxN ts i).map Dt.int).map fun d => match d with | .int a => Dt.int (Builtin.bitXor a (mkI ts i)) | _ => .int 0) := by
      unfold intsD; rw [mxN, List.map_append, List.map_map, List.map_map]; rfl
    rw [e]
    refine ev_cat (ev_name rfl) (ev_map _ R.handled rfl rfl (ev_name (d := intsD (mxN ts i)) rfl) rfl trivial (by rw [List.length_map, mxN_length]; omega) fun C' d hd => ?_) (by simp only [List.length_map, mxN_length]; omega)
    obtain ⟨a, ha, rfl⟩ := List.mem_map.mp hd
    have hm : (ts.map Dt.int)[(i : Int).toNat]? = some (.int (mkI ts i)) := by rw [Int.toNat_natCast]; exact ints_get (by omega)
    exact ev_bin (bin_xor _ _) (ev_name rfl) (ev_item (xs := ts.map Dt.int) (k := (i : Int)) (ev_name rfl) (ev_name rfl) (by omega) hm (by omega))
  have S₆ : FS G (lenv L qual fn code) ((S' "mixes", intsD (mxN ts (i + 1))) :: (S' "choices", .list ((chN (i + 1)).map natsD)) :: (S' "k", .int (i : Int)) :: (S' "sums", .list ((smN ps ms i).map Sum5.D)) :: ctxF C ks ps ds ms ts line picks) [] s₀ c' X' O s₆ := S₆
  refine wpAny_execs_cons (S₆.assign (d := .list ((smN ps ms (i + 1)).map Sum5.D)) ?_ rfl (noΩ _) rfl fun s₇ S₇ => wpAny_execs_nil ?_)
  · have ed : ∀ x : Sum5, (match x.D with | .tup [.int a, .int b, .int c, .int d, .dict kv] => (addE ps ms i ⟨a, b, c, d, kv⟩).D | _ => Dt.int 0) = (addE ps ms i x).D := fun x => rfl
    have e : Dt.list ((smN ps ms (i + 1)).map Sum5.D) = .list ((smN ps ms i).map Sum5.D ++ ((smN ps ms i).map Sum5.D).map fun d => match d with | .tup [.int a, .int b, .int c, .int d, .dict kv] => (addE ps ms i ⟨a, b, c, d, kv⟩).D | _ => Dt.int 0) := by
      rw [smN, List.map_append, List.map_map, List.map_map]; rfl
    rw [e]
    refine ev_cat (ev_name rfl) (ev_map _ R.handled rfl rfl (ev_name (d := .list ((smN ps ms i).map Sum5.D)) rfl) rfl trivial (by rw [List.length_map, smN_length]; omega) fun C' d hd => ?_) (by simp only [List.length_map, smN_length]; omega)
    obtain ⟨x, hx, rfl⟩ := List.mem_map.mp hd
    have hkv := smN_len ps ms i x hx
    show Ev G A _ _ _ (addE ps ms i x).D
    refine ev_call T.sts (.inr (.inr T.stsK)) rfl (evAll_cons (ev_name rfl) (evAll_cons (ev_item (xs := entL ps ms) (k := (i : Int)) (d := entD ps ms i) (ev_name rfl) (ev_name rfl) (by omega) (by rw [Int.toNat_natCast]; exact entL_get hi5) (by omega)) evAll_nil)) (addE_call (n := n) (R.le (by omega)) T (by omega))
  have S₇ : FS G (lenv L qual fn code) ((S' "sums", .list ((smN ps ms (i + 1)).map Sum5.D)) :: (S' "mixes", intsD (mxN ts (i + 1))) :: (S' "choices", .list ((chN (i + 1)).map natsD)) :: (S' "k", .int (i : Int)) :: ctxF C ks ps ds ms ts line picks) [] s₀ c' X' O s₇ := S₇
  refine S₇.sub (fun p hp => ?_) fun q hq => hq
  rcases List.mem_append.mp hp with hp | hp
  · exact List.mem_append_left (bs := (S' "k", .int (i : Int)) :: ctxF C ks ps ds ms ts line picks) (as := ctxS ps ms ts (i + 1)) hp
  · exact List.mem_append_right (as := ctxS ps ms ts (i + 1)) (List.mem_cons_of_mem _ hp)
end
end Mine

/-! ### MyLaw8 -/
namespace Mine

/-! ## rings and their last ones -/
def chG (c : Nat) : List Nat := (chN 5).getD c []
def mxG (ts : List Int) (c : Nat) : Int := (mxN ts 5).getD c 0
def smG (ps : List (Int × Int)) (ms : List Int) (c : Nat) : Sum5 := (smN ps ms 5).getD c ⟨0, 0, 0, 0, []⟩
def ringC (ts : List Int) : List Nat := ((List.range 31).map (1 + ·)).filter fun c => mxG ts c == 0
def ringL (ts : List Int) : List (List Nat) := (ringC ts).map chG
abbrev toI (l : List Nat) : List Int := l.map fun (k : Nat) => (k : Int)
def lastI (line ring : List Nat) : Int := maxOf (ring.map fun (k : Nat) => (((toI line).idxOf (k : Int) : Nat) : Int))
def leftL (line : List Nat) (ts : List Int) : List Nat := (ringL ts).map fun r => line.getD (lastI line r).toNat 0
def keptL (line : List Nat) (ts : List Int) : List Nat := line.filter fun k => !((toI (leftL line ts)).any (· == (k : Int)))

theorem natsD_toI (l : List Nat) : natsD l = .list ((toI l).map .int) := by
  unfold natsD; rw [List.map_map]; rfl
theorem argBest_le (bt : Nat → Nat → Bool) : ∀ k, argBest bt k ≤ k
  | 0 => Nat.le_refl _
  | k + 1 => by
    unfold argBest
    split
    · exact Nat.le_refl _
    · exact Nat.le_succ_of_le (argBest_le bt k)
theorem maxOf_mem {ns : List Int} (h : 0 < ns.length) : maxOf ns ∈ ns := by
  unfold maxOf
  have := argBest_le (fun i j => decide (ns.getD i 0 > ns.getD j 0)) (ns.length - 1)
  have hlt : argBest (fun i j => decide (ns.getD i 0 > ns.getD j 0)) (ns.length - 1) < ns.length := by omega
  rw [List.getD_eq_getElem?_getD, List.getElem?_eq_getElem hlt]
  exact List.getElem_mem hlt
theorem chG_ok : ∀ c, c < 32 → (∀ k ∈ chG c, k < 5) ∧ (1 ≤ c → 0 < (chG c).length) ∧ (chG c).length ≤ 5 := by decide
theorem ringC_mem {ts : List Int} {c : Nat} (h : c ∈ ringC ts) : 1 ≤ c ∧ c < 32 ∧ mxG ts c = 0 := by
  unfold ringC at h
  obtain ⟨h1, h2⟩ := List.mem_filter.mp h
  obtain ⟨i, hi, rfl⟩ := List.mem_map.mp h1
  rw [List.mem_range] at hi
  exact ⟨by omega, by omega, by simpa using h2⟩
theorem ringL_mem {ts : List Int} {r : List Nat} (h : r ∈ ringL ts) : (∀ k ∈ r, k < 5) ∧ 0 < r.length ∧ r.length ≤ 5 := by
  obtain ⟨c, hc, rfl⟩ := List.mem_map.mp h
  obtain ⟨h1, h2, _⟩ := ringC_mem hc
  obtain ⟨a, b, d⟩ := chG_ok c h2
  exact ⟨a, b h1, d⟩
theorem ringL_length (ts : List Int) : (ringL ts).length ≤ 31 := by
  unfold ringL ringC
  rw [List.length_map]
  exact Nat.le_trans (List.length_filter_le _ _) (by simp)
theorem lastI_ok {line ring : List Nat} (hl : ∀ k, k < 5 → k ∈ line) (hr : ∀ k ∈ ring, k < 5) (h0 : 0 < ring.length) : 0 ≤ lastI line ring ∧ (lastI line ring).toNat < line.length := by
  have := maxOf_mem (ns := ring.map fun (k : Nat) => (((toI line).idxOf (k : Int) : Nat) : Int)) (by rw [List.length_map]; exact h0)
  obtain ⟨k, hk, e⟩ := List.mem_map.mp this
  have hm : (k : Int) ∈ toI line := List.mem_map.mpr ⟨k, hl k (hr k hk), rfl⟩
  have hlt := List.idxOf_lt_length_iff.mpr hm
  rw [List.length_map] at hlt
  unfold lastI
  rw [← e]
  exact ⟨by omega, by rw [Int.toNat_natCast]; exact hlt⟩

def ctxH (C : Addr) (ks ps : List (Int × Int)) (ms ts : List Int) (picks : List Nat) : Ctx :=
  [(S' "rings", .list ((ringL ts).map natsD)), (S' "sums", .list ((smN ps ms 5).map Sum5.D)), (S' "choices", .list ((chN 5).map natsD)), (S' "told", intsD ts), (S' "picks", natsD picks), (S' "comp", .comp C (keysD ks)), (S' "prices", prsD ps)]

section
variable {G : Wrld} {A : Around} {env : Env} {Γ : Ctx} {L : Addr} {qual : Str} {fn : Option Addr} {code : Value} {s₀ s : Shared} {c : Heap} {X O : Addr → Prop} {E : Value → Shared → Prop} {C f fI fS fC fX fM : Addr} {n : Nat}

theorem mx_get {ts : List Int} {c : Nat} (h : c < 32) : ((mxN ts 5).map Dt.int)[c]? = some (.int (mxG ts c)) := by
  have hl : c < (mxN ts 5).length := by rw [mxN_length]; exact h
  rw [List.getElem?_map, List.getElem?_eq_getElem hl]
  simp [mxG, hl]
theorem ch_get {c : Nat} (h : c < 32) : ((chN 5).map natsD)[c]? = some (natsD (chG c)) := by
  have hl : c < (chN 5).length := by rw [chN_length]; exact h
  rw [List.getElem?_map, List.getElem?_eq_getElem hl]
  simp [chG, hl]
theorem sm_get {ps : List (Int × Int)} {ms : List Int} {c : Nat} (h : c < 32) : ((smN ps ms 5).map Sum5.D)[c]? = some (smG ps ms c).D := by
  have hl : c < (smN ps ms 5).length := by rw [smN_length]; exact h
  rw [List.getElem?_map, List.getElem?_eq_getElem hl]
  simp [smG, hl]

set_option maxHeartbeats 4000000 in
theorem seg_h {ks ps : List (Int × Int)} {ds ms ts : List Int} {line picks : List Nat} {Q : Flow → Shared → Prop} (R : Room A (n + 20)) (T : LawG G C f fI fS fC fX fM) (hll : line.length = 5) (hl5 : ∀ k, k < 5 → k ∈ line) (hA : picks = keptL line ts)
    (S : FS G (lenv L qual fn code) (ctxS ps ms ts 5 ++ ctxF C ks ps ds ms ts line picks) [] s₀ c X O s)
    (h : ∀ s', FS G (lenv L qual fn code) (ctxH C ks ps ms ts picks) [] s₀ c X O s' → wpAny G.M A (execs (lawB.drop 25) (lenv L qual fn code)) Q E s') : wpAny G.M A (execs (lawB.drop 22) (lenv L qual fn code)) Q E s := by
  have noΩ : ∀ x : Str, ∀ q ∈ ([] : List (Str × List Dt)), q.1 ≠ x := fun x q hq => nomatch hq
  refine wpAny_execs_cons (S.assignComp (d := .range 1 31) (xs := rangeD 1 31) (fun d => match d with | .int k => mxG ts k.toNat == 0 | _ => false) (fun d => match d with | .int k => natsD (chG k.toNat) | _ => .int 0) R.handled rfl rfl rfl rfl ?_ rfl ⟨by decide, by decide⟩ (by decide) (fun C d hd => ?_) (fun C d hd _ => ?_) fun s₁ S₁ => ?_)
  · exact ev_call T.range (.inr (.inl ⟨_, rfl⟩)) rfl (evAll_cons (ev_int 1 _ _) (evAll_cons (ev_int 32 _ _) evAll_nil)) (call_range2 1 31)
  · obtain ⟨i, hi⟩ := List.getElem?_of_mem hd
    obtain ⟨hi5, rfl⟩ := rangeD_get hi
    refine evTs_one (evt_cmp (cmp_eq _ _) (ev_item (xs := (mxN ts 5).map Dt.int) (ev_name rfl) (ev_name rfl) (by omega) (mx_get (by omega)) (by omega)) (ev_int 0 _ _))
  · obtain ⟨i, hi⟩ := List.getElem?_of_mem hd
    obtain ⟨hi5, rfl⟩ := rangeD_get hi
    exact ev_item (xs := (chN 5).map natsD) (ev_name rfl) (ev_name rfl) (by omega) (ch_get (by omega)) (by omega)
  have er : (((rangeD 1 31).filter (fun d => match d with | .int k => mxG ts k.toNat == 0 | _ => false)).map (fun d => match d with | .int k => natsD (chG k.toNat) | _ => .int 0)) = (ringL ts).map natsD := by
    unfold ringL ringC rangeD
    rw [List.filter_map, List.filter_map, List.map_map, List.map_map, List.map_map]
    have e1 : ∀ i : Nat, (1 + (i : Int)).toNat = 1 + i := fun i => by omega
    refine Eq.trans (List.map_congr_left (g := fun i => natsD (chG (1 + i))) fun i hi => ?_) ?_
    · show natsD (chG (1 + (i : Int)).toNat) = _
      rw [e1]
    · refine congrArg _ (List.filter_congr fun i hi => ?_)
      show (mxG ts (1 + (i : Int)).toNat == 0) = _
      rw [e1]; rfl
  rw [er] at S₁
  have S₁ : FS G (lenv L qual fn code) ((S' "rings", .list ((ringL ts).map natsD)) :: (ctxS ps ms ts 5 ++ ctxF C ks ps ds ms ts line picks)) [] s₀ c X O s₁ := S₁
  refine wpAny_execs_cons (S₁.assign (d := natsD (leftL line ts)) ?_ rfl (noΩ _) rfl fun s₂ S₂ => ?_)
  · have e : natsD (leftL line ts) = .list (((ringL ts).map natsD).map fun d => match d with | .list l => Dt.int ((line.getD (lastI line (l.map fun d => match d with | .int k => k.toNat | _ => 0)).toNat 0 : Nat) : Int) | _ => .int 0) := by
      unfold natsD leftL
      rw [List.map_map, List.map_map]
      congr 1
      refine List.map_congr_left fun r _ => ?_
      show _ = Dt.int ((line.getD (lastI line ((r.map fun (k : Nat) => Dt.int (k : Int)).map fun d => match d with | .int k => k.toNat | _ => 0)).toNat 0 : Nat) : Int)
      rw [List.map_map]
      have : (r.map ((fun d => match d with | .int k => k.toNat | _ => 0) ∘ fun (k : Nat) => Dt.int (k : Int))) = r := by
        refine Eq.trans (List.map_congr_left (g := id) fun k _ => ?_) (List.map_id r)
        show (k : Int).toNat = k
        omega
      rw [this]; rfl
    rw [e]
    refine ev_map _ R.handled rfl rfl (ev_name (d := .list ((ringL ts).map natsD)) rfl) rfl trivial (by rw [List.length_map]; have := ringL_length ts; omega) fun C' d hd => ?_
    obtain ⟨r, hr, rfl⟩ := List.mem_map.mp hd
    obtain ⟨hr5, hr0, hrl⟩ := ringL_mem hr
    have hback : ((r.map fun (k : Nat) => Dt.int (k : Int)).map fun d => match d with | .int k => k.toNat | _ => 0) = r := by
      rw [List.map_map]
      refine Eq.trans (List.map_congr_left (g := id) fun k _ => ?_) (List.map_id r)
      show (k : Int).toNat = k
      omega
    show Ev G A _ _ _ (Dt.int ((line.getD (lastI line ((r.map fun (k : Nat) => Dt.int (k : Int)).map fun d => match d with | .int k => k.toNat | _ => 0)).toNat 0 : Nat) : Int))
    rw [hback]
    obtain ⟨h0, hlt⟩ := lastI_ok hl5 hr5 hr0
    refine ev_item (xs := line.map fun (k : Nat) => Dt.int (k : Int)) (k := lastI line r) (ev_name rfl) ?_ h0 (nats_get hlt) (by omega)
    refine ev_call T.max (.inl ⟨_, rfl⟩) rfl (evAll_cons ?_ evAll_nil) (call_max (n := n) (d := .list ((r.map fun (k : Nat) => (((toI line).idxOf (k : Int) : Nat) : Int)).map .int)) (R.le (by omega)) rfl trivial (by rw [List.length_map]; exact hr0))
    have e2 : Dt.list ((r.map fun (k : Nat) => (((toI line).idxOf (k : Int) : Nat) : Int)).map .int) = .list ((r.map fun (k : Nat) => Dt.int (k : Int)).map fun d => match d with | .int k => Dt.int (((toI line).idxOf k : Nat) : Int) | _ => .int 0) := by
      rw [List.map_map, List.map_map]; rfl
    rw [e2]
    refine ev_map _ R.handled rfl rfl (ev_name (d := natsD r) rfl) rfl trivial (by rw [List.length_map]; omega) fun C'' d hd => ?_
    obtain ⟨k, hk, rfl⟩ := List.mem_map.mp hd
    have hm : (k : Int) ∈ toI line := List.mem_map.mpr ⟨k, hl5 k (hr5 k hk), rfl⟩
    exact ev_meth1 (xs := (toI line).map .int) (d₂ := .int (k : Int)) (ev_name (by show some (natsD line) = _; rw [natsD_toI])) (ev_name rfl) (call_index hm (by rw [List.length_map]; omega)) PySem.F.slot_list_index PySem.F.type_list_index
  have S₂ : FS G (lenv L qual fn code) ((S' "left", natsD (leftL line ts)) :: (S' "rings", .list ((ringL ts).map natsD)) :: (ctxS ps ms ts 5 ++ ctxF C ks ps ds ms ts line picks)) [] s₀ c X O s₂ := S₂
  refine wpAny_execs_cons (S₂.iff (b := !decide (toI picks = toI (keptL line ts))) (evt_cmp (d₁ := .list ((toI picks).map .int)) (d₂ := .list ((toI (keptL line ts)).map .int)) (cmp_ne_ints R.u) (ev_name (by show some (natsD picks) = _; rw [natsD_toI])) ?_) (fun hb s₃ S₃ => ?_) (fun hb s₃ S₃ => ?_))
  · have e : Dt.list ((toI (keptL line ts)).map .int) = .list (((line.map fun (k : Nat) => Dt.int (k : Int)).filter fun d => match d with | .int k => !((toI (leftL line ts)).any (· == k)) | _ => false).map id) := by
      rw [List.map_id, List.filter_map, List.map_map]; rfl
    rw [e]
    refine ev_comp _ _ R.handled rfl rfl (ev_name (d := natsD line) rfl) rfl trivial (by rw [List.length_map]; omega) (fun C' d hd => ?_) (fun C' d hd _ => ev_name rfl)
    obtain ⟨k, hk, rfl⟩ := List.mem_map.mp hd
    exact evTs_one (evt_cmp (cmp_notin (k : Int) (toI (leftL line ts))) (ev_name rfl) (ev_name (by show some (natsD (leftL line ts)) = _; rw [natsD_toI])))
  · rw [hA] at hb; simp at hb
  · refine wpAny_execs_nil (h s₃ (S₃.sub (fun p hp => ?_) fun q hq => hq))
    unfold ctxH at hp
    simp only [List.mem_cons, List.not_mem_nil, or_false] at hp
    show p ∈ (S' "left", natsD (leftL line ts)) :: (S' "rings", .list ((ringL ts).map natsD)) :: ([(S' "sums", .list ((smN ps ms 5).map Sum5.D)), (S' "mixes", intsD (mxN ts 5)), (S' "choices", .list ((chN 5).map natsD))] ++ [(S' "line", natsD line), (S' "told", intsD ts), (S' "picks", natsD picks), (S' "entries", .list (entL ps ms)), (S' "comp", .comp C (keysD ks)), (S' "prices", prsD ps)])
    rcases hp with rfl | rfl | rfl | rfl | rfl | rfl | rfl <;> simp
end
end Mine

/-! ### MyLaw9 -/
namespace Mine

/-! ## best, worth, the comparisons -/
def bmI (picks : List Nat) : Int := (picks.map fun k => (2 : Int) ^ k).sum
def wl (ps : List (Int × Int)) (l : List Nat) : List (Int × Int) := sortOut (0, 0) (fun i j => prLt ((l.map (prI ps)).getD i (0, 0)) ((l.map (prI ps)).getD j (0, 0))) (l.map (prI ps))
def outC (c : Nat) (r : List Nat) : List Nat := r.filter fun k => !((toI (chG c)).any (· == (k : Int)))
def noRing (ts : List Int) (c : Nat) : Bool := ((ringL ts).filter fun r => (outC c r).isEmpty).isEmpty
def dueV (ps : List (Int × Int)) (picks : List Nat) (c : Nat) : Int := if wl ps (chG c) = wl ps picks then 0 else -1
def cmpS5 (ks : List (Int × Int)) (x y : Sum5) : Int := cmpOf ks (colI (x.b, x.c)) (colI (y.b, y.c))
abbrev bestS (ps : List (Int × Int)) (ms : List Int) (picks : List Nat) : Sum5 := smG ps ms (bmI picks).toNat

def ctxI (C : Addr) (ks ps : List (Int × Int)) (ms ts : List Int) (picks : List Nat) : Ctx :=
  (S' "worth", .list ((wl ps picks).map prD)) :: (S' "best", (bestS ps ms picks).D) :: ctxH C ks ps ms ts picks

theorem map_natL (l : List Nat) (g : Nat → Dt) : ((natL l).map fun d => match d with | .int k => g k.toNat | _ => .int 0) = l.map g := by
  rw [List.map_map]
  refine List.map_congr_left fun k _ => ?_
  show g (k : Int).toNat = g k
  rw [Int.toNat_natCast]

section
variable {G : Wrld} {A : Around} {env : Env} {Γ : Ctx} {L : Addr} {qual : Str} {fn : Option Addr} {code : Value} {s₀ s : Shared} {c : Heap} {X O : Addr → Prop} {E : Value → Shared → Prop} {C f fI fS fC fX fM : Addr} {n : Nat}

set_option maxHeartbeats 4000000 in
theorem seg_i {ks ps : List (Int × Int)} {ms ts : List Int} {picks : List Nat} {Q : Flow → Shared → Prop} (R : Room A (n + 20)) (T : LawG G C f fI fS fC fX fM) (hks : ∀ k ∈ ks, k.1 = 1 ∨ k.1 = 2) (hl : ks.length ≤ 10) (hps : ps.length = 5) (hp5 : ∀ k ∈ picks, k < 5) (hp3 : picks.length ≤ 3) (hb0 : 0 ≤ bmI picks) (hb32 : bmI picks < 32)
    (hB : ∀ c, c < 32 → (chG c).length = picks.length → noRing ts c = true → cmpS5 ks (bestS ps ms picks) (smG ps ms c) = dueV ps picks c ∧ cmpS5 ks (smG ps ms c) (bestS ps ms picks) = -dueV ps picks c)
    (S : FS G (lenv L qual fn code) (ctxH C ks ps ms ts picks) [] s₀ c X O s)
    (h : ∀ s', FS G (lenv L qual fn code) (ctxI C ks ps ms ts picks) [] s₀ c X O s' → wpAny G.M A (execs (lawB.drop 28) (lenv L qual fn code)) Q E s') : wpAny G.M A (execs (lawB.drop 25) (lenv L qual fn code)) Q E s := by
  have noΩ : ∀ x : Str, ∀ q ∈ ([] : List (Str × List Dt)), q.1 ≠ x := fun x q hq => nomatch hq
  refine wpAny_execs_cons (S.assign (d := (bestS ps ms picks).D) ?_ rfl (noΩ _) rfl fun s₁ S₁ => ?_)
  · refine ev_item (xs := (smN ps ms 5).map Sum5.D) (k := bmI picks) (ev_name rfl) ?_ hb0 (sm_get (by omega)) (by omega)
    refine ev_call T.sum (.inl ⟨_, rfl⟩) rfl (evAll_cons ?_ evAll_nil) (call_sum (n := n) (d := .list ((picks.map fun k => (2 : Int) ^ k).map .int)) (R.le (by omega)) rfl trivial)
    have e : Dt.list ((picks.map fun k => (2 : Int) ^ k).map .int) = .list ((natL picks).map fun d => match d with | .int k => Dt.int (2 ^ k.toNat) | _ => .int 0) := by
      rw [map_natL picks (fun k => Dt.int (2 ^ k)), List.map_map]; rfl
    rw [e]
    refine ev_map _ R.handled rfl rfl (ev_name (d := natsD picks) rfl) rfl trivial (by rw [List.length_map]; omega) fun C' d hd => ?_
    obtain ⟨k, hk, rfl⟩ := List.mem_map.mp hd
    have := hp5 k hk
    exact ev_bin (bin_pow (a := 2) (b := (k : Int)) (by omega) (by omega) (by decide)) (ev_int 2 _ _) (ev_name rfl)
  have S₁ : FS G (lenv L qual fn code) ((S' "best", (bestS ps ms picks).D) :: ctxH C ks ps ms ts picks) [] s₀ c X O s₁ := S₁
  refine wpAny_execs_cons (S₁.assign (d := .list ((wl ps picks).map prD)) ?_ rfl (noΩ _) rfl fun s₂ S₂ => ?_)
  · refine ev_call T.sorted (.inl ⟨_, rfl⟩) rfl (evAll_cons ?_ evAll_nil) (call_sorted_prs (ps := picks.map (prI ps)) (by rw [List.length_map]; exact hp3))
    have e : Dt.list ((picks.map (prI ps)).map prD) = .list ((natL picks).map fun d => match d with | .int k => prD (prI ps k.toNat) | _ => .int 0) := by
      rw [map_natL picks (fun k => prD (prI ps k)), List.map_map]; rfl
    rw [e]
    refine ev_map _ R.handled rfl rfl (ev_name (d := natsD picks) rfl) rfl trivial (by rw [List.length_map]; omega) fun C' d hd => ?_
    obtain ⟨k, hk, rfl⟩ := List.mem_map.mp hd
    have := hp5 k hk
    exact ev_item (xs := ps.map prD) (k := (k : Int)) (ev_name rfl) (ev_name rfl) (by omega) (by rw [Int.toNat_natCast]; exact prs_get (by omega)) (by omega)
  have S₂ : FS G (lenv L qual fn code) (ctxI C ks ps ms ts picks) [] s₀ c X O s₂ := S₂
  refine wpAny_execs_cons ?_
  refine S₂.forName (d := .range 0 32) (xs := rangeD 0 32) R.handled (ev_call T.range (.inr (.inl ⟨_, rfl⟩)) rfl (evAll_cons (ev_int 32 _ _) evAll_nil) (call_range1 32)) rfl ⟨by decide, by decide⟩ rfl (fun i => ctxI C ks ps ms ts picks) (fun i => []) (fun p hp => hp) (fun q hq => hq) (fun i q hq => nomatch hq) (fun i d c' X' s₃ hd S₃ hX => ?_) (fun s₃ S₃ => h s₃ S₃)
  obtain ⟨hi, rfl⟩ := rangeD_get hd
  have e0 : (0 + (i : Int)) = (i : Int) := by omega
  rw [e0] at S₃
  have S₃ : FS G (lenv L qual fn code) ((S' "c", .int (i : Int)) :: ctxI C ks ps ms ts picks) [] s₀ c' X' O s₃ := S₃
  have hch : ((chN 5).map natsD)[(i : Int).toNat]? = some (natsD (chG i)) := by rw [Int.toNat_natCast]; exact ch_get hi
  have hsm : ((smN ps ms 5).map Sum5.D)[(i : Int).toNat]? = some (smG ps ms i).D := by rw [Int.toNat_natCast]; exact sm_get hi
  have hcl := (chG_ok i hi).2.2
  have hc5 := (chG_ok i hi).1
  have back : ∀ s', FS G (lenv L qual fn code) ((S' "c", .int (i : Int)) :: ctxI C ks ps ms ts picks) [] s₀ c' X' O s' → FS G (lenv L qual fn code) (ctxI C ks ps ms ts picks) [] s₀ c' X' O s' := fun s' S' => S'.sub (fun p hp => List.mem_cons_of_mem _ hp) fun q hq => hq
  refine wpAny_execs_cons (S₃.iff (b := (((chG i).length : Int) == (picks.length : Int))) ?_ (fun hb s₄ S₄ => ?_) (fun hb s₄ S₄ => wpAny_execs_nil (wpAny_execs_nil (back _ S₄))))
  · refine evt_cmp (cmp_eq _ _) (ev_call T.len (.inl ⟨_, rfl⟩) rfl (evAll_cons (ev_item (xs := (chN 5).map natsD) (k := (i : Int)) (ev_name rfl) (ev_name rfl) (by omega) hch (by omega)) evAll_nil) ?_) (ev_call T.len (.inl ⟨_, rfl⟩) rfl (evAll_cons (ev_name (d := natsD picks) rfl) evAll_nil) ?_)
    · have := call_len (G := G) (A := A) (xs := natL (chG i)) (by rw [List.length_map]; omega)
      rw [List.length_map] at this; exact this
    · have := call_len (G := G) (A := A) (xs := natL picks) (by rw [List.length_map]; omega)
      rw [List.length_map] at this; exact this
  have hlen : (chG i).length = picks.length := by have := eq_of_beq hb; omega
  refine wpAny_execs_cons (S₄.iff (b := noRing ts i) ?_ (fun hb2 s₅ S₅ => ?_) (fun hb2 s₅ S₅ => wpAny_execs_nil (wpAny_execs_nil (wpAny_execs_nil (back _ S₅)))))
  · have e : noRing ts i = ((((ringL ts).map natsD).filter fun d => match d with | .list l => ((l.filter fun d => match d with | .int k => !((toI (chG i)).any (· == k)) | _ => false).map id).isEmpty | _ => false).map id).isEmpty := by
      unfold noRing
      rw [List.map_id, List.filter_map]
      have ef : ∀ r : List Nat, (outC i r).isEmpty = ((((r.map fun (k : Nat) => Dt.int (k : Int)).filter fun d => match d with | .int k => !((toI (chG i)).any (· == k)) | _ => false).map id).isEmpty) := fun r => by
        rw [List.map_id, List.filter_map]
        unfold outC
        have : ((fun d => match d with | Dt.int k => !((toI (chG i)).any (· == k)) | _ => false) ∘ fun (k : Nat) => Dt.int (k : Int)) = fun (k : Nat) => !((toI (chG i)).any (· == (k : Int))) := rfl
        rw [this]
        cases r.filter fun (k : Nat) => !((toI (chG i)).any (· == (k : Int))) <;> rfl
      have : ((ringL ts).filter fun r => (outC i r).isEmpty) = (ringL ts).filter ((fun d => match d with | .list l => ((l.filter fun d => match d with | .int k => !((toI (chG i)).any (· == k)) | _ => false).map id).isEmpty | _ => false) ∘ natsD) :=
        List.filter_congr fun r _ => ef r
      rw [this]
      cases (ringL ts).filter ((fun d => match d with | .list l => ((l.filter fun d => match d with | .int k => !((toI (chG i)).any (· == k)) | _ => false).map id).isEmpty | _ => false) ∘ natsD) <;> rfl
    rw [e]
    refine evt_cmp (cmp_eq_nil R.u) (ev_comp _ id R.handled rfl rfl (ev_name (d := .list ((ringL ts).map natsD)) rfl) rfl trivial (by rw [List.length_map]; have := ringL_length ts; omega) (fun C' d hd => ?_) (fun C' d hd _ => ev_name rfl)) (ev_list evAll_nil)
    obtain ⟨r, hr, rfl⟩ := List.mem_map.mp hd
    have hrl := (ringL_mem hr).2.2
    refine evTs_one (evt_cmp (cmp_eq_nil R.u) (ev_comp (xs := natL r) _ id R.handled rfl rfl (ev_name (d := natsD r) rfl) rfl trivial (by rw [List.length_map]; omega) (fun C'' d hd => ?_) (fun C'' d hd _ => ev_name rfl)) (ev_list evAll_nil))
    obtain ⟨k, hk, rfl⟩ := List.mem_map.mp hd
    refine evTs_one (evt_cmp (cmp_notin (k : Int) (toI (chG i))) (ev_name rfl) (ev_item (xs := (chN 5).map natsD) (k := (i : Int)) (ev_name rfl) (ev_name rfl) (by omega) ?_ (by omega)))
    rw [hch, natsD_toI]
  obtain ⟨hB1, hB2⟩ := hB i hi hlen hb2
  have hdue : dueV ps picks i = 0 ∨ dueV ps picks i = -1 := by unfold dueV; split <;> simp
  refine wpAny_execs_cons (S₅.assign (d := .int (dueV ps picks i)) ?_ rfl (noΩ _) rfl fun s₆ S₆ => ?_)
  · refine ev_ifexp (b := decide (wl ps (chG i) = wl ps picks)) (evt_cmp (cmp_eq_prs R.u) (ev_call T.sorted (.inl ⟨_, rfl⟩) rfl (evAll_cons ?_ evAll_nil) (call_sorted_prs (ps := (chG i).map (prI ps)) (by rw [List.length_map]; omega))) (ev_name rfl)) (fun hb3 => ?_) (fun hb3 => ?_)
    · have e : Dt.list (((chG i).map (prI ps)).map prD) = .list ((natL (chG i)).map fun d => match d with | .int k => prD (prI ps k.toNat) | _ => .int 0) := by
        rw [map_natL (chG i) (fun k => prD (prI ps k)), List.map_map]; rfl
      rw [e]
      refine ev_map _ R.handled rfl rfl (d := natsD (chG i)) (ev_item (xs := (chN 5).map natsD) (k := (i : Int)) (ev_name rfl) (ev_name rfl) (by omega) hch (by omega)) rfl trivial (by rw [List.length_map]; omega) fun C' d hd => ?_
      obtain ⟨k, hk, rfl⟩ := List.mem_map.mp hd
      have := hc5 k hk
      exact ev_item (xs := ps.map prD) (k := (k : Int)) (ev_name rfl) (ev_name rfl) (by omega) (by rw [Int.toNat_natCast]; exact prs_get (by omega)) (by omega)
    · have : dueV ps picks i = 0 := by unfold dueV; rw [if_pos (of_decide_eq_true hb3)]
      rw [this]; exact ev_int 0 _ _
    · have : dueV ps picks i = -1 := by unfold dueV; rw [if_neg (of_decide_eq_false hb3)]
      rw [this]; exact ev_neg (ev_int 1 _ _)
  have S₆ : FS G (lenv L qual fn code) ((S' "due", .int (dueV ps picks i)) :: (S' "c", .int (i : Int)) :: ctxI C ks ps ms ts picks) [] s₀ c' X' O s₆ := S₆
  have hstr : ∀ a : Int, a = 0 ∨ a = -1 ∨ a = 1 → CallIs G A (.type "str") [.int a] (.str (toString a)) := fun a ha => call_str (by rcases ha with rfl | rfl | rfl <;> decide)
  refine wpAny_execs_cons (S₆.iff (b := (!((toString (dueV ps picks i) : Str) == (toString (dueV ps picks i) : Str))) || (!((toString (-dueV ps picks i) : Str) == (toString (-dueV ps picks i) : Str)))) (evt_or ?_ fun _ => ?_) (fun hb3 s₇ S₇ => ?_) (fun hb3 s₇ S₇ => ?_))
  · refine evt_cmp (cmp_ne_str _ _) (ev_call T.str (.inr (.inl ⟨_, rfl⟩)) rfl (evAll_cons (d := .int (dueV ps picks i)) ?_ evAll_nil) (hstr _ (by omega))) (ev_call T.str (.inr (.inl ⟨_, rfl⟩)) rfl (evAll_cons (ev_name rfl) evAll_nil) (hstr _ (by omega)))
    rw [← hB1]
    exact ev_compare T.clsOk (ev_name rfl) (evAll_cons (ev_name (d := (bestS ps ms picks).D) rfl) (evAll_cons (ev_item (xs := (smN ps ms 5).map Sum5.D) (k := (i : Int)) (d := (smG ps ms i).D) (ev_name rfl) (ev_name rfl) (by omega) hsm (by omega)) evAll_nil)) (cmp_stats (n := n) (R.le (by omega)) T hks hl)
  · refine evt_cmp (cmp_ne_str _ _) (ev_call T.str (.inr (.inl ⟨_, rfl⟩)) rfl (evAll_cons (d := .int (-dueV ps picks i)) ?_ evAll_nil) (hstr _ (by omega))) (ev_call T.str (.inr (.inl ⟨_, rfl⟩)) rfl (evAll_cons (ev_neg (ev_name rfl)) evAll_nil) (hstr _ (by omega)))
    rw [← hB2]
    exact ev_compare T.clsOk (ev_name rfl) (evAll_cons (ev_item (xs := (smN ps ms 5).map Sum5.D) (k := (i : Int)) (d := (smG ps ms i).D) (ev_name rfl) (ev_name rfl) (by omega) hsm (by omega)) (evAll_cons (ev_name (d := (bestS ps ms picks).D) rfl) evAll_nil)) (cmp_stats (n := n) (R.le (by omega)) T hks hl)
  · simp at hb3
  · exact wpAny_execs_nil (wpAny_execs_nil (wpAny_execs_nil (wpAny_execs_nil (back _ (S₇.sub (fun p hp => List.mem_cons_of_mem _ hp) fun q hq => hq)))))
end
end Mine

/-! ### MyLaw10 -/
namespace Mine

/-! ## the end -/
def lowI (ps : List (Int × Int)) (l : List Nat) : Int := (l.map fun k => (prI ps k).1).sum
def highI (ps : List (Int × Int)) (l : List Nat) : Int := (l.map fun k => (prI ps k).2).sum
def onesD (ts : List Int) (picks : List Nat) : List (Int × Int) := dFold (fun d => match d with | .int k => mkI ts k.toNat | _ => 0) (fun _ => 1) (natL picks)
def tableD (ts : List Int) : List (Int × Int) := dFold (fun d => match d with | .int k => k | _ => 0) (fun d => match d with | .int k => (ts.count k : Nat) | _ => 0) (ts.map .int)
def Sum5.eq (x : Sum5) (a b c d : Int) (kv : List (Int × Int)) : Bool := statEq x.a x.b x.c x.d x.kv a b c d kv

section
variable {G : Wrld} {A : Around} {env : Env} {Γ : Ctx} {L : Addr} {qual : Str} {fn : Option Addr} {code : Value} {s₀ s : Shared} {c : Heap} {X O : Addr → Prop} {E : Value → Shared → Prop} {C f fI fS fC fX fM : Addr} {n : Nat}

set_option maxHeartbeats 4000000 in
theorem seg_j {ks ps : List (Int × Int)} {ms ts : List Int} {picks : List Nat} {Q : Flow → Shared → Prop} (R : Room A (n + 20)) (T : LawG G C f fI fS fC fX fM) (hps : ps.length = 5) (hts : ts.length = 5) (hp5 : ∀ k ∈ picks, k < 5) (hp3 : picks.length ≤ 3)
    (hC : (bestS ps ms picks).eq (picks.length : Nat) (lowI ps picks) (highI ps picks) (bmI picks) (onesD ts picks) = true)
    (hD : (smG ps ms 31).eq 5 (ps.map (·.1)).sum (ps.map (·.2)).sum 31 (tableD ts) = true)
    (S : FS G (lenv L qual fn code) (ctxI C ks ps ms ts picks) [] s₀ c X O s)
    (h : ∀ v s', Keeps s₀ s' → Rep (fz s'.heap X) v (.bool true) → Q (.ret v) s') : wpAny G.M A (execs (lawB.drop 28) (lenv L qual fn code)) Q E s := by
  have noΩ : ∀ x : Str, ∀ q ∈ ([] : List (Str × List Dt)), q.1 ≠ x := fun x q hq => nomatch hq
  refine wpAny_execs_cons (S.assign (d := .int (lowI ps picks)) ?_ rfl (noΩ _) rfl fun s₁ S₁ => ?_)
  · refine ev_call T.sum (.inl ⟨_, rfl⟩) rfl (evAll_cons ?_ evAll_nil) (call_sum (n := n) (d := .list ((picks.map fun k => (prI ps k).1).map .int)) (R.le (by omega)) rfl trivial)
    have e : Dt.list ((picks.map fun k => (prI ps k).1).map .int) = .list ((natL picks).map fun d => match d with | .int k => Dt.int (prI ps k.toNat).1 | _ => .int 0) := by
      rw [List.map_map, List.map_map]
      refine congrArg _ (List.map_congr_left fun k _ => ?_)
      show Dt.int (prI ps k).1 = Dt.int (prI ps (k : Int).toNat).1
      rw [Int.toNat_natCast]
    rw [e]
    refine ev_map _ R.handled rfl rfl (ev_name (d := natsD picks) rfl) rfl trivial (by rw [List.length_map]; omega) fun C' d hd => ?_
    obtain ⟨k, hk, rfl⟩ := List.mem_map.mp hd
    have := hp5 k hk
    have hpi : (ps.map prD)[(k : Int).toNat]? = some (prD (prI ps (k : Int).toNat)) := by rw [Int.toNat_natCast]; exact prs_get (by omega)
    exact ev_titem (xs := [.int (prI ps (k : Int).toNat).1, .int (prI ps (k : Int).toNat).2]) (ev_item (xs := ps.map prD) (k := (k : Int)) (ev_name rfl) (ev_name rfl) (by omega) hpi (by omega)) (ev_int 0 _ _) (by decide) rfl (by decide)
  have S₁ : FS G (lenv L qual fn code) ((S' "low", .int (lowI ps picks)) :: ctxI C ks ps ms ts picks) [] s₀ c X O s₁ := S₁
  refine wpAny_execs_cons (S₁.assign (d := .int (highI ps picks)) ?_ rfl (noΩ _) rfl fun s₂ S₂ => ?_)
  · refine ev_call T.sum (.inl ⟨_, rfl⟩) rfl (evAll_cons ?_ evAll_nil) (call_sum (n := n) (d := .list ((picks.map fun k => (prI ps k).2).map .int)) (R.le (by omega)) rfl trivial)
    have e : Dt.list ((picks.map fun k => (prI ps k).2).map .int) = .list ((natL picks).map fun d => match d with | .int k => Dt.int (prI ps k.toNat).2 | _ => .int 0) := by
      rw [List.map_map, List.map_map]
      refine congrArg _ (List.map_congr_left fun k _ => ?_)
      show Dt.int (prI ps k).2 = Dt.int (prI ps (k : Int).toNat).2
      rw [Int.toNat_natCast]
    rw [e]
    refine ev_map _ R.handled rfl rfl (ev_name (d := natsD picks) rfl) rfl trivial (by rw [List.length_map]; omega) fun C' d hd => ?_
    obtain ⟨k, hk, rfl⟩ := List.mem_map.mp hd
    have := hp5 k hk
    have hpi : (ps.map prD)[(k : Int).toNat]? = some (prD (prI ps (k : Int).toNat)) := by rw [Int.toNat_natCast]; exact prs_get (by omega)
    exact ev_titem (xs := [.int (prI ps (k : Int).toNat).1, .int (prI ps (k : Int).toNat).2]) (ev_item (xs := ps.map prD) (k := (k : Int)) (ev_name rfl) (ev_name rfl) (by omega) hpi (by omega)) (ev_int 1 _ _) (by decide) rfl (by decide)
  have S₂ : FS G (lenv L qual fn code) ((S' "high", .int (highI ps picks)) :: (S' "low", .int (lowI ps picks)) :: ctxI C ks ps ms ts picks) [] s₀ c X O s₂ := S₂
  refine wpAny_execs_cons (S₂.iff (b := !((bestS ps ms picks).eq (picks.length : Nat) (lowI ps picks) (highI ps picks) (bmI picks) (onesD ts picks))) (evt_cmp (d₂ := statD (picks.length : Nat) (lowI ps picks) (highI ps picks) (bmI picks) (onesD ts picks)) (cmp_ne_stat R.u) (ev_name rfl) ?_) (fun hb s₃ S₃ => ?_) (fun hb s₃ S₃ => ?_))
  · refine ev_tup (evAll_cons ?_ (evAll_cons (ev_name rfl) (evAll_cons (ev_name rfl) (evAll_cons ?_ (evAll_cons ?_ evAll_nil)))))
    · have := call_len (G := G) (A := A) (xs := natL picks) (by rw [List.length_map]; omega)
      rw [List.length_map] at this
      exact ev_call T.len (.inl ⟨_, rfl⟩) rfl (evAll_cons (ev_name (d := natsD picks) rfl) evAll_nil) this
    · refine ev_call T.sum (.inl ⟨_, rfl⟩) rfl (evAll_cons ?_ evAll_nil) (call_sum (n := n) (d := .list ((picks.map fun k => (2 : Int) ^ k).map .int)) (R.le (by omega)) rfl trivial)
      have e : Dt.list ((picks.map fun k => (2 : Int) ^ k).map .int) = .list ((natL picks).map fun d => match d with | .int k => Dt.int (2 ^ k.toNat) | _ => .int 0) := by
        rw [List.map_map, List.map_map]
        refine congrArg _ (List.map_congr_left fun k _ => ?_)
        show Dt.int (2 ^ k) = Dt.int (2 ^ (k : Int).toNat)
        rw [Int.toNat_natCast]
      rw [e]
      refine ev_map _ R.handled rfl rfl (ev_name (d := natsD picks) rfl) rfl trivial (by rw [List.length_map]; omega) fun C' d hd => ?_
      obtain ⟨k, hk, rfl⟩ := List.mem_map.mp hd
      have := hp5 k hk
      exact ev_bin (bin_pow (a := 2) (b := (k : Int)) (by omega) (by omega) (by decide)) (ev_int 2 _ _) (ev_name rfl)
    · refine ev_dcomp _ _ R.handled rfl rfl (ev_name (d := natsD picks) rfl) rfl trivial (by rw [List.length_map]; omega) (fun C' d hd => ?_) (fun C' d hd => ev_int 1 _ _)
      obtain ⟨k, hk, rfl⟩ := List.mem_map.mp hd
      have := hp5 k hk
      exact ev_item (xs := ts.map Dt.int) (k := (k : Int)) (ev_name rfl) (ev_name rfl) (by omega) (ints_get (by omega)) (by omega)
  · rw [hC] at hb; cases hb
  refine wpAny_execs_nil (wpAny_execs_cons (S₃.assignDComp (fun d => match d with | .int k => k | _ => 0) (fun d => match d with | .int k => (ts.count k : Nat) | _ => 0) R.handled rfl rfl rfl rfl (ev_name (d := intsD ts) rfl) rfl trivial (by rw [List.length_map]; omega) (fun C' d hd => ?_) (fun C' d hd => ?_) fun s₄ S₄ => ?_))
  · obtain ⟨k, hk, rfl⟩ := List.mem_map.mp hd
    exact ev_name rfl
  · obtain ⟨k, hk, rfl⟩ := List.mem_map.mp hd
    exact ev_meth1 (xs := ts.map .int) (d₂ := .int k) (ev_name rfl) (ev_name rfl) (call_count ts k) PySem.F.slot_list_count PySem.F.type_list_count
  have S₄ : FS G (lenv L qual fn code) ((S' "table", .dict (tableD ts)) :: (S' "high", .int (highI ps picks)) :: (S' "low", .int (lowI ps picks)) :: ctxI C ks ps ms ts picks) [] s₀ c X O s₄ := S₄
  refine wpAny_execs_cons (S₄.ret (d := .bool true) ?_ fun v s₅ k r => h v s₅ k r)
  rw [← hD]
  refine ev_cmp (d₂ := statD 5 (ps.map (·.1)).sum (ps.map (·.2)).sum 31 (tableD ts)) (cmp_eq_stat R.u) (ev_item (xs := (smN ps ms 5).map Sum5.D) (k := 31) (d := (smG ps ms 31).D) (ev_name rfl) (ev_int 31 _ _) (by decide) (sm_get (by decide)) (by decide)) ?_
  refine ev_tup (evAll_cons (ev_int 5 _ _) (evAll_cons ?_ (evAll_cons ?_ (evAll_cons (ev_int 31 _ _) (evAll_cons (ev_name rfl) evAll_nil)))))
  · refine ev_call T.sum (.inl ⟨_, rfl⟩) rfl (evAll_cons ?_ evAll_nil) (call_sum (n := n) (d := .list ((ps.map (·.1)).map .int)) (R.le (by omega)) rfl trivial)
    have e : Dt.list ((ps.map (·.1)).map .int) = .list ((ps.map prD).map fun d => match d with | .tup [.int a, _] => Dt.int a | _ => .int 0) := by
      rw [List.map_map, List.map_map]; rfl
    rw [e]
    refine ev_map _ R.handled rfl rfl (ev_name (d := prsD ps) rfl) rfl trivial (by rw [List.length_map]; omega) fun C' d hd => ?_
    obtain ⟨p, hp, rfl⟩ := List.mem_map.mp hd
    exact ev_titem (xs := [.int p.1, .int p.2]) (ev_name rfl) (ev_int 0 _ _) (by decide) rfl (by decide)
  · refine ev_call T.sum (.inl ⟨_, rfl⟩) rfl (evAll_cons ?_ evAll_nil) (call_sum (n := n) (d := .list ((ps.map (·.2)).map .int)) (R.le (by omega)) rfl trivial)
    have e : Dt.list ((ps.map (·.2)).map .int) = .list ((ps.map prD).map fun d => match d with | .tup [_, .int a] => Dt.int a | _ => .int 0) := by
      rw [List.map_map, List.map_map]; rfl
    rw [e]
    refine ev_map _ R.handled rfl rfl (ev_name (d := prsD ps) rfl) rfl trivial (by rw [List.length_map]; omega) fun C' d hd => ?_
    obtain ⟨p, hp, rfl⟩ := List.mem_map.mp hd
    exact ev_titem (xs := [.int p.1, .int p.2]) (ev_name rfl) (ev_int 1 _ _) (by decide) rfl (by decide)
end
end Mine

/-! ### MyLaw11 -/
namespace Mine

/-! ## the law's call -/
/-- what is left to be shown of the numbers -/
structure PlainOk (ks ps : List (Int × Int)) (ms ts : List Int) (picks : List Nat) : Prop where
  hA : picks = keptL (lineL ks ps) ts
  hl5 : ∀ k, k < 5 → k ∈ lineL ks ps
  hp3 : picks.length ≤ 3
  hb0 : 0 ≤ bmI picks
  hb32 : bmI picks < 32
  hB : ∀ c, c < 32 → (chG c).length = picks.length → noRing ts c = true → cmpS5 ks (bestS ps ms picks) (smG ps ms c) = dueV ps picks c ∧ cmpS5 ks (smG ps ms c) (bestS ps ms picks) = -dueV ps picks c
  hC : (bestS ps ms picks).eq (picks.length : Nat) (lowI ps picks) (highI ps picks) (bmI picks) (onesD ts picks) = true
  hD : (smG ps ms 31).eq 5 (ps.map (·.1)).sum (ps.map (·.2)).sum 31 (tableD ts) = true

theorem keysL_ok (t : Int) : (∀ k ∈ keysL t, k.1 = 1 ∨ k.1 = 2) ∧ (∀ k ∈ keysL t, k.2 = 1 ∨ k.2 = -1) ∧ (keysL t).length = 2 := by
  have h : ∀ a : Int, 1 - 2 * a.fmod 2 = 1 ∨ 1 - 2 * a.fmod 2 = -1 := fun a => by
    rw [Int.fmod_eq_emod_of_nonneg _ (by decide)]; omega
  unfold keysL
  split
  · refine ⟨fun k hk => ?_, fun k hk => ?_, rfl⟩ <;> simp only [List.mem_cons, List.not_mem_nil, or_false] at hk <;> rcases hk with rfl | rfl
    · exact .inl rfl
    · exact .inr rfl
    · exact h _
    · exact h _
  · refine ⟨fun k hk => ?_, fun k hk => ?_, rfl⟩ <;> simp only [List.mem_cons, List.not_mem_nil, or_false] at hk <;> rcases hk with rfl | rfl
    · exact .inr rfl
    · exact .inl rfl
    · exact h _
    · exact h _

abbrev lawEnv (fd : FuncData) (L a : Addr) : Env := callEnvC fd L a

section
variable {G : Wrld} {A : Around} {C f fI fS fC fX fM : Addr} {n : Nat}

set_option maxHeartbeats 4000000 in
theorem law_body {L : Addr} {qual : Str} {fn : Option Addr} {code : Value} {s₀ s : Shared} {c : Heap} {X O : Addr → Prop} {E : Value → Shared → Prop} {ns : List Int} {Q : Flow → Shared → Prop} (R : Room A (n + 20)) (T : LawG G C f fI fS fC fX fM) (hn : ns.length ≤ 63)
    (P : PlainOk (keysL ns.sum) ((drawnL ns).map priceN) ((drawnL ns).map markN) ((drawnL ns).map toldN) (pkN ((drawnL ns).map markN) (rowL (keysL ns.sum) ((drawnL ns).map priceN))).1)
    (S : FS G (lenv L qual fn code) [(S' "script", .numl ns)] [] s₀ c X O s)
    (h : ∀ v s', Keeps s₀ s' → Rep (fz s'.heap X) v (.bool true) → Q (.ret v) s') : wpAny G.M A (execs lawB (lenv L qual fn code)) Q E s := by
  obtain ⟨ks, hks⟩ : ∃ ks, ks = keysL ns.sum := ⟨_, rfl⟩
  obtain ⟨k1, k2, k3⟩ := keysL_ok ns.sum
  rw [← hks] at P k1 k2 k3
  have hd5 : (drawnL ns).length = 5 := by simp [drawnL]
  refine seg_a (n := n) R T hn S fun s₁ S₁ => seg_b (n := n) R T S₁ fun c₂ O₂ s₂ S₂ => ?_
  have S₂ : FS G (lenv L qual fn code) (ctxG C ks ((drawnL ns).map priceN) (drawnL ns) ((drawnL ns).map markN)) [] s₀ c₂ X O₂ s₂ := by
    refine S₂.sub (fun p hp => ?_) fun q hq => hq
    rw [hks] at hp
    unfold ctxG at hp
    simp only [List.mem_cons, List.not_mem_nil, or_false] at hp
    unfold ctxB ctxA
    rcases hp with rfl | rfl | rfl | rfl | rfl <;> simp
  obtain ⟨ps, hps⟩ : ∃ ps, ps = (drawnL ns).map priceN := ⟨_, rfl⟩
  obtain ⟨ms, hms⟩ : ∃ ms, ms = (drawnL ns).map markN := ⟨_, rfl⟩
  obtain ⟨ds, hds⟩ : ∃ ds, ds = drawnL ns := ⟨_, rfl⟩
  rw [← hps, ← hms, ← hds] at P S₂
  rw [← hds] at hd5
  have hp5 : ps.length = 5 := by rw [hps, List.length_map, ← hds, hd5]
  have hm5 : ms.length = 5 := by rw [hms, List.length_map, ← hds, hd5]
  obtain ⟨row, hrow⟩ : ∃ row, row = rowL ks ps := ⟨_, rfl⟩
  have hr5 : ∀ k ∈ row, k < 5 := by rw [hrow]; exact rowN_lt _ 5
  have hrl : row.length = 5 := by rw [hrow]; exact rowN_length _ 5
  have ht5 : (ds.map toldN).length = 5 := by rw [List.length_map, hd5]
  have hk5 : ∀ k ∈ (pkN ms row).1, k < 5 := fun k hk => hr5 k (pkN_mem ms row k hk)
  refine seg_c (n := n) R T hp5 hm5 S₂ fun s₃ S₃ => seg_d (n := n) R T k1 (by omega) S₃ fun c₄ O₄ s₄ S₄ => ?_
  unfold ctxD at S₄
  rw [← hrow] at P S₄
  refine seg_e (n := n) R T hm5 hr5 hrl S₄ fun c₅ O₅ s₅ S₅ => seg_f (n := n) R T (by omega) hp5 k1 k2 k3 S₅ fun s₆ S₆ => ?_
  refine seg_g (n := n) R T ht5 S₆ fun s₇ S₇ => seg_h (n := n) R T (lineL_length ks ps) P.hl5 P.hA S₇ fun s₈ S₈ => ?_
  refine seg_i (n := n) R T k1 (by omega) hp5 hk5 P.hp3 P.hb0 P.hb32 P.hB S₈ fun s₉ S₉ => ?_
  exact seg_j (n := n) R T hp5 ht5 hk5 P.hp3 P.hC P.hD S₉ h

set_option maxHeartbeats 4000000 in
theorem law_call {s : Shared} {E Q : Value → Shared → Prop} {fa xs : Addr} {o : Obj} {fd : FuncData} {vs : List Value} {ns : List Int} (R : Room A (n + 21)) (T : LawG G C f fI fS fC fX fM) (ok : G.Ok s.heap)
    (ho : s.heap.get? fa = some o) (hd : o.data = .func fd) (hcd : s.heap.CodeRec fd.code fd.qualname) (hbody : fd.body = .stmts lawB) (hsc : fd.scope = scopeOf lawS) (hclo : fd.closure = []) (hgl : fd.globals = mainGlobals) (hbl : fd.builtins = builtinsNs)
    (hbind : ∀ v, bindArgs fd ⟨[v], []⟩ = pure [(S' "script", v)]) (hl : s.heap.IsList xs vs.toArray) (hi : IntsAre vs ns) (hn : ns.length ≤ 63)
    (P : PlainOk (keysL ns.sum) ((drawnL ns).map priceN) ((drawnL ns).map markN) ((drawnL ns).map toldN) (pkN ((drawnL ns).map markN) (rowL (keysL ns.sum) ((drawnL ns).map priceN))).1)
    (h : ∀ s', Keeps s s' → Q (.bool true) s') : wpAny G.M A (call (.ref fa) [.ref xs]) Q E s := by
  have hkd : fd.scope.kind = .function := by rw [hsc]; rfl
  refine wpAny_call (codeAny_call_cells R.lim ho hd ok.nolim hcd hbody (hbind _) hclo (fun x hx => ?_) (fun s₁ x => ?_) (by rw [hsc]; rfl) (by rw [hsc]; rfl) hkd)
  · rw [List.mem_singleton] at hx; subst hx
    rw [hsc]
    exact .inr ⟨rfl, rfl⟩
  have he : callEnvC fd s.heap.objs.size fa = lenv s.heap.objs.size (fd.qualname ++ ".<locals>.") (some fa) fd.code := by
    unfold callEnvC lenv; rw [hsc, hgl, hbl]
  rw [he] at x ⊢
  obtain ⟨L, hL⟩ : ∃ L, L = s.heap.objs.size := ⟨_, rfl⟩
  rw [← hL] at x ⊢
  have hloc : (lenv L (fd.qualname ++ ".<locals>.") (some fa) fd.code).locals = L := rfl
  have hkeep : HLe s.heap s₁.heap := x.toInCall.keep
  have hKp : Keeps s s₁ := by obtain ⟨h', tk, e⟩ := x.toInCall.same; rw [e] at hkeep ⊢; exact ⟨h', tk, rfl, hkeep⟩
  let O : Addr → Prop := fun a => L ≤ a ∧ ∃ o, s₁.heap.get? a = some o
  have hfr : ∀ a, L ≤ a → s.heap.get? a = none := fun a ha => by
    cases e : s.heap.get? a with
    | none => rfl
    | some o => exact absurd (Heap.lt_size e) (Nat.not_lt.mpr (hL ▸ ha))
  have hcs : ∀ y c, (lenv L (fd.qualname ++ ".<locals>.") (some fa) fd.code).cells.lookup y = some c → L < c := fun y c e => x.above y c (mem_of_lookup e)
  have hobj : ∀ {a w}, s₁.heap.IsCell a w → ∃ o, s₁.heap.get? a = some o := fun hc => by obtain ⟨o, ho, _⟩ := hc; exact ⟨o, ho⟩
  refine law_body (s₀ := s) (c := s.heap) (X := fun _ => False) (O := O) (n := n) (ns := ns) ⟨R.handled, by have := R.depth; show A.depth + 1 + (n + 20) ≤ 900; omega, by have := R.units; show A.units + 3 + 100 + 100 * (n + 20) ≤ 9000; omega⟩ T hn P ⟨ok, hKp, ⟨ok.up hkeep, ⟨rfl, rfl, rfl⟩, fun a ha => ?_, fun p hp => ?_⟩, fun a ha => hfr a ha.1, ⟨Nat.le_refl _, ?_⟩, ⟨_, x.toInCall.ns⟩, fun y c e => ⟨⟨Nat.le_of_lt (hcs y c e), hobj (x.cell y c e)⟩, ?_, _, x.cell y c e⟩, fun y y' c e e' => ?_, fun q hq => (nomatch hq), fun b o _ e => hkeep b o e⟩ fun v s' k r => ?_
  · rcases ha with ha | ha
    · exact ha.elim
    · exact ha.2
  · rw [List.mem_singleton] at hp; subst hp
    obtain ⟨ol, hol, hcl, nn, hdl⟩ := hl
    refine ⟨.ref xs, .inr ⟨.inl rfl, L + 1, rfl, ?_⟩, .numl ⟨hkeep _ _ hol, ?_⟩ hcl hdl hi⟩
    · exact x.cell (S' "script") (L + 1) rfl
    · rintro (hx | hx)
      · exact hx
      · exact absurd (Heap.lt_size hol) (Nat.not_lt.mpr (hL ▸ hx.1))
  · obtain ⟨o, _, _, ho, _⟩ := x.toInCall.ns; exact ⟨o, ho⟩
  · show c ≠ L
    exact Nat.ne_of_gt (hcs y c e)
  · by_cases hne : y = y'
    · exact hne
    · exact name_of_addr x.apart (mem_of_lookup e) (mem_of_lookup e')
  · cases r
    exact h s' k
end
end Mine

/-! ### PL1 -/
namespace Mine

/-! ## exclusive or of ints that are not negative -/
theorem or_eq_xor_add_and (a : Nat) : ∀ b, (a ||| b) = (a ^^^ b) + (a &&& b) := by
  induction a using Nat.strongRecOn with
  | _ a ih =>
    intro b
    by_cases h0 : a = 0
    · subst h0; simp
    · have := ih (a / 2) (by omega) (b / 2)
      rw [← Nat.or_div_two, ← Nat.xor_div_two, ← Nat.and_div_two] at this
      have h1 := @Nat.xor_mod_two_eq_one a b
      have h2 := @Nat.and_mod_two_eq_one a b
      have h3 := @Nat.or_mod_two_eq_one a b
      omega
theorem bitXor_nat (a b : Nat) : Builtin.bitXor (a : Int) (b : Int) = ((a ^^^ b : Nat) : Int) := by
  unfold Builtin.bitXor Builtin.bitOr Builtin.bitNot Builtin.bitAnd
  have e1 : decide ((0 : Int) ≤ (a : Int)) = true := by simp
  have e2 : decide ((0 : Int) ≤ (b : Int)) = true := by simp
  have e3 : decide ((0 : Int) ≤ -(a : Int) - 1) = false := by simp; omega
  have e4 : decide ((0 : Int) ≤ -(b : Int) - 1) = false := by simp; omega
  rw [e1, e2, e3, e4]
  simp only [Builtin.bitNot]
  have e5 : (-(-(a : Int) - 1) - 1).toNat = a := by omega
  have e6 : (-(-(b : Int) - 1) - 1).toNat = b := by omega
  rw [e5, e6, Int.toNat_natCast, Int.toNat_natCast, or_eq_xor_add_and]
  omega
theorem bitAnd_nat1 (a : Nat) : Builtin.bitAnd (a : Int) 1 = ((a % 2 : Nat) : Int) := by
  unfold Builtin.bitAnd
  have e1 : decide ((0 : Int) ≤ (a : Int)) = true := by simp
  have e2 : decide ((0 : Int) ≤ (1 : Int)) = true := by decide
  rw [e1, e2]
  show ((a &&& 1 : Nat) : Int) = _
  rw [Nat.and_one_is_mod]
theorem fdiv_nat (a b : Nat) : ((a : Int)).fdiv (b : Int) = ((a / b : Nat) : Int) := by
  rw [Int.fdiv_eq_ediv_of_nonneg _ (by omega)]; rfl

/-! ## linear maps over xor -/
structure Lin (f : Nat → Nat) : Prop where
  xor : ∀ a b, f (a ^^^ b) = f a ^^^ f b
theorem Lin.zero {f : Nat → Nat} (h : Lin f) : f 0 = 0 := by
  have := h.xor 0 0
  rw [Nat.xor_self, Nat.xor_self] at this
  exact this
theorem Lin.comp {f g : Nat → Nat} (hf : Lin f) (hg : Lin g) : Lin fun x => f (g x) := ⟨fun a b => by show f (g (a ^^^ b)) = _; rw [hg.xor, hf.xor]⟩
theorem Lin.add {f g : Nat → Nat} (hf : Lin f) (hg : Lin g) : Lin fun x => f x ^^^ g x := ⟨fun a b => by
  show f (a ^^^ b) ^^^ g (a ^^^ b) = (f a ^^^ g a) ^^^ (f b ^^^ g b)
  rw [hf.xor, hg.xor]; ac_rfl⟩
theorem lin_id : Lin fun x => x := ⟨fun _ _ => rfl⟩
theorem lin_shr (k : Nat) : Lin fun x => x >>> k := ⟨fun a b => Nat.shiftRight_xor_distrib⟩
theorem lin_shl (k : Nat) : Lin fun x => x <<< k := ⟨fun a b => Nat.shiftLeft_xor_distrib⟩
theorem lin_mod (k : Nat) : Lin fun x => x % 2 ^ k := ⟨fun a b => Nat.xor_mod_two_pow⟩
theorem lin_pick (i m : Nat) : Lin fun x => if x.testBit i then m else 0 := ⟨fun a b => by
  show (if (a ^^^ b).testBit i then m else 0) = (if a.testBit i then m else 0) ^^^ (if b.testBit i then m else 0)
  rw [Nat.testBit_xor]
  cases a.testBit i <;> cases b.testBit i <;> simp⟩
theorem lin_zero : Lin fun _ => 0 := ⟨fun _ _ => by simp⟩

theorem split_top {n k : Nat} (h : n < 2 ^ (k + 1)) (h' : 2 ^ k ≤ n) : n = 2 ^ k ^^^ (n - 2 ^ k) ∧ n - 2 ^ k < 2 ^ k := by
  have hlt : n - 2 ^ k < 2 ^ k := by rw [Nat.pow_succ] at h; omega
  refine ⟨?_, hlt⟩
  have e : n = 2 ^ k + (n - 2 ^ k) := by omega
  have h2 := or_eq_xor_add_and (2 ^ k) (n - 2 ^ k)
  have h3 : 2 ^ k &&& (n - 2 ^ k) = 0 := by
    apply Nat.eq_of_testBit_eq
    intro i
    rw [Nat.testBit_and, Nat.testBit_two_pow, Nat.zero_testBit]
    by_cases hi : k = i
    · subst hi; rw [Nat.testBit_lt_two_pow hlt]; simp
    · simp [hi]
  have h4 : 2 ^ k + (n - 2 ^ k) = 2 ^ k ||| (n - 2 ^ k) := by
    have := Nat.two_pow_add_eq_or_of_lt hlt 1
    simpa using this
  rw [h3] at h2
  omega
theorem lin_eq {f g : Nat → Nat} (hf : Lin f) (hg : Lin g) : ∀ k, (∀ i, i < k → f (2 ^ i) = g (2 ^ i)) → ∀ n, n < 2 ^ k → f n = g n
  | 0, _, n, hn => by
    have : n = 0 := by simpa using hn
    subst this; rw [hf.zero, hg.zero]
  | k + 1, h, n, hn => by
    by_cases hk : 2 ^ k ≤ n
    · obtain ⟨e, hlt⟩ := split_top hn hk
      rw [e, hf.xor, hg.xor, h k (by omega), lin_eq hf hg k (fun i hi => h i (by omega)) _ hlt]
    · exact lin_eq hf hg k (fun i hi => h i (by omega)) n (by omega)

/-! ## the step of _gen_crc -/
def crcStepB (c : Nat) : Nat := (c >>> 1) ^^^ (if c.testBit 0 then 3988292384 else 0)
def crcB : Nat → Nat → Nat
  | 0, c => c
  | n + 1, c => crcStepB (crcB n c)
theorem lin_crcB : ∀ n, Lin (crcB n)
  | 0 => lin_id
  | n + 1 => Lin.comp (f := crcStepB) (Lin.add (lin_shr 1) (lin_pick 0 _)) (lin_crcB n)
theorem crcStep_nat (c : Nat) : crcStep (c : Int) = (crcStepB c : Nat) := by
  unfold crcStep crcStepB
  have e1 : ((c : Int)).fdiv (2 ^ (1 : Int).toNat) = ((c >>> 1 : Nat) : Int) := by
    rw [Nat.shiftRight_eq_div_pow]; exact fdiv_nat c 2
  rw [bitAnd_nat1, e1, Nat.testBit_zero]
  rcases Nat.mod_two_eq_zero_or_one c with h | h <;> rw [h]
  · simp
  · have := bitXor_nat (c >>> 1) 3988292384
    simpa using this
theorem crcN_nat (c : Nat) : ∀ n, crcN n (c : Int) = (crcB n c : Nat)
  | 0 => rfl
  | n + 1 => by rw [crcN, crcN_nat c n, crcStep_nat]; rfl
def crcTB : Nat → Nat → Nat
  | 0, a => a
  | i + 1, a => crcB 8 (crcTB i a)
theorem lin_crcTB : ∀ n, Lin (crcTB n)
  | 0 => lin_id
  | n + 1 => Lin.comp (f := crcB 8) (lin_crcB 8) (lin_crcTB n)
theorem crcT_nat (c : Nat) : ∀ n, crcT n (c : Int) = (crcTB n c : Nat)
  | 0 => rfl
  | n + 1 => by rw [crcT, crcT_nat c n, crcN_nat]; rfl

/-! ## the division -/
def mrkB (w : Nat) : Nat → Nat
  | 0 => 0
  | i + 1 => (mrkB w i <<< 1 ^^^ (if i < 32 then (if w.testBit i then 1 else 0) else 0)) ^^^ (if (mrkB w i <<< 1 ^^^ (if i < 32 then (if w.testBit i then 1 else 0) else 0)).testBit 32 then 4374732215 else 0)
theorem lin_mrkB : ∀ n, Lin fun w => mrkB w n
  | 0 => lin_zero
  | i + 1 => by
    have h1 : Lin fun w => mrkB w i <<< 1 ^^^ (if i < 32 then (if w.testBit i then 1 else 0) else 0) := by
      refine Lin.add (Lin.comp (lin_shl 1) (lin_mrkB i)) ?_
      by_cases h : i < 32
      · simp only [h, if_true]; exact lin_pick i 1
      · simp only [h, if_false]; exact lin_zero
    exact Lin.add h1 (Lin.comp (lin_pick 32 4374732215) h1)
theorem mrk_nat (w : Nat) : ∀ i, mrkN (w : Int) i = (mrkB w i : Nat) ∧ mrkB w i < 2 ^ 32
  | 0 => ⟨rfl, Nat.two_pow_pos 32⟩
  | i + 1 => by
    obtain ⟨ih, hb⟩ := mrk_nat w i
    obtain ⟨b, hbd, hb1⟩ : ∃ b : Nat, b = (if i < 32 then (if w.testBit i then 1 else 0) else 0) ∧ b < 2 := ⟨_, rfl, by (repeat' split) <;> decide⟩
    have hin : mrkIn (w : Int) i = (b : Nat) := by
      unfold mrkIn
      rw [hbd]
      by_cases h : i < 32
      · have e : ((w : Int)).fdiv (2 ^ i) = ((w / 2 ^ i : Nat) : Int) := by have := fdiv_nat w (2 ^ i); rw [← this]; norm_cast
        simp only [h, if_true]
        rw [e, bitAnd_nat1, Nat.testBit_eq_decide_div_mod_eq]
        rcases Nat.mod_two_eq_zero_or_one (w / 2 ^ i) with h | h <;> rw [h] <;> simp
      · simp only [h, if_false]; rfl
    obtain ⟨t, ht⟩ : ∃ t, t = mrkB w i <<< 1 ^^^ b := ⟨_, rfl⟩
    have hte : t = 2 * mrkB w i + b := by
      have h1 := or_eq_xor_add_and (mrkB w i <<< 1) b
      have h2 := Nat.two_pow_add_eq_or_of_lt (i := 1) (b := b) (by simpa using hb1) (mrkB w i)
      have h3 : (mrkB w i <<< 1) &&& b = 0 := by
        have := Nat.two_pow_add_eq_or_of_lt (i := 1) (b := b) (by simpa using hb1) (mrkB w i)
        apply Nat.eq_of_testBit_eq
        intro j
        rw [Nat.testBit_and, Nat.testBit_shiftLeft, Nat.zero_testBit]
        cases j with
        | zero => simp
        | succ j =>
          have : b.testBit (j + 1) = false := Nat.testBit_lt_two_pow (Nat.lt_of_lt_of_le hb1 (by
            have := Nat.pow_le_pow_right (n := 2) (by decide) (show 1 ≤ j + 1 by omega)
            simpa using this))
          simp [this]
      rw [h3] at h1
      rw [ht]
      have h4 : mrkB w i <<< 1 = 2 ^ 1 * mrkB w i := by rw [Nat.shiftLeft_eq]; omega
      rw [h4] at h1 ⊢
      omega
    have hn : mrkB w (i + 1) = t ^^^ (if t.testBit 32 then 4374732215 else 0) := by rw [ht, hbd]; rfl
    have ht33 : t < 2 ^ 33 := by omega
    have hint : (2 * mrkN (w : Int) i + mrkIn (w : Int) i) = (t : Int) := by rw [ih, hin, hte]; omega
    rw [mrkN, hint, hn, mrkCut]
    by_cases hc : 2 ^ 32 ≤ t
    · have hb32 : t.testBit 32 = true := by
        rw [Nat.testBit_eq_decide_div_mod_eq]
        have : t / 2 ^ 32 = 1 := by omega
        rw [this]; decide
      have hc' : (2 : Int) ^ 32 ≤ (t : Int) := by omega
      rw [if_pos hc', hb32]
      refine ⟨bitXor_nat t 4374732215, ?_⟩
      simp only [if_true]
      obtain ⟨e, hlt⟩ := split_top ht33 hc
      rw [e]
      have e2 : (4374732215 : Nat) = 2 ^ 32 ^^^ 79764919 := by decide
      have e3 : (2 ^ 32 ^^^ (t - 2 ^ 32)) ^^^ (2 ^ 32 ^^^ 79764919) = (t - 2 ^ 32) ^^^ 79764919 := by
        rw [Nat.xor_comm (2 ^ 32) (t - 2 ^ 32), Nat.xor_assoc, ← Nat.xor_assoc (2 ^ 32) (2 ^ 32), Nat.xor_self, Nat.zero_xor]
      rw [e2, e3]
      exact Nat.xor_lt_two_pow hlt (by decide)
    · have hb32 : t.testBit 32 = false := Nat.testBit_lt_two_pow (by omega)
      have hc' : ¬ (2 : Int) ^ 32 ≤ (t : Int) := by omega
      rw [if_neg hc', hb32]
      simp only [Bool.false_eq_true, if_false, Nat.xor_zero]
      exact ⟨trivial, by omega⟩

def outB (r : Nat) : Nat := (if r.testBit 31 then 1 else 0) ^^^ ((if r.testBit 30 then 2 else 0) ^^^ (if r.testBit 29 then 4 else 0))
theorem lin_outB : Lin outB := Lin.add (lin_pick 31 1) (Lin.add (lin_pick 30 2) (lin_pick 29 4))
theorem out_nat {r : Nat} (h : r < 2 ^ 32) : mrkOut (r : Int) = (outB r : Nat) := by
  unfold mrkOut outB
  have e1 : ((r : Int)).fdiv (2 ^ 31) = ((r / 2 ^ 31 : Nat) : Int) := fdiv_nat r (2 ^ 31)
  have e2 : ((r : Int)).fdiv (2 ^ 30) = ((r / 2 ^ 30 : Nat) : Int) := fdiv_nat r (2 ^ 30)
  have e3 : ((r : Int)).fdiv (2 ^ 29) = ((r / 2 ^ 29 : Nat) : Int) := fdiv_nat r (2 ^ 29)
  rw [e1, e2, e3, bitAnd_nat1, bitAnd_nat1, Nat.testBit_eq_decide_div_mod_eq, Nat.testBit_eq_decide_div_mod_eq, Nat.testBit_eq_decide_div_mod_eq]
  have h31 : r / 2 ^ 31 = r / 2 ^ 31 % 2 := by omega
  rw [h31]
  rcases Nat.mod_two_eq_zero_or_one (r / 2 ^ 31) with a | a <;> rcases Nat.mod_two_eq_zero_or_one (r / 2 ^ 30) with b | b <;> rcases Nat.mod_two_eq_zero_or_one (r / 2 ^ 29) with c | c <;> rw [a, b, c] <;> decide

def tellB (w : Nat) : Nat := outB (mrkB w 64)
theorem crc_pow : ∀ i, i < 32 → crcTB 4 (2 ^ i) % 2 ^ 3 = tellB (2 ^ i) := by decide +kernel
theorem crc_tell {w : Nat} (h : w < 2 ^ 32) : crcTB 4 w % 2 ^ 3 = tellB w :=
  lin_eq (f := fun w => crcTB 4 w % 2 ^ 3) (g := tellB) (Lin.comp (lin_mod 3) (lin_crcTB 4)) (Lin.comp (f := outB) (g := fun w => mrkB w 64) lin_outB (lin_mrkB 64)) 32 crc_pow w h

theorem mark_told (d : Int) : ∃ m : Nat, m < 8 ∧ markN d = (m : Int) ∧ toldN d = (m : Int) := by
  obtain ⟨w, hw, hlt⟩ : ∃ w : Nat, d.fmod (2 ^ 32) = (w : Int) ∧ w < 2 ^ 32 := by
    rw [Int.fmod_eq_emod_of_nonneg _ (by decide)]
    exact ⟨(d % 2 ^ 32).toNat, by omega, by omega⟩
  refine ⟨tellB w, ?_, ?_, ?_⟩
  · rw [← crc_tell hlt]; exact Nat.mod_lt _ (by decide)
  · unfold markN
    rw [hw, crcT_nat, Int.fmod_eq_emod_of_nonneg _ (by decide), ← crc_tell hlt]
    rfl
  · unfold toldN
    rw [hw, (mrk_nat w 64).1, out_nat (mrk_nat w 64).2]
    rfl
end Mine

/-! ### PL2 -/
namespace Mine

/-! ## the row and the line -/
/-- by price and then by place -/
def Lx (kA kB : Nat → Int) (a b : Nat) : Prop := kA a < kA b ∨ (kA a = kA b ∧ (kB a < kB b ∨ (kB a = kB b ∧ a < b)))
def Lp (kA kB : Nat → Int) (a b : Nat) : Prop := kA a < kA b ∨ (kA a = kA b ∧ kB a < kB b)
theorem Lx.trans {kA kB : Nat → Int} {a b c : Nat} (h : Lx kA kB a b) (g : Lx kA kB b c) : Lx kA kB a c := by unfold Lx at *; omega
theorem Lx.asymm {kA kB : Nat → Int} {a b : Nat} (h : Lx kA kB a b) (g : Lx kA kB b a) : False := by unfold Lx at *; omega

theorem rowAt_spec (lt : Nat → Nat → Bool) (row : List Nat) (k : Nat) : ∀ a, (∀ j, rowAt lt row k a ≤ j → j < a → lt k (row.getD j 0) = true) ∧ (rowAt lt row k a = 0 ∨ lt k (row.getD (rowAt lt row k a - 1) 0) = false)
  | 0 => ⟨fun j _ h => by omega, .inl rfl⟩
  | a + 1 => by
    have ih := rowAt_spec lt row k a
    unfold rowAt
    by_cases h : lt k (row.getD a 0) = true
    · rw [if_pos h]
      refine ⟨fun j h1 h2 => ?_, ih.2⟩
      by_cases e : j = a
      · rw [e]; exact h
      · exact ih.1 j h1 (by omega)
    · rw [if_neg h]
      exact ⟨fun j h1 h2 => by omega, .inr (by simpa using h)⟩

theorem getD_lt {l : List Nat} {i : Nat} (h : i < l.length) : l.getD i 0 = l[i] := by simp [h]

theorem ins_pair {kA kB : Nat → Int} {lt : Nat → Nat → Bool} {row : List Nat} {k : Nat} (hlt : ∀ a b, lt a b = true ↔ Lp kA kB a b) (hr : row.Pairwise (Lx kA kB)) (hk : ∀ x ∈ row, x < k) : (rowIns lt row k).Pairwise (Lx kA kB) := by
  obtain ⟨s1, s2⟩ := rowAt_spec lt row k row.length
  have hle := rowAt_le lt row k row.length
  unfold rowIns
  generalize rowAt lt row k row.length = p at s1 s2 hle
  have hcr := hr
  rw [← List.take_append_drop p row, List.pairwise_append] at hcr
  have hup : ∀ y ∈ row.drop p, Lx kA kB k y := fun y hy => by
    obtain ⟨j, hj, rfl⟩ := List.mem_iff_getElem.mp hy
    rw [List.length_drop] at hj
    rw [List.getElem_drop]
    have := (hlt _ _).mp (s1 (p + j) (by omega) (by omega))
    rw [getD_lt (by omega)] at this
    unfold Lp at this; unfold Lx; omega
  have hdn : ∀ x ∈ row.take p, Lx kA kB x k := fun x hx => by
    rcases s2 with s2 | s2
    · rw [s2] at hx; simp at hx
    obtain ⟨j, hj, rfl⟩ := List.mem_iff_getElem.mp hx
    rw [List.length_take] at hj
    rw [List.getElem_take]
    have hp : p - 1 < row.length := by omega
    have hl : Lx kA kB row[p - 1] k := by
      rw [getD_lt hp] at s2
      have h1 : ¬ Lp kA kB k row[p - 1] := fun h => by rw [(hlt _ _).mpr h] at s2; cases s2
      have h2 := hk _ (List.getElem_mem hp)
      unfold Lp at h1; unfold Lx; omega
    by_cases e : j = p - 1
    · subst e; exact hl
    · exact (List.pairwise_iff_getElem.mp hr j (p - 1) (by omega) hp (by omega)).trans hl
  rw [List.append_assoc, List.pairwise_append]
  refine ⟨hcr.1, ?_, fun x hx y hy => ?_⟩
  · rw [List.singleton_append, List.pairwise_cons]
    exact ⟨hup, hcr.2.1⟩
  · rw [List.singleton_append, List.mem_cons] at hy
    rcases hy with rfl | hy
    · exact hdn x hx
    · exact (hdn x hx).trans (hup y hy)

theorem row_pair {kA kB : Nat → Int} {lt : Nat → Nat → Bool} (hlt : ∀ a b, lt a b = true ↔ Lp kA kB a b) : ∀ n, (rowN lt n).Pairwise (Lx kA kB)
  | 0 => .nil
  | n + 1 => ins_pair hlt (row_pair hlt n) (rowN_lt lt n)

theorem askRun_congr {α : Type} {lt lt' : Nat → Nat → Bool} {n : Nat} (h : ∀ i j, i < n → j < n → lt i j = lt' i j) : ∀ (t : KasT (Array Nat)), askBelow n t = true → askRun lt t = askRun lt' t
  | .ret p, _ => rfl
  | .ask i j k, hb => by
    have h' : (((decide (i < n) && decide (j < n)) && askBelow n (k true)) && askBelow n (k false)) = true := hb
    simp only [Bool.and_eq_true, decide_eq_true_eq] at h'
    show askRun lt (k (lt i j)) = askRun lt' (k (lt' i j))
    rw [← h i j h'.1.1.1 h'.1.1.2]
    cases lt i j with
    | true => exact askRun_congr (α := α) h (k true) h'.1.2
    | false => exact askRun_congr (α := α) h (k false) h'.2

def sortChk (l : List Nat) : Bool := (askRun (fun i j => decide (l.idxOf i < l.idxOf j)) (kas_sort 5)).toList == l
theorem sort_chk : ((List.range 5).all fun a => (List.range 5).all fun b => a == b || ((List.range 5).all fun c => a == c || (b == c || ((List.range 5).all fun d => a == d || (b == d || (c == d || ((List.range 5).all fun e => a == e || (b == e || (c == e || (d == e || sortChk [a, b, c, d, e])))))))))) = true := by decide +kernel
theorem all_lt {n : Nat} {p : Nat → Bool} (h : (List.range n).all p = true) {a : Nat} (ha : a < n) : p a = true := List.all_eq_true.mp h a (List.mem_range.mpr ha)
theorem or_ne {a b : Nat} {r : Bool} (h : (a == b || r) = true) (n : a ≠ b) : r = true := by
  rw [beq_eq_false_iff_ne.mpr n] at h
  exact h
theorem sort_perm5 (a : Nat) (ha : a < 5) (b : Nat) (hb : b < 5) (c : Nat) (hc : c < 5) (d : Nat) (hd : d < 5) (e : Nat) (he : e < 5) (hn : [a, b, c, d, e].Nodup) : (askRun (fun i j => decide ([a, b, c, d, e].idxOf i < [a, b, c, d, e].idxOf j)) (kas_sort 5)).toList = [a, b, c, d, e] := by
  simp only [List.nodup_cons, List.mem_cons, List.not_mem_nil, or_false, not_or] at hn
  obtain ⟨⟨ab, ac, ad, ae⟩, ⟨bc, bd, be⟩, ⟨cd, ce⟩, de, _⟩ := hn
  have h := or_ne (all_lt (all_lt sort_chk ha) hb) ab
  have h := or_ne (or_ne (all_lt h hc) ac) bc
  have h := or_ne (or_ne (or_ne (all_lt h hd) ad) bd) cd
  have h := or_ne (or_ne (or_ne (or_ne (all_lt h he) ae) be) ce) de
  exact eq_of_beq h

theorem pair_idx {R : Nat → Nat → Prop} (as : ∀ a b, R a b → R b a → False) {l : List Nat} (h : l.Pairwise R) {i j : Nat} (hi : i ∈ l) (hj : j ∈ l) : R i j ↔ l.idxOf i < l.idxOf j := by
  have h1 := List.idxOf_lt_length_iff.mpr hi
  have h2 := List.idxOf_lt_length_iff.mpr hj
  have e1 : l[l.idxOf i] = i := List.getElem_idxOf h1
  have e2 : l[l.idxOf j] = j := List.getElem_idxOf h2
  rw [List.pairwise_iff_getElem] at h
  constructor
  · intro hr
    rcases Nat.lt_trichotomy (l.idxOf i) (l.idxOf j) with g | g | g
    · exact g
    · have e3 : i = j := by rw [← e1, ← e2]; simp only [g]
      subst e3; exact (as _ _ hr hr).elim
    · have := h _ _ h2 h1 g
      rw [e1, e2] at this
      exact (as _ _ hr this).elim
  · intro g
    have := h _ _ h1 h2 g
    rwa [e1, e2] at this

theorem perm_of_lt {l : List Nat} {n : Nat} (hd : l.Nodup) (hl : l.length = n) (hb : ∀ x ∈ l, x < n) : ∀ k, k < n → k ∈ l := by
  intro k hk
  refine Classical.byContradiction fun hc => ?_
  have hsub : l ⊆ (List.range n).erase k := fun x hx => by
    rw [List.mem_erase_of_ne (fun e : x = k => hc (e ▸ hx))]
    exact List.mem_range.mpr (hb x hx)
  have := List.Nodup.length_le_of_subset hd hsub
  rw [List.length_erase_of_mem (List.mem_range.mpr hk), List.length_range] at this
  omega

theorem pair_nodup {kA kB : Nat → Int} {l : List Nat} (h : l.Pairwise (Lx kA kB)) : l.Nodup :=
  h.imp fun {a b} hab e => by subst e; exact hab.asymm hab

theorem sorted_eq {kA kB : Nat → Int} {lt : Nat → Nat → Bool} {row : List Nat} (hlt : ∀ a b, a < 5 → b < 5 → (lt a b = true ↔ Lx kA kB a b)) (hr : row.Pairwise (Lx kA kB)) (hl : row.length = 5) (hb : ∀ x ∈ row, x < 5) : sortIdx lt 5 = row := by
  have hnd := pair_nodup hr
  have hmem := perm_of_lt hnd hl hb
  have hc : askRun lt (kas_sort 5) = askRun (fun i j => decide (row.idxOf i < row.idxOf j)) (kas_sort 5) := by
    refine askRun_congr (α := Nat) (n := 5) (fun i j hi hj => ?_) _ below5
    have h1 := pair_idx (fun a b => Lx.asymm) hr (hmem i hi) (hmem j hj)
    have h2 := hlt i j hi hj
    cases e : lt i j with
    | true => exact (decide_eq_true (h1.mp (h2.mp e))).symm
    | false => exact (decide_eq_false fun g => by rw [h2.mpr (h1.mpr g)] at e; cases e).symm
  unfold sortIdx
  rw [if_neg (by decide), hc]
  match row, hl, hb, hnd with
  | [a, b, c, d, e], _, hb, hnd =>
    exact sort_perm5 a (hb a (by simp)) b (hb b (by simp)) c (hb c (by simp)) d (hb d (by simp)) e (hb e (by simp)) hnd

/-! the law's prices -/
def kyA (ks ps : List (Int × Int)) (k : Nat) : Int := (ks.getD 0 (0, 0)).2 * colI (prI ps k) (ks.getD 0 (0, 0)).1
def kyB (ks ps : List (Int × Int)) (k : Nat) : Int := (ks.getD 1 (0, 0)).2 * colI (prI ps k) (ks.getD 1 (0, 0)).1
/-- the keys are two ways over two columns -/
structure Keys (ks : List (Int × Int)) (i j : Int) (v w : Int) : Prop where
  eq : ks = [(i, v), (j, w)]
  hv : v = 1 ∨ v = -1
  hw : w = 1 ∨ w = -1
  col : (i = 1 ∧ j = 2) ∨ (i = 2 ∧ j = 1)
theorem keys_of (t : Int) : ∃ i j v w, Keys (keysL t) i j v w := by
  have h : ∀ a : Int, 1 - 2 * a.fmod 2 = 1 ∨ 1 - 2 * a.fmod 2 = -1 := fun a => by
    rw [Int.fmod_eq_emod_of_nonneg _ (by decide)]; omega
  unfold keysL
  split
  · exact ⟨1, 2, _, _, rfl, h _, h _, .inl ⟨rfl, rfl⟩⟩
  · exact ⟨2, 1, _, _, rfl, h _, h _, .inr ⟨rfl, rfl⟩⟩
theorem cmp_one {v f g t : Int} (hv : v = 1 ∨ v = -1) : (if f < g then -v else if g < f then v else t) = if v * f < v * g then -1 else if v * f = v * g then t else 1 := by
  rcases hv with rfl | rfl <;> (repeat' split) <;> omega
theorem cmp_two {a b c d : Int} : (if a < b then -1 else if a = b then (if c < d then -1 else if c = d then 0 else 1) else 1) = if a < b ∨ (a = b ∧ c < d) then (-1 : Int) else if a = b ∧ c = d then 0 else 1 := by
  (repeat' split) <;> omega
theorem Keys.cmp {ks : List (Int × Int)} {i j v w : Int} (K : Keys ks i j v w) (f g : Int → Int) :
    cmpOf ks f g = if v * f i < v * g i ∨ (v * f i = v * g i ∧ w * f j < w * g j) then -1 else if v * f i = v * g i ∧ w * f j = w * g j then 0 else 1 := by
  rw [K.eq, ← cmp_two]
  show (if f i < g i then -v else if g i < f i then v else if f j < g j then -w else if g j < f j then w else 0) = _
  rw [cmp_one K.hw, cmp_one K.hv]
theorem Keys.lt {ks ps : List (Int × Int)} {i j v w : Int} (K : Keys ks i j v w) (a b : Nat) : ltE ks ps a b = true ↔ Lp (kyA ks ps) (kyB ks ps) a b := by
  unfold ltE cmpE Lp kyA kyB
  rw [K.cmp, K.eq]
  simp only [List.getD_cons_zero, List.getD_cons_succ, decide_eq_true_eq]
  (repeat' split) <;> omega
theorem Keys.key {ks ps : List (Int × Int)} {i j v w : Int} (K : Keys ks i j v w) (a : Nat) : shKey ks ps a = [kyA ks ps a, kyB ks ps a, (a : Int)] := by
  unfold shKey kyA kyB; rw [K.eq]; rfl
theorem Keys.line {ks ps : List (Int × Int)} {i j v w : Int} (K : Keys ks i j v w) (a b : Nat) (ha : a < 5) (hb : b < 5) : lexLt ((shL ks ps).getD a []) ((shL ks ps).getD b []) = true ↔ Lx (kyA ks ps) (kyB ks ps) a b := by
  rw [shL_get ha, shL_get hb, K.key, K.key]
  unfold Lx
  simp only [lexLt]
  (repeat' split) <;> simp <;> omega
theorem line_row {ks ps : List (Int × Int)} {i j v w : Int} (K : Keys ks i j v w) : lineL ks ps = rowL ks ps ∧ (rowL ks ps).Pairwise (Lx (kyA ks ps) (kyB ks ps)) := by
  have hr : (rowL ks ps).Pairwise (Lx (kyA ks ps) (kyB ks ps)) := row_pair (fun a b => K.lt a b) 5
  exact ⟨sorted_eq (fun a b ha hb => K.line a b ha hb) hr (rowN_length _ 5) (rowN_lt _ 5), hr⟩
end Mine

/-! ### PL3 -/
namespace Mine

/-! ## spans -/
def xr (g : Nat → Nat) : List Nat → Nat
  | [] => 0
  | k :: l => g k ^^^ xr g l
section
variable {g : Nat → Nat}
theorem xr_append (l m : List Nat) : xr g (l ++ m) = xr g l ^^^ xr g m := by
  induction l with
  | nil => simp [xr]
  | cons k l ih => rw [List.cons_append, xr, ih, xr, Nat.xor_assoc]
theorem xr_perm {l m : List Nat} (h : l.Perm m) : xr g l = xr g m := by
  induction h with
  | nil => rfl
  | cons x _ ih => rw [xr, ih, xr]
  | swap x y l => simp only [xr]; rw [← Nat.xor_assoc, ← Nat.xor_assoc, Nat.xor_comm (g y)]
  | trans _ _ h1 h2 => exact h1.trans h2

/-- what subsets come to -/
def sx (g : Nat → Nat) : List Nat → List Nat
  | [] => [0]
  | k :: l => sx g l ++ (sx g l).map (g k ^^^ ·)
theorem sx_length (l : List Nat) : (sx g l).length = 2 ^ l.length := by
  induction l with
  | nil => rfl
  | cons k l ih => rw [sx, List.length_append, List.length_map, ih, List.length_cons, Nat.pow_succ]; omega
theorem sx_mem {l : List Nat} : ∀ {x : Nat}, x ∈ sx g l ↔ ∃ S, S.Sublist l ∧ xr g S = x := by
  induction l with
  | nil =>
    intro x
    rw [sx, List.mem_singleton]
    constructor
    · rintro rfl; exact ⟨[], List.Sublist.refl _, rfl⟩
    · rintro ⟨S, h, e⟩
      rw [List.sublist_nil] at h; subst h; exact e.symm
  | cons k l ih =>
    intro x
    rw [sx, List.mem_append]
    constructor
    · rintro (h | h)
      · obtain ⟨S, hS, e⟩ := ih.mp h
        exact ⟨S, hS.cons k, e⟩
      · obtain ⟨y, hy, rfl⟩ := List.mem_map.mp h
        obtain ⟨S, hS, e⟩ := ih.mp hy
        exact ⟨k :: S, hS.cons_cons k, by rw [xr, e]⟩
    · rintro ⟨S, h, e⟩
      cases h with
      | cons _ h => exact .inl (ih.mpr ⟨S, h, e⟩)
      | cons_cons _ h =>
        rename_i S'
        exact .inr (List.mem_map.mpr ⟨xr g S', ih.mpr ⟨S', h, rfl⟩, e⟩)
theorem xor_xor_self (a b : Nat) : a ^^^ (a ^^^ b) = b := by rw [← Nat.xor_assoc, Nat.xor_self, Nat.zero_xor]
theorem sx_close {l : List Nat} : ∀ {x y : Nat}, x ∈ sx g l → y ∈ sx g l → x ^^^ y ∈ sx g l := by
  induction l with
  | nil => intro x y hx hy; simp only [sx, List.mem_singleton] at *; subst hx; subst hy; rfl
  | cons k l ih =>
    intro x y hx hy
    simp only [sx, List.mem_append, List.mem_map] at *
    rcases hx with hx | ⟨a, ha, rfl⟩ <;> rcases hy with hy | ⟨b, hb, rfl⟩
    · exact .inl (ih hx hy)
    · exact .inr ⟨x ^^^ b, ih hx hb, by rw [← Nat.xor_assoc, ← Nat.xor_assoc, Nat.xor_comm x]⟩
    · exact .inr ⟨a ^^^ y, ih ha hy, by rw [Nat.xor_assoc]⟩
    · refine .inl ?_
      have e : (g k ^^^ a) ^^^ (g k ^^^ b) = a ^^^ b := by
        rw [Nat.xor_comm (g k) a, Nat.xor_assoc, xor_xor_self]
      rw [e]; exact ih ha hb
theorem sx_zero (l : List Nat) : 0 ∈ sx g l := sx_mem.mpr ⟨[], List.nil_sublist _, rfl⟩
theorem sx_one {l : List Nat} {k : Nat} (h : k ∈ l) : g k ∈ sx g l := sx_mem.mpr ⟨[k], List.singleton_sublist.mpr h, by simp [xr]⟩
/-- what is spanned by the spanned is spanned -/
theorem sx_sub {l : List Nat} : ∀ {J : List Nat}, (∀ x ∈ J, g x ∈ sx g l) → ∀ {x}, x ∈ sx g J → x ∈ sx g l
  | [], _, x, hx => by simp only [sx, List.mem_singleton] at hx; subst hx; exact sx_zero l
  | k :: J, h, x, hx => by
    have ih : ∀ {y}, y ∈ sx g J → y ∈ sx g l := sx_sub (l := l) (J := J) fun x hx => h x (List.mem_cons_of_mem _ hx)
    simp only [sx, List.mem_append, List.mem_map] at hx
    rcases hx with hx | ⟨a, ha, rfl⟩
    · exact ih hx
    · exact sx_close (h k List.mem_cons_self) (ih ha)
theorem sx_mono {l m : List Nat} (h : l ⊆ m) {x : Nat} (hx : x ∈ sx g l) : x ∈ sx g m := sx_sub (fun y hy => sx_one (h hy)) hx

/-- no ring within -/
def Ind (g : Nat → Nat) (J : List Nat) : Prop := ∀ S : List Nat, S.Sublist J → xr g S = 0 → S = []
theorem Ind.tail {k : Nat} {J : List Nat} (h : Ind g (k :: J)) : Ind g J := fun S hS e => h S (hS.cons k) e
theorem Ind.sub {J J' : List Nat} (h : Ind g J) (hs : J'.Sublist J) : Ind g J' := fun S hS e => h S (hS.trans hs) e
theorem Ind.nodup : ∀ {J : List Nat}, Ind g J → (sx g J).Nodup
  | [], _ => by simp [sx]
  | k :: J, h => by
    have ih := h.tail.nodup
    rw [sx, List.nodup_append]
    refine ⟨ih, ?_, fun a ha b hb e => ?_⟩
    · rw [List.nodup_iff_pairwise_ne, List.pairwise_map]
      exact ih.imp fun {a b} hab e => hab (by rw [← xor_xor_self (g k) a, e, xor_xor_self])
    · subst e
      obtain ⟨c, hc, e⟩ := List.mem_map.mp hb
      obtain ⟨S, hS, e2⟩ := sx_mem.mp (sx_close ha hc)
      have : k :: S = [] := h _ (hS.cons_cons k) (by
        rw [xr, e2, ← e, Nat.xor_comm (g k) c, Nat.xor_comm (c ^^^ g k) c, xor_xor_self, Nat.xor_self])
      cases this
theorem pow_le {a b : Nat} (h : 2 ^ a ≤ 2 ^ b) : a ≤ b := (Nat.pow_le_pow_iff_right (by decide)).mp h
theorem Ind.card {J l : List Nat} (h : Ind g J) (hs : ∀ x ∈ J, g x ∈ sx g l) : J.length ≤ l.length := by
  have := List.Nodup.length_le_of_subset h.nodup (l₂ := sx g l) fun x hx => sx_sub hs hx
  rw [sx_length, sx_length] at this
  exact pow_le this
theorem xr_lt (hg : ∀ k, g k < 8) : ∀ l, xr g l < 8
  | [] => by show 0 < 8; decide
  | k :: l => Nat.xor_lt_two_pow (n := 3) (hg k) (xr_lt hg l)
theorem Ind.three {J : List Nat} (hg : ∀ k, g k < 8) (h : Ind g J) : J.length ≤ 3 := by
  have := List.Nodup.length_le_of_subset h.nodup (l₂ := List.range 8) fun x hx => by
    obtain ⟨S, _, rfl⟩ := sx_mem.mp hx
    exact List.mem_range.mpr (xr_lt hg S)
  rw [sx_length, List.length_range] at this
  exact pow_le (b := 3) this

/-! ## picking along a line -/
theorem pk_snoc (ms : List Int) (l : List Nat) (k : Nat) : pkN ms (l ++ [k]) = pkStep ms (pkN ms l) k := by
  unfold pkN; rw [List.foldl_append]; rfl
theorem snoc_ind {α : Type} {P : List α → Prop} (h0 : P []) (h1 : ∀ l a, P l → P (l ++ [a])) : ∀ l, P l := fun l => by
  have : ∀ r : List α, P r.reverse := fun r => by
    induction r with
    | nil => exact h0
    | cons a r ih => rw [List.reverse_cons]; exact h1 _ _ ih
  have := this l.reverse
  rwa [List.reverse_reverse] at this
theorem sub_snoc {S l : List Nat} {k : Nat} (h : S.Sublist (l ++ [k])) : S.Sublist l ∨ ∃ S', S = S' ++ [k] ∧ S'.Sublist l := by
  obtain ⟨l1, l2, rfl, h1, h2⟩ := List.sublist_append_iff.mp h
  cases h2 with
  | cons _ h2 => rw [List.sublist_nil] at h2; subst h2; left; simpa using h1
  | cons_cons _ h2 => rw [List.sublist_nil] at h2; subst h2; exact .inr ⟨l1, rfl, h1⟩

structure Pk (g : Nat → Nat) (ms : List Int) (l : List Nat) : Prop where
  span : ∀ x : Int, x ∈ (pkN ms l).2 ↔ ∃ y : Nat, x = (y : Int) ∧ y ∈ sx g (pkN ms l).1
  all : ∀ k ∈ l, g k ∈ sx g (pkN ms l).1
  sub : (pkN ms l).1.Sublist l
  ind : Ind g (pkN ms l).1
theorem sx_snoc {l : List Nat} {k x : Nat} : x ∈ sx g (l ++ [k]) ↔ x ∈ sx g l ∨ ∃ y ∈ sx g l, x = y ^^^ g k := by
  constructor
  · intro h
    obtain ⟨S, hS, rfl⟩ := sx_mem.mp h
    rcases sub_snoc hS with hs | ⟨S', rfl, hs⟩
    · exact .inl (sx_mem.mpr ⟨S, hs, rfl⟩)
    · exact .inr ⟨xr g S', sx_mem.mpr ⟨S', hs, rfl⟩, by rw [xr_append]; simp [xr]⟩
  · rintro (h | ⟨y, h, rfl⟩)
    · exact sx_mono (fun z hz => List.mem_append_left _ hz) h
    · exact sx_close (sx_mono (fun z hz => List.mem_append_left _ hz) h) (sx_one (by simp))
theorem pk_in {ms : List Int} {l : List Nat} {k : Nat} (hm : ∀ k, mkI ms k = (g k : Int)) (P : Pk g ms l) : ((pkN ms l).2.any (· == mkI ms k) = true) ↔ g k ∈ sx g (pkN ms l).1 := by
  rw [List.any_eq_true]
  constructor
  · rintro ⟨x, hx, e⟩
    obtain ⟨y, rfl, hy⟩ := (P.span x).mp hx
    have e := eq_of_beq e
    rw [hm k] at e
    have : y = g k := by omega
    exact this ▸ hy
  · intro h
    exact ⟨(g k : Int), (P.span _).mpr ⟨g k, rfl, h⟩, by rw [hm k]; exact beq_self_eq_true _⟩
theorem pk_all (ms : List Int) (hm : ∀ k, mkI ms k = (g k : Int)) : ∀ l, Pk g ms l := by
  refine snoc_ind ⟨fun x => ?_, fun k hk => (nomatch hk), List.Sublist.refl _, fun S hS _ => List.sublist_nil.mp hS⟩ fun l k P => ?_
  · show x ∈ [(0 : Int)] ↔ ∃ y : Nat, x = (y : Int) ∧ y ∈ [0]
    simp
  · have hs := pk_snoc ms l k
    unfold pkStep at hs
    by_cases h : (pkN ms l).2.any (· == mkI ms k) = true
    · rw [if_pos h] at hs
      refine ⟨?_, ?_, ?_, ?_⟩ <;> rw [hs]
      · exact P.span
      · intro j hj
        rcases List.mem_append.mp hj with hj | hj
        · exact P.all j hj
        · rw [List.mem_singleton] at hj; subst hj
          exact (pk_in hm P).mp h
      · exact P.sub.trans (List.sublist_append_left _ _)
      · exact P.ind
    · have hn : g k ∉ sx g (pkN ms l).1 := fun hc => h ((pk_in hm P).mpr hc)
      rw [if_neg h] at hs
      refine ⟨?_, ?_, ?_, ?_⟩ <;> rw [hs]
      · intro x
        show x ∈ (pkN ms l).2 ++ _ ↔ ∃ y : Nat, x = (y : Int) ∧ y ∈ sx g ((pkN ms l).1 ++ [k])
        rw [List.mem_append, P.span x]
        constructor
        · rintro (⟨y, rfl, hy⟩ | hx)
          · exact ⟨y, rfl, sx_snoc.mpr (.inl hy)⟩
          · obtain ⟨z, hz, rfl⟩ := List.mem_map.mp hx
            obtain ⟨y, rfl, hy⟩ := (P.span z).mp hz
            exact ⟨y ^^^ g k, by rw [hm k, bitXor_nat], sx_snoc.mpr (.inr ⟨y, hy, rfl⟩)⟩
        · rintro ⟨y, rfl, hy⟩
          rcases sx_snoc.mp hy with hy | ⟨z, hz, rfl⟩
          · exact .inl ⟨y, rfl, hy⟩
          · exact .inr (List.mem_map.mpr ⟨(z : Int), (P.span _).mpr ⟨z, rfl, hz⟩, by rw [hm k, bitXor_nat]⟩)
      · intro j hj
        rcases List.mem_append.mp hj with hj | hj
        · exact sx_snoc.mpr (.inl (P.all j hj))
        · rw [List.mem_singleton] at hj; subst hj
          exact sx_one (by simp)
      · exact P.sub.append (List.Sublist.refl _)
      · intro S hS e
        rcases sub_snoc hS with hs | ⟨S', rfl, hs⟩
        · exact P.ind S hs e
        · exfalso
          rw [xr_append] at e
          have e2 : xr g S' = g k := by
            have e3 : xr g [k] = g k := by simp [xr]
            rw [e3] at e
            have e4 : xr g S' ^^^ (xr g S' ^^^ g k) = xr g S' ^^^ 0 := by rw [e]
            rw [xor_xor_self, Nat.xor_zero] at e4
            exact e4.symm
          exact hn (sx_mem.mpr ⟨S', hs, e2⟩)
/-- what the line before comes to is what the picked ones before come to -/
theorem Pk.before {ms : List Int} {l : List Nat} (P : Pk g ms l) {x : Nat} : x ∈ sx g l ↔ x ∈ sx g (pkN ms l).1 :=
  ⟨fun h => sx_sub P.all h, fun h => sx_mono (fun y hy => P.sub.subset hy) h⟩
theorem pk_filter {ms : List Int} (hm : ∀ k, mkI ms k = (g k : Int)) {q : Nat → Bool} (line : List Nat) (hq : ∀ l k r, line = l ++ k :: r → (q k = true ↔ g k ∉ sx g l)) : ∀ l, (∃ r, line = l ++ r) → (pkN ms l).1 = l.filter q := by
  refine snoc_ind (fun _ => rfl) fun l k ih hr => ?_
  obtain ⟨r, hr⟩ := hr
  have hr' : line = l ++ k :: r := by rw [hr]; simp
  have h1 := ih ⟨_, hr'⟩
  have P := pk_all (g := g) ms hm l
  rw [pk_snoc, List.filter_append, ← h1]
  unfold pkStep
  have h2 := hq l k r hr'
  rw [P.before, ← pk_in hm P] at h2
  by_cases h : (pkN ms l).2.any (· == mkI ms k) = true
  · rw [if_pos h]
    have : q k = false := by
      cases e : q k with
      | false => rfl
      | true => exact absurd h (h2.mp e)
    rw [List.filter_cons, this]; simp
  · rw [if_neg h]
    have : q k = true := h2.mpr h
    rw [List.filter_cons, this]; simp
end
end Mine

/-! ### PL4 -/
namespace Mine

/-! ## rings and the last ones -/
theorem chN_nodup : ∀ n, ∀ l ∈ chN n, l.Nodup ∧ ∀ k ∈ l, k < n
  | 0 => fun l hl => by rw [chN, List.mem_singleton] at hl; subst hl; exact ⟨List.nodup_nil, fun k hk => nomatch hk⟩
  | n + 1 => fun l hl => by
    rw [chN, List.mem_append] at hl
    rcases hl with hl | hl
    · obtain ⟨a, b⟩ := chN_nodup n l hl
      exact ⟨a, fun k hk => Nat.lt_succ_of_lt (b k hk)⟩
    · obtain ⟨l', h', rfl⟩ := List.mem_map.mp hl
      obtain ⟨a, b⟩ := chN_nodup n l' h'
      refine ⟨?_, fun k hk => ?_⟩
      · rw [List.nodup_append]
        exact ⟨a, by simp, fun x hx y hy e => by rw [List.mem_singleton] at hy; have := b x hx; omega⟩
      · rcases List.mem_append.mp hk with hk | hk
        · exact Nat.lt_succ_of_lt (b k hk)
        · rw [List.mem_singleton] at hk; omega
theorem ch_full : ∀ n (p : Nat → Bool), (List.range n).filter p ∈ chN n
  | 0, p => by simp [chN]
  | n + 1, p => by
    rw [List.range_succ, List.filter_append, chN, List.mem_append]
    have ih := ch_full n p
    cases e : p n with
    | false => left; rw [List.filter_cons, e]; simpa using ih
    | true => right; rw [List.filter_cons, e]; exact List.mem_map.mpr ⟨_, ih, by simp⟩
theorem chG_mem {c : Nat} (h : c < 32) : chG c ∈ chN 5 := by
  have hl : c < (chN 5).length := by rw [chN_length]; exact h
  unfold chG
  rw [List.getD_eq_getElem?_getD, List.getElem?_eq_getElem hl]
  exact List.getElem_mem hl
theorem chG_nodup {c : Nat} (h : c < 32) : (chG c).Nodup := (chN_nodup 5 _ (chG_mem h)).1
theorem ch_get_of {l : List Nat} (h : l ∈ chN 5) : ∃ c, c < 32 ∧ chG c = l := by
  obtain ⟨c, hc, e⟩ := List.mem_iff_getElem.mp h
  refine ⟨c, by rw [chN_length] at hc; exact hc, ?_⟩
  unfold chG
  rw [List.getD_eq_getElem?_getD, List.getElem?_eq_getElem hc]
  exact e
/-- every choice stands among the choices -/
theorem ch_perm {S : List Nat} (hn : S.Nodup) (hb : ∀ k ∈ S, k < 5) : ∃ c, c < 32 ∧ (chG c).Perm S := by
  obtain ⟨c, hc, e⟩ := ch_get_of (ch_full 5 fun k => S.contains k)
  refine ⟨c, hc, ?_⟩
  rw [e, List.perm_ext_iff_of_nodup (List.nodup_range.filter _) hn]
  intro a
  rw [List.mem_filter, List.mem_range, List.contains_iff_mem]
  exact ⟨fun h => h.2, fun h => ⟨hb a h, h⟩⟩

section
variable {g : Nat → Nat} {ts : List Int}
theorem mx_map (hm : ∀ k, mkI ts k = (g k : Int)) : ∀ n, mxN ts n = (chN n).map fun l => ((xr g l : Nat) : Int)
  | 0 => rfl
  | n + 1 => by
    rw [mxN, chN, mx_map hm n, List.map_append, List.map_map, List.map_map]
    congr 1
    refine List.map_congr_left fun l _ => ?_
    show Builtin.bitXor ((xr g l : Nat) : Int) (mkI ts n) = ((xr g (l ++ [n]) : Nat) : Int)
    rw [hm n, bitXor_nat, xr_append]
    simp [xr]
theorem mxG_eq (hm : ∀ k, mkI ts k = (g k : Int)) {c : Nat} (h : c < 32) : mxG ts c = ((xr g (chG c) : Nat) : Int) := by
  have hl : c < (chN 5).length := by rw [chN_length]; exact h
  unfold mxG chG
  rw [mx_map hm, List.getD_eq_getElem?_getD, List.getD_eq_getElem?_getD, List.getElem?_map, List.getElem?_eq_getElem hl]
  rfl
theorem ring_iff (hm : ∀ k, mkI ts k = (g k : Int)) {r : List Nat} : r ∈ ringL ts ↔ ∃ c, 1 ≤ c ∧ c < 32 ∧ xr g (chG c) = 0 ∧ r = chG c := by
  constructor
  · intro h
    obtain ⟨c, hc, rfl⟩ := List.mem_map.mp h
    obtain ⟨h1, h2, h3⟩ := ringC_mem hc
    rw [mxG_eq hm h2] at h3
    exact ⟨c, h1, h2, by omega, rfl⟩
  · rintro ⟨c, h1, h2, h3, rfl⟩
    refine List.mem_map.mpr ⟨c, ?_, rfl⟩
    unfold ringC
    refine List.mem_filter.mpr ⟨List.mem_map.mpr ⟨c - 1, List.mem_range.mpr (by omega), by omega⟩, ?_⟩
    rw [mxG_eq hm h2, h3]; rfl
theorem ring_of (hm : ∀ k, mkI ts k = (g k : Int)) {S : List Nat} (hn : S.Nodup) (hb : ∀ k ∈ S, k < 5) (h0 : S ≠ []) (hx : xr g S = 0) : ∃ r ∈ ringL ts, r.Perm S := by
  obtain ⟨c, hc, hp⟩ := ch_perm hn hb
  refine ⟨chG c, (ring_iff hm).mpr ⟨c, ?_, hc, by rw [xr_perm hp, hx], rfl⟩, hp⟩
  refine Nat.pos_of_ne_zero fun e => ?_
  subst e
  exact h0 (List.Perm.nil_eq hp).symm
theorem ring_ok (hm : ∀ k, mkI ts k = (g k : Int)) {r : List Nat} (h : r ∈ ringL ts) : r.Nodup ∧ (∀ k ∈ r, k < 5) ∧ r ≠ [] ∧ xr g r = 0 := by
  obtain ⟨c, h1, h2, h3, rfl⟩ := (ring_iff hm).mp h
  obtain ⟨a, b, _⟩ := chG_ok c h2
  exact ⟨chG_nodup h2, a, fun e => by have := b h1; rw [e] at this; simp at this, h3⟩

theorem argBest_max (ns : List Int) : ∀ k j, j ≤ k → ns.getD j 0 ≤ ns.getD (argBest (fun i j => decide (ns.getD i 0 > ns.getD j 0)) k) 0
  | 0, j, h => by
    have : j = 0 := by omega
    subst this; exact Int.le_refl _
  | k + 1, j, h => by
    have ih := argBest_max ns k
    unfold argBest
    split
    · rename_i hb
      have hb := of_decide_eq_true hb
      by_cases e : j = k + 1
      · subst e; exact Int.le_refl _
      · have := ih j (by omega); omega
    · rename_i hb
      by_cases e : j = k + 1
      · subst e
        have hb : ¬ _ := fun h => hb (decide_eq_true h)
        omega
      · exact ih j (by omega)
theorem maxOf_le {ns : List Int} {x : Int} (h : x ∈ ns) : x ≤ maxOf ns := by
  obtain ⟨j, hj, rfl⟩ := List.mem_iff_getElem.mp h
  have := argBest_max ns (ns.length - 1) j (by omega)
  have e : ns.getD j 0 = ns[j] := by simp [hj]
  rw [e] at this
  exact this
theorem toI_idx (l : List Nat) (k : Nat) : (toI l).idxOf (k : Int) = l.idxOf k := by
  induction l with
  | nil => rfl
  | cons a l ih =>
    show ((a : Int) :: toI l).idxOf (k : Int) = _
    rw [List.idxOf_cons, List.idxOf_cons, ih]
    by_cases e : a = k
    · subst e; simp
    · have : ¬ (a : Int) = (k : Int) := by omega
      rw [beq_eq_false_iff_ne.mpr e, beq_eq_false_iff_ne.mpr this]
theorem toI_any (l : List Nat) (k : Nat) : (toI l).any (· == (k : Int)) = true ↔ k ∈ l := by
  rw [List.any_eq_true]
  constructor
  · rintro ⟨x, hx, e⟩
    obtain ⟨j, hj, rfl⟩ := List.mem_map.mp hx
    have : j = k := by have := eq_of_beq e; omega
    exact this ▸ hj
  · intro h
    exact ⟨(k : Int), List.mem_map.mpr ⟨k, h, rfl⟩, beq_self_eq_true _⟩

theorem idx_get {l : List Nat} {k : Nat} (h : k ∈ l) : l.getD (l.idxOf k) 0 = k := by
  rw [getD_lt (List.idxOf_lt_length_iff.mpr h)]
  exact List.getElem_idxOf _
theorem idx_inj {l : List Nat} {a b : Nat} (ha : a ∈ l) (hb : b ∈ l) (e : l.idxOf a = l.idxOf b) : a = b := by
  rw [← idx_get ha, ← idx_get hb, e]
/-- the last of a ring along the line -/
theorem last_of (hm : ∀ k, mkI ts k = (g k : Int)) {line r : List Nat} (hl : ∀ k, k < 5 → k ∈ line) (hr : r ∈ ringL ts) : ∃ k ∈ r, (∀ j ∈ r, line.idxOf j ≤ line.idxOf k) ∧ line.getD (lastI line r).toNat 0 = k := by
  obtain ⟨h1, h2, h3, h4⟩ := ring_ok hm hr
  have hpos : 0 < r.length := List.length_pos_iff.mpr h3
  have hmem := maxOf_mem (ns := r.map fun (k : Nat) => (((toI line).idxOf (k : Int) : Nat) : Int)) (by rw [List.length_map]; exact hpos)
  obtain ⟨k, hk, e⟩ := List.mem_map.mp hmem
  refine ⟨k, hk, fun j hj => ?_, ?_⟩
  · have := maxOf_le (ns := r.map fun (k : Nat) => (((toI line).idxOf (k : Int) : Nat) : Int)) (List.mem_map.mpr ⟨j, hj, rfl⟩)
    rw [← e, toI_idx, toI_idx] at this
    omega
  · have e2 : (lastI line r).toNat = line.idxOf k := by
      unfold lastI
      rw [← e, toI_idx, Int.toNat_natCast]
    rw [e2]
    exact idx_get (hl k (h2 k hk))
theorem left_iff (hm : ∀ k, mkI ts k = (g k : Int)) {line : List Nat} (hl : ∀ k, k < 5 → k ∈ line) {k : Nat} (hk : k ∈ line) : k ∈ leftL line ts ↔ ∃ r ∈ ringL ts, k ∈ r ∧ ∀ j ∈ r, line.idxOf j ≤ line.idxOf k := by
  unfold leftL
  rw [List.mem_map]
  constructor
  · rintro ⟨r, hr, e⟩
    obtain ⟨k', h1, h2, h3⟩ := last_of hm hl hr
    rw [h3] at e
    subst e
    exact ⟨r, hr, h1, h2⟩
  · rintro ⟨r, hr, h1, h2⟩
    obtain ⟨k', g1, g2, g3⟩ := last_of hm hl hr
    refine ⟨r, hr, ?_⟩
    rw [g3]
    have h5 := (ring_ok hm hr).2.1
    exact idx_inj (hl _ (h5 _ g1)) hk (Nat.le_antisymm (h2 _ g1) (g2 _ h1))

theorem idx_before {l r : List Nat} {k j : Nat} (hn : (l ++ k :: r).Nodup) (hj : j ∈ l ++ k :: r) : (l ++ k :: r).idxOf j ≤ (l ++ k :: r).idxOf k ↔ j ∈ l ∨ j = k := by
  have hk : k ∉ l := fun h => by
    rw [List.nodup_append] at hn
    exact hn.2.2 k h k List.mem_cons_self rfl
  have ek : (l ++ k :: r).idxOf k = l.length := by
    rw [List.idxOf_append, if_neg hk, List.idxOf_cons_self]; omega
  rw [ek, List.idxOf_append]
  by_cases h : j ∈ l
  · rw [if_pos h]
    have := List.idxOf_lt_length_iff.mpr h
    exact ⟨fun _ => .inl h, fun _ => by omega⟩
  · rw [if_neg h]
    by_cases e : j = k
    · subst e; simp
    · rw [List.idxOf_cons, beq_eq_false_iff_ne.mpr (Ne.symm e)]
      simp only [cond_false]
      exact ⟨fun h => by omega, fun h' => by rcases h' with h' | h' <;> contradiction⟩

/-- left out is what those before it come to -/
theorem left_span (hm : ∀ k, mkI ts k = (g k : Int)) {line l r : List Nat} {k : Nat} (hl : ∀ k, k < 5 → k ∈ line) (hb : ∀ k ∈ line, k < 5) (hn : line.Nodup) (e : line = l ++ k :: r) : k ∈ leftL line ts ↔ g k ∈ sx g l := by
  have hk : k ∈ line := by rw [e]; simp
  have hkl : k ∉ l := fun h => by
    rw [e, List.nodup_append] at hn
    exact hn.2.2 k h k List.mem_cons_self rfl
  rw [left_iff hm hl hk]
  constructor
  · rintro ⟨q, hq, h1, h2⟩
    obtain ⟨o1, o2, o3, o4⟩ := ring_ok hm hq
    have hs : ∀ j ∈ q, j ∈ l ∨ j = k := fun j hj => by
      have := h2 j hj
      rw [e] at this
      exact (idx_before (e ▸ hn) (e ▸ hl j (o2 j hj))).mp this
    refine sx_mem.mpr ⟨l.filter (q.contains ·), List.filter_sublist, ?_⟩
    have hln : l.Nodup := by rw [e, List.nodup_append] at hn; exact hn.1
    have hp : q.Perm (k :: l.filter (q.contains ·)) := by
      rw [List.perm_ext_iff_of_nodup o1 (List.nodup_cons.mpr ⟨fun h => hkl (List.mem_filter.mp h).1, hln.filter _⟩)]
      intro a
      rw [List.mem_cons, List.mem_filter, List.contains_iff_mem]
      constructor
      · intro ha
        rcases hs a ha with h | h
        · exact .inr ⟨h, ha⟩
        · exact .inl h
      · rintro (rfl | h)
        · exact h1
        · exact h.2
    have := xr_perm (g := g) hp
    rw [o4, xr] at this
    have h5 : g k ^^^ (g k ^^^ xr g (l.filter (q.contains ·))) = g k ^^^ 0 := by rw [← this]
    rw [xor_xor_self, Nat.xor_zero] at h5
    exact h5
  · intro h
    obtain ⟨S, hS, hx⟩ := sx_mem.mp h
    have hsub : ∀ a ∈ S, a ∈ l := fun a ha => hS.subset ha
    have hnd : (k :: S).Nodup := List.nodup_cons.mpr ⟨fun h => hkl (hsub k h), by
      rw [e, List.nodup_append] at hn; exact hS.nodup hn.1⟩
    obtain ⟨q, hq, hp⟩ := ring_of hm (S := k :: S) hnd (fun a ha => by
      rcases List.mem_cons.mp ha with rfl | ha
      · exact hb _ hk
      · exact hb a (by rw [e]; exact List.mem_append_left _ (hsub a ha))) (by simp) (by rw [xr, hx, Nat.xor_self])
    refine ⟨q, hq, hp.mem_iff.mpr List.mem_cons_self, fun j hj => ?_⟩
    have hj' := hp.mem_iff.mp hj
    have hjl : j ∈ l ∨ j = k := by
      rcases List.mem_cons.mp hj' with h | h
      · exact .inr h
      · exact .inl (hsub j h)
    have hjm : j ∈ line := by
      rw [e]; rcases hjl with h | rfl
      · exact List.mem_append_left _ h
      · simp
    rw [e] at hjm hn ⊢
    exact (idx_before hn hjm).mpr hjl

theorem hA_of (hm : ∀ k, mkI ts k = (g k : Int)) {line : List Nat} (hl : ∀ k, k < 5 → k ∈ line) (hb : ∀ k ∈ line, k < 5) (hn : line.Nodup) : (pkN ts line).1 = keptL line ts := by
  refine pk_filter hm line (fun l k r e => ?_) line ⟨[], by simp⟩
  rw [← left_span hm hl hb hn e, ← toI_any (leftL line ts) k]
  cases (toI (leftL line ts)).any (· == (k : Int)) <;> simp

/-- no ring within a choice: its marks are independent -/
theorem noRing_ind (hm : ∀ k, mkI ts k = (g k : Int)) {c : Nat} (h : noRing ts c = true) {J : List Nat} (hn : J.Nodup) (hb : ∀ k ∈ J, k < 5) (hp : ∀ k ∈ J, k ∈ chG c) : Ind g J := by
  intro S hS hx
  refine Classical.byContradiction fun h0 => ?_
  obtain ⟨r, hr, hrp⟩ := ring_of hm (hS.nodup hn) (fun k hk => hb k (hS.subset hk)) h0 hx
  unfold noRing at h
  rw [List.isEmpty_iff] at h
  have : r ∈ (ringL ts).filter fun r => (outC c r).isEmpty := by
    refine List.mem_filter.mpr ⟨hr, ?_⟩
    rw [List.isEmpty_iff]
    unfold outC
    rw [List.filter_eq_nil_iff]
    intro k hk
    have := (toI_any (chG c) k).mpr (hp k (hS.subset (hrp.mem_iff.mp hk)))
    rw [this]; decide
  rw [h] at this
  cases this
end
end Mine

/-! ### PL5 -/
namespace Mine

/-! ## sorted prices -/
def tab3 (a b c d e f : Bool) (i j : Nat) : Bool := match i, j with
  | 0, 1 => a
  | 0, 2 => b
  | 1, 0 => c
  | 1, 2 => d
  | 2, 0 => e
  | 2, 1 => f
  | _, _ => false
def weak3 (t : Nat → Nat → Bool) : Bool := (List.range 3).all fun i => (List.range 3).all fun j => !(t i j && t j i) && (List.range 3).all fun k => !t i j || (t i k || t k j)
def srt3 (t : Nat → Nat → Bool) (n : Nat) : Bool := let l := sortIdx t n; l.isPerm (List.range n) && decide (l.Pairwise fun i j => t j i = false)
def bools : List Bool := [false, true]
theorem srt3_chk : (bools.all fun a => bools.all fun b => bools.all fun c => bools.all fun d => bools.all fun e => bools.all fun f => !weak3 (tab3 a b c d e f) || ((List.range 4).all fun n => srt3 (tab3 a b c d e f) n)) = true := by decide +kernel
theorem bools_all {p : Bool → Bool} (h : bools.all p = true) (b : Bool) : p b = true := List.all_eq_true.mp h b (by cases b <;> decide)
theorem sortIdx_congr {lt lt' : Nat → Nat → Bool} {n : Nat} (hn : n ≤ 3) (h : ∀ i j, i < n → j < n → lt i j = lt' i j) : sortIdx lt n = sortIdx lt' n := by
  unfold sortIdx
  by_cases e : n < 2
  · rw [if_pos e, if_pos e]
  · rw [if_neg e, if_neg e]
    rcases (by omega : n = 2 ∨ n = 3) with rfl | rfl
    · rw [askRun_congr (α := Nat) h _ below2]
    · rw [askRun_congr (α := Nat) h _ below3]
theorem srt3_all {t : Nat → Nat → Bool} {n : Nat} (hn : n ≤ 3) (hir : ∀ i, t i i = false) (has : ∀ i j, t i j = true → t j i = true → False) (hnt : ∀ i j k, t i j = true → t i k = true ∨ t k j = true) :
    (sortIdx t n).Perm (List.range n) ∧ (sortIdx t n).Pairwise fun i j => t j i = false := by
  have hT : ∀ i j, i < 3 → j < 3 → tab3 (t 0 1) (t 0 2) (t 1 0) (t 1 2) (t 2 0) (t 2 1) i j = t i j := fun i j hi hj => by
    have h0 := hir 0; have h1 := hir 1; have h2 := hir 2
    match i, j, hi, hj with
    | 0, 0, _, _ => exact h0.symm
    | 0, 1, _, _ => rfl
    | 0, 2, _, _ => rfl
    | 1, 0, _, _ => rfl
    | 1, 1, _, _ => exact h1.symm
    | 1, 2, _, _ => rfl
    | 2, 0, _, _ => rfl
    | 2, 1, _, _ => rfl
    | 2, 2, _, _ => exact h2.symm
  have hw : weak3 (tab3 (t 0 1) (t 0 2) (t 1 0) (t 1 2) (t 2 0) (t 2 1)) = true := by
    unfold weak3
    rw [List.all_eq_true]; intro i hi
    rw [List.all_eq_true]; intro j hj
    rw [List.mem_range] at hi hj
    rw [Bool.and_eq_true]
    refine ⟨?_, ?_⟩
    · rw [hT i j hi hj, hT j i hj hi]
      cases e : t i j <;> cases e' : t j i <;> first | rfl | exact (has i j e e').elim
    · rw [List.all_eq_true]; intro k hk
      rw [List.mem_range] at hk
      rw [hT i j hi hj, hT i k hi hk, hT k j hk hj]
      cases e : t i j with
      | false => rfl
      | true => rcases hnt i j k e with h | h <;> rw [h] <;> simp
  have hc := bools_all (bools_all (bools_all (bools_all (bools_all (bools_all srt3_chk (t 0 1)) (t 0 2)) (t 1 0)) (t 1 2)) (t 2 0)) (t 2 1)
  rw [hw] at hc
  have hs : srt3 (tab3 (t 0 1) (t 0 2) (t 1 0) (t 1 2) (t 2 0) (t 2 1)) n = true := by
    have hc : ((List.range 4).all fun n => srt3 (tab3 (t 0 1) (t 0 2) (t 1 0) (t 1 2) (t 2 0) (t 2 1)) n) = true := by simpa only [Bool.not_true, Bool.false_or] using hc
    exact all_lt hc (by omega)
  have he : sortIdx (tab3 (t 0 1) (t 0 2) (t 1 0) (t 1 2) (t 2 0) (t 2 1)) n = sortIdx t n := sortIdx_congr hn fun i j hi hj => hT i j (by omega) (by omega)
  unfold srt3 at hs
  simp only [Bool.and_eq_true, decide_eq_true_eq, List.isPerm_iff] at hs
  rw [he] at hs
  refine ⟨hs.1, ?_⟩
  have hb : ∀ i ∈ sortIdx t n, i < 3 := fun i hi => by
    have := List.mem_range.mp (hs.1.mem_iff.mp hi); omega
  refine List.Pairwise.imp_of_mem (fun {a b} ha hb' h => ?_) hs.2
  rw [← hT b a (hb b hb') (hb a ha)]
  exact h

def prLe (x y : Int × Int) : Prop := prLt y x = false
theorem prLt_iff (x y : Int × Int) : prLt x y = true ↔ x.1 < y.1 ∨ (x.1 = y.1 ∧ x.2 < y.2) := by
  unfold prLt
  (repeat' split) <;> simp <;> omega
theorem prLe_anti {x y : Int × Int} (h : prLe x y) (g : prLe y x) : x = y := by
  have h1 : ¬ (prLt y x = true) := by unfold prLe at h; rw [h]; decide
  have h2 : ¬ (prLt x y = true) := by unfold prLe at g; rw [g]; decide
  rw [prLt_iff] at h1 h2
  exact Prod.ext (by omega) (by omega)
theorem prs_sorted {vs : List (Int × Int)} (hn : vs.length ≤ 3) :
    (sortOut (0, 0) (fun i j => prLt (vs.getD i (0, 0)) (vs.getD j (0, 0))) vs).Perm vs ∧ (sortOut (0, 0) (fun i j => prLt (vs.getD i (0, 0)) (vs.getD j (0, 0))) vs).Pairwise prLe := by
  obtain ⟨h1, h2⟩ := srt3_all (t := fun i j => prLt (vs.getD i (0, 0)) (vs.getD j (0, 0))) hn (fun i => by
    cases e : prLt (vs.getD i (0, 0)) (vs.getD i (0, 0)) with
    | false => rfl
    | true => rw [prLt_iff] at e; omega) (fun i j => by simp only [prLt_iff]; omega) (fun i j k => by simp only [prLt_iff]; omega)
  unfold sortOut
  refine ⟨?_, ?_⟩
  · have := h1.map fun i => vs.getD i ((0, 0) : Int × Int)
    rw [range_getD] at this
    exact this
  · rw [List.pairwise_map]
    exact h2
theorem prs_same {vs ws : List (Int × Int)} (hv : vs.length ≤ 3) (h : vs.Perm ws) :
    sortOut (0, 0) (fun i j => prLt (vs.getD i (0, 0)) (vs.getD j (0, 0))) vs = sortOut (0, 0) (fun i j => prLt (ws.getD i (0, 0)) (ws.getD j (0, 0))) ws := by
  obtain ⟨a1, a2⟩ := prs_sorted hv
  obtain ⟨b1, b2⟩ := prs_sorted (vs := ws) (by rw [← h.length_eq]; exact hv)
  exact List.Perm.eq_of_pairwise (fun a b _ _ => prLe_anti) a2 b2 (a1.trans (h.trans b1.symm))
theorem wl_iff {ps : List (Int × Int)} {l m : List Nat} (hl : l.length ≤ 3) (hm : m.length ≤ 3) : wl ps l = wl ps m ↔ (l.map (prI ps)).Perm (m.map (prI ps)) := by
  unfold wl
  constructor
  · intro h
    have h1 := (prs_sorted (vs := l.map (prI ps)) (by rw [List.length_map]; exact hl)).1
    have h2 := (prs_sorted (vs := m.map (prI ps)) (by rw [List.length_map]; exact hm)).1
    rw [h] at h1
    exact h1.symm.trans h2
  · intro h
    exact prs_same (by rw [List.length_map]; exact hl) h

/-! ## sums -/
theorem sum_perm {l m : List Int} (h : l.Perm m) : l.sum = m.sum := by
  induction h with
  | nil => rfl
  | cons x _ ih => rw [List.sum_cons, List.sum_cons, ih]
  | swap x y l => simp only [List.sum_cons]; omega
  | trans _ _ h1 h2 => exact h1.trans h2
def cntE (ps : List (Int × Int)) (ms : List Int) (l : List Nat) : Sum5 := l.foldl (fun x k => addE ps ms k x) ⟨0, 0, 0, 0, []⟩
def kvF (ms : List Int) (l : List Nat) : List (Int × Int) := l.foldl (fun kv k => addCallers kv [(mkI ms k, 1)]) []
theorem sm_map (ps : List (Int × Int)) (ms : List Int) : ∀ n, smN ps ms n = (chN n).map (cntE ps ms)
  | 0 => rfl
  | n + 1 => by
    rw [smN, chN, sm_map ps ms n, List.map_append, List.map_map, List.map_map]
    congr 1
    refine List.map_congr_left fun l _ => ?_
    show addE ps ms n (cntE ps ms l) = cntE ps ms (l ++ [n])
    unfold cntE
    rw [List.foldl_append]; rfl
theorem smG_eq (ps : List (Int × Int)) (ms : List Int) {c : Nat} (h : c < 32) : smG ps ms c = cntE ps ms (chG c) := by
  have hl : c < (chN 5).length := by rw [chN_length]; exact h
  unfold smG chG
  rw [sm_map, List.getD_eq_getElem?_getD, List.getD_eq_getElem?_getD, List.getElem?_map, List.getElem?_eq_getElem hl]
  rfl
theorem cnt_snoc (ps : List (Int × Int)) (ms : List Int) (l : List Nat) (k : Nat) : cntE ps ms (l ++ [k]) = addE ps ms k (cntE ps ms l) := by
  unfold cntE; rw [List.foldl_append]; rfl
theorem kv_snoc (ms : List Int) (l : List Nat) (k : Nat) : kvF ms (l ++ [k]) = addCallers (kvF ms l) [(mkI ms k, 1)] := by
  unfold kvF; rw [List.foldl_append]; rfl
theorem cnt_eq (ps : List (Int × Int)) (ms : List Int) : ∀ l, cntE ps ms l = ⟨(l.length : Nat), lowI ps l, highI ps l, bmI l, kvF ms l⟩ := by
  refine snoc_ind rfl fun l k ih => ?_
  rw [cnt_snoc, ih, kv_snoc]
  unfold addE lowI highI bmI
  simp only [List.map_append, List.sum_append, List.map_cons, List.map_nil, List.sum_cons, List.sum_nil, List.length_append, List.length_singleton]
  congr 1
  · omega
  · omega
  · omega
  · omega
theorem bm_ch : ∀ c : Nat, c < 32 → bmI (chG c) = (c : Int) := by decide +kernel
theorem bm_perm {l m : List Nat} (h : l.Perm m) : bmI l = bmI m := sum_perm (h.map _)
theorem low_perm {ps : List (Int × Int)} {l m : List Nat} (h : l.Perm m) : lowI ps l = lowI ps m := sum_perm (h.map _)
theorem high_perm {ps : List (Int × Int)} {l m : List Nat} (h : l.Perm m) : highI ps l = highI ps m := sum_perm (h.map _)
/-- the best sum is the sum of the picked ones -/
theorem best_of {P : List Nat} (hn : P.Nodup) (hb : ∀ k ∈ P, k < 5) : ∃ c : Nat, c < 32 ∧ bmI P = (c : Int) ∧ (chG c).Perm P := by
  obtain ⟨c, hc, hp⟩ := ch_perm hn hb
  exact ⟨c, hc, by rw [← bm_perm hp, bm_ch c hc], hp⟩

/-! ## dominance -/
def sA (f : Nat → Int) (l : List Nat) : Int := (l.map f).sum
theorem sA_cons (f : Nat → Int) (k : Nat) (l : List Nat) : sA f (k :: l) = f k + sA f l := by unfold sA; simp
theorem sA_perm {f : Nat → Int} {l m : List Nat} (h : l.Perm m) : sA f l = sA f m := sum_perm (h.map _)
theorem dom_sum {kA kB : Nat → Int} : ∀ {P I : List Nat}, P.length = I.length → (∀ n, n < P.length → kA (P.getD n 0) < kA (I.getD n 0) ∨ (kA (P.getD n 0) = kA (I.getD n 0) ∧ kB (P.getD n 0) ≤ kB (I.getD n 0))) →
    sA kA P < sA kA I ∨ (sA kA P = sA kA I ∧ sA kB P < sA kB I) ∨ (sA kA P = sA kA I ∧ sA kB P = sA kB I ∧ P.map kA = I.map kA ∧ P.map kB = I.map kB)
  | [], [], _, _ => .inr (.inr ⟨rfl, rfl, rfl, rfl⟩)
  | p :: P, i :: I, hl, h => by
    have ih := dom_sum (P := P) (I := I) (by simpa using hl) fun n hn => by
      have := h (n + 1) (by simpa using hn)
      simpa using this
    have h0 := h 0 (by simp)
    simp only [List.getD_cons_zero] at h0
    simp only [sA_cons, List.map_cons, List.cons.injEq]
    by_cases e : kA p = kA i ∧ kB p = kB i
    · obtain ⟨e1, e2⟩ := e
      rw [e1, e2]
      rcases ih with ih | ih | ⟨i1, i2, i3, i4⟩
      · exact .inl (by omega)
      · exact .inr (.inl (by omega))
      · exact .inr (.inr ⟨by omega, by omega, ⟨rfl, i3⟩, rfl, i4⟩)
    · rcases ih with ih | ih | ⟨i1, i2, i3, i4⟩
      · exact .inl (by omega)
      · by_cases e3 : kA p < kA i
        · exact .inl (by omega)
        · exact .inr (.inl (by omega))
      · by_cases e3 : kA p < kA i
        · exact .inl (by omega)
        · exact .inr (.inl (by omega))
theorem not_lx {kA kB : Nat → Int} {p i : Nat} (h : ¬ Lx kA kB i p) : kA p < kA i ∨ (kA p = kA i ∧ kB p ≤ kB i) := by unfold Lx at h; omega

theorem dominate {g : Nat → Nat} {ms : List Int} {kA kB : Nat → Int} (hm : ∀ k, mkI ms k = (g k : Int)) {line I : List Nat} {q : Nat → Bool} (hq : ∀ l k r, line = l ++ k :: r → (q k = true ↔ g k ∉ sx g l)) (hs : line.Pairwise (Lx kA kB)) (hI : I.Sublist line) (hind : Ind g I)
    (hl : (pkN ms line).1.length = I.length) : ∀ n, n < (pkN ms line).1.length → ¬ Lx kA kB (I.getD n 0) ((pkN ms line).1.getD n 0) := by
  intro n hn hlt
  have hP := pk_filter hm line hq line ⟨[], by simp⟩
  obtain ⟨P, hPe⟩ : ∃ P, P = (pkN ms line).1 := ⟨_, rfl⟩
  rw [← hPe] at hn hlt hP hl
  have hnd := pair_nodup hs
  have hPn : P.Nodup := by rw [hP]; exact hnd.filter _
  have hnI : n < I.length := by omega
  rw [getD_lt hn, getD_lt hnI] at hlt
  have hpm : P[n] ∈ P := List.getElem_mem hn
  obtain ⟨hpl, hqp⟩ := List.mem_filter.mp ((congrArg (fun l => P[n] ∈ l) hP).mp hpm)
  obtain ⟨l, r, he⟩ := List.append_of_mem hpl
  have hA := pk_filter hm line hq l ⟨_, he⟩
  have hsplit : P = l.filter q ++ P[n] :: r.filter q := by
    have h1 : P = (l ++ P[n] :: r).filter q := by rw [← he]; exact hP
    rw [List.filter_append, List.filter_cons, if_pos hqp] at h1
    exact h1
  have hlen : (l.filter q).length = n := by
    have h1 : (l.filter q).length < P.length := by
      have := congrArg List.length hsplit
      rw [List.length_append, List.length_cons] at this
      omega
    have h2 : P[(l.filter q).length]? = some P[n] := by
      have : (l.filter q ++ P[n] :: r.filter q)[(l.filter q).length]? = some P[n] := by simp
      rwa [← hsplit] at this
    have h3 : P[(l.filter q).length] = P[n] := by
      rw [List.getElem?_eq_getElem h1] at h2
      exact Option.some.inj h2
    exact (List.getElem_inj hPn).mp h3
  have hIp : I.Pairwise (Lx kA kB) := hs.sublist hI
  have hin : ∀ x ∈ I.take (n + 1), g x ∈ sx g (l.filter q) := fun x hx => by
    obtain ⟨m, hm', rfl⟩ := List.mem_iff_getElem.mp hx
    rw [List.length_take] at hm'
    rw [List.getElem_take]
    have hxp : Lx kA kB I[m] P[n] := by
      by_cases e : m = n
      · subst e; exact hlt
      · exact (List.pairwise_iff_getElem.mp hIp m n (by omega) hnI (by omega)).trans hlt
    have hxl : I[m] ∈ line := hI.subset (List.getElem_mem (by omega))
    have hs' := hs
    rw [he, List.pairwise_append, List.pairwise_cons] at hs'
    have hml : I[m] ∈ l := by
      rw [he] at hxl
      rcases List.mem_append.mp hxl with h | h
      · exact h
      · rcases List.mem_cons.mp h with h | h
        · rw [h] at hxp; exact (hxp.asymm hxp).elim
        · exact (hxp.asymm (hs'.2.1.1 _ h)).elim
    rw [← hA]
    exact (pk_all ms hm l).all _ hml
  have := (hind.sub (List.take_sublist (n + 1) I)).card hin
  rw [hlen, List.length_take] at this
  omega

theorem colsum {ks ps : List (Int × Int)} {i j v w : Int} (K : Keys ks i j v w) (l : List Nat) : v * colI (lowI ps l, highI ps l) i = sA (kyA ks ps) l ∧ w * colI (lowI ps l, highI ps l) j = sA (kyB ks ps) l := by
  induction l with
  | nil => unfold lowI highI sA colI; simp
  | cons k l ih =>
    rw [sA_cons, sA_cons, ← ih.1, ← ih.2]
    unfold kyA kyB
    rw [K.eq]
    have e1 : lowI ps (k :: l) = (prI ps k).1 + lowI ps l := by unfold lowI; simp
    have e2 : highI ps (k :: l) = (prI ps k).2 + highI ps l := by unfold highI; simp
    simp only [List.getD_cons_zero, List.getD_cons_succ, e1, e2, ← Int.mul_add]
    rcases K.col with ⟨rfl, rfl⟩ | ⟨rfl, rfl⟩ <;> exact ⟨rfl, rfl⟩
theorem Keys.same {ks ps : List (Int × Int)} {i j v w : Int} (K : Keys ks i j v w) {a b : Nat} (hA : kyA ks ps a = kyA ks ps b) (hB : kyB ks ps a = kyB ks ps b) : prI ps a = prI ps b := by
  unfold kyA at hA; unfold kyB at hB
  rw [K.eq] at hA hB
  simp only [List.getD_cons_zero, List.getD_cons_succ] at hA hB
  have h1 : colI (prI ps a) i = colI (prI ps b) i := by rcases K.hv with rfl | rfl <;> omega
  have h2 : colI (prI ps a) j = colI (prI ps b) j := by rcases K.hw with rfl | rfl <;> omega
  rcases K.col with ⟨rfl, rfl⟩ | ⟨rfl, rfl⟩
  · exact Prod.ext h1 h2
  · exact Prod.ext h2 h1
theorem same_list {ks ps : List (Int × Int)} {i j v w : Int} (K : Keys ks i j v w) : ∀ {P I : List Nat}, P.map (kyA ks ps) = I.map (kyA ks ps) → P.map (kyB ks ps) = I.map (kyB ks ps) → P.map (prI ps) = I.map (prI ps)
  | [], [], _, _ => rfl
  | [], _ :: _, h, _ => by cases h
  | _ :: _, [], h, _ => by cases h
  | a :: P, b :: I, h, g => by
    rw [List.map_cons, List.map_cons, List.cons.injEq] at *
    exact ⟨K.same h.1 g.1, same_list K h.2 g.2⟩
theorem sA_prices {ks ps : List (Int × Int)} {P I : List Nat} (h : (P.map (prI ps)).Perm (I.map (prI ps))) : sA (kyA ks ps) P = sA (kyA ks ps) I ∧ sA (kyB ks ps) P = sA (kyB ks ps) I := by
  constructor
  · have := sum_perm (h.map fun p => (ks.getD 0 (0, 0)).2 * colI p (ks.getD 0 (0, 0)).1)
    rw [List.map_map, List.map_map] at this
    exact this
  · have := sum_perm (h.map fun p => (ks.getD 1 (0, 0)).2 * colI p (ks.getD 1 (0, 0)).1)
    rw [List.map_map, List.map_map] at this
    exact this

end Mine

/-! ### PL6 -/
namespace Mine

/-! ## the comparisons -/
theorem hB_of {g : Nat → Nat} {ms : List Int} {ks ps : List (Int × Int)} {i j v w : Int} (K : Keys ks i j v w) (hm : ∀ k, mkI ms k = (g k : Int)) {line : List Nat} (hl : ∀ k, k < 5 → k ∈ line) (hb : ∀ k ∈ line, k < 5) (hs : line.Pairwise (Lx (kyA ks ps) (kyB ks ps)))
    {P : List Nat} (hP : P = (pkN ms line).1) (hp3 : P.length ≤ 3) {c : Nat} (hc : c < 32) (hlen : (chG c).length = P.length) (hno : noRing ms c = true) :
    cmpS5 ks (bestS ps ms P) (smG ps ms c) = dueV ps P c ∧ cmpS5 ks (smG ps ms c) (bestS ps ms P) = -dueV ps P c := by
  have hnd := pair_nodup hs
  have hPs : P.Sublist line := by rw [hP]; exact (pk_all ms hm line).sub
  obtain ⟨c0, hc0, hbm, hpm⟩ := best_of (hPs.nodup hnd) (fun k hk => hb k (hPs.subset hk))
  have hcn := chG_nodup hc
  have hc5 := (chG_ok c hc).1
  obtain ⟨I, hI⟩ : ∃ I, I = line.filter ((chG c).contains ·) := ⟨_, rfl⟩
  have hIs : I.Sublist line := by rw [hI]; exact List.filter_sublist
  have hIp : I.Perm (chG c) := by
    rw [hI, List.perm_ext_iff_of_nodup (hnd.filter _) hcn]
    intro a
    rw [List.mem_filter, List.contains_iff_mem]
    exact ⟨fun h => h.2, fun h => ⟨hl a (hc5 a h), h⟩⟩
  have hInd : Ind g I := noRing_ind hm hno (hIs.nodup hnd) (fun k hk => hb k (hIs.subset hk)) fun k hk => hIp.mem_iff.mp hk
  have hIl : P.length = I.length := by rw [hIp.length_eq, hlen]
  have hq : ∀ (l : List Nat) (k : Nat) (r : List Nat), line = l ++ k :: r → ((!((toI (leftL line ms)).any (· == (k : Int)))) = true ↔ g k ∉ sx g l) := fun l k r e => by
    rw [← left_span hm hl hb hnd e, ← toI_any (leftL line ms) k]
    cases (toI (leftL line ms)).any (· == (k : Int)) <;> simp
  have hdom := dominate (kA := kyA ks ps) (kB := kyB ks ps) (q := fun k => !((toI (leftL line ms)).any (· == (k : Int)))) hm hq hs hIs hInd (by rw [← hP]; exact hIl)
  rw [← hP] at hdom
  have hsum := dom_sum (kA := kyA ks ps) (kB := kyB ks ps) hIl fun n hn => not_lx (hdom n hn)
  have e1 : bestS ps ms P = cntE ps ms (chG c0) := by
    show smG ps ms (bmI P).toNat = _
    rw [hbm, Int.toNat_natCast, smG_eq ps ms hc0]
  rw [e1, smG_eq ps ms hc, cnt_eq, cnt_eq]
  have sP := colsum K (ps := ps) P
  have sI := colsum K (ps := ps) I
  unfold cmpS5
  show cmpOf ks (colI (lowI ps (chG c0), highI ps (chG c0))) (colI (lowI ps (chG c), highI ps (chG c))) = _ ∧ cmpOf ks (colI (lowI ps (chG c), highI ps (chG c))) (colI (lowI ps (chG c0), highI ps (chG c0))) = _
  rw [low_perm hpm, high_perm hpm, ← low_perm hIp, ← high_perm hIp, K.cmp, K.cmp, sP.1, sP.2, sI.1, sI.2]
  have hwl : wl ps (chG c) = wl ps P ↔ (I.map (prI ps)).Perm (P.map (prI ps)) := by
    rw [wl_iff (by omega) hp3]
    exact ⟨fun h => (hIp.map _).trans h, fun h => (hIp.map _).symm.trans h⟩
  unfold dueV
  by_cases hw : wl ps (chG c) = wl ps P
  · have := sA_prices (ks := ks) (hwl.mp hw)
    rw [if_pos hw]
    refine ⟨?_, ?_⟩ <;> (repeat' split) <;> omega
  · rw [if_neg hw]
    have hne : ¬ (sA (kyA ks ps) P = sA (kyA ks ps) I ∧ sA (kyB ks ps) P = sA (kyB ks ps) I) := fun he => by
      rcases hsum with h | h | ⟨_, _, h3, h4⟩
      · omega
      · omega
      · exact hw (hwl.mpr (by rw [same_list K h3 h4]))
    refine ⟨?_, ?_⟩ <;> (repeat' split) <;> omega

/-! ## tables -/
def keysN (kvs : List (Int × Int)) : Prop := (kvs.map (·.1)).Nodup
theorem getI_none {kvs : List (Int × Int)} {x : Int} : getI kvs x = none ↔ x ∉ kvs.map (·.1) := by
  unfold getI
  rw [Option.map_eq_none_iff, List.find?_eq_none, List.mem_map]
  constructor
  · rintro h ⟨p, hp, rfl⟩
    exact h p hp (by simp)
  · intro h p hp e
    exact h ⟨p, hp, by simpa using e⟩
theorem getI_append {k l : List (Int × Int)} {x : Int} : getI (k ++ l) x = (getI k x).or (getI l x) := by
  unfold getI
  rw [List.find?_append]
  cases List.find? (fun p => decide (p.1 = x)) k <;> rfl
theorem getI_map (kvs : List (Int × Int)) (k v x : Int) : getI (kvs.map fun p => if p.1 = k then (p.1, v) else p) x = if x = k then (getI kvs k).map (fun _ => v) else getI kvs x := by
  induction kvs with
  | nil => unfold getI; simp
  | cons p r ih =>
    have hc : ∀ (q : Int × Int) (l : List (Int × Int)) (y : Int), getI (q :: l) y = if q.1 = y then some q.2 else getI l y := fun q l y => by
      unfold getI
      rw [List.find?_cons]
      by_cases e : q.1 = y
      · simp [e]
      · simp [e]
    rw [List.map_cons, hc, hc, hc, ih]
    by_cases e1 : p.1 = k <;> by_cases e2 : x = k
    · subst e2; simp [e1]
    · have : ¬ k = x := fun h => e2 h.symm
      simp [e1, e2, this]
    · subst e2; simp [e1]
    · simp [e1, e2]
theorem put_get (kvs : List (Int × Int)) (k v x : Int) : getI (putI kvs k v) x = if x = k then some v else getI kvs x := by
  unfold putI
  by_cases h : kvs.any (fun p => decide (p.1 = k)) = true
  · rw [if_pos h, getI_map]
    by_cases e : x = k
    · rw [if_pos e, if_pos e]
      cases e2 : getI kvs k with
      | none =>
        rw [getI_none] at e2
        rw [List.any_eq_true] at h
        obtain ⟨p, hp, hk⟩ := h
        exact absurd (List.mem_map.mpr ⟨p, hp, of_decide_eq_true hk⟩) e2
      | some n => rfl
    · rw [if_neg e, if_neg e]
  · rw [if_neg h, getI_append]
    have hn : ∀ y, getI [(k, v)] y = if y = k then some v else none := fun y => by
      unfold getI
      by_cases e : k = y
      · subst e; simp
      · simp [e, Ne.symm e]
    rw [hn]
    by_cases e : x = k
    · rw [if_pos e, if_pos e]
      have : getI kvs x = none := by
        rw [getI_none, e]
        intro hc
        obtain ⟨p, hp, hk⟩ := List.mem_map.mp hc
        exact h (List.any_eq_true.mpr ⟨p, hp, decide_eq_true hk⟩)
      rw [this]; rfl
    · rw [if_neg e, if_neg e]
      cases getI kvs x <;> rfl
theorem put_keys {kvs : List (Int × Int)} (h : keysN kvs) (k v : Int) : keysN (putI kvs k v) := by
  unfold putI
  split
  · have : (kvs.map fun p => if p.1 = k then (p.1, v) else p).map (·.1) = kvs.map (·.1) := by
      rw [List.map_map]
      refine List.map_congr_left fun p _ => ?_
      show (if p.1 = k then (p.1, v) else p).1 = p.1
      split <;> rfl
    unfold keysN; rw [this]; exact h
  · rename_i hn
    unfold keysN
    rw [List.map_append, List.nodup_append]
    refine ⟨h, by simp, fun a ha b hb e => ?_⟩
    simp only [List.map_cons, List.map_nil, List.mem_singleton] at hb
    obtain ⟨p, hp, rfl⟩ := List.mem_map.mp ha
    exact hn (List.any_eq_true.mpr ⟨p, hp, decide_eq_true (e.trans hb)⟩)
theorem copy_get : ∀ (kvs acc : List (Int × Int)), keysN kvs → keysN acc → (∀ x, getI (kvs.foldl (fun a p => putI a p.1 p.2) acc) x = (getI kvs x).or (getI acc x)) ∧ keysN (kvs.foldl (fun a p => putI a p.1 p.2) acc)
  | [], acc, _, ha => ⟨fun x => by show getI acc x = Option.or none (getI acc x); cases getI acc x <;> rfl, ha⟩
  | p :: r, acc, hk, ha => by
    have hk' := List.nodup_cons.mp (show (p.1 :: r.map (·.1)).Nodup from hk)
    obtain ⟨h1, h2⟩ := copy_get r (putI acc p.1 p.2) hk'.2 (put_keys ha _ _)
    refine ⟨fun x => ?_, h2⟩
    rw [List.foldl_cons, h1, put_get]
    have hc : getI (p :: r) x = if x = p.1 then some p.2 else getI r x := by
      unfold getI
      rw [List.find?_cons]
      by_cases e : p.1 = x
      · subst e; simp
      · simp [e, Ne.symm e]
    rw [hc]
    by_cases e : x = p.1
    · rw [if_pos e, if_pos e]
      have : getI r x = none := by rw [getI_none, e]; exact hk'.1
      rw [this]; rfl
    · rw [if_neg e, if_neg e]
theorem dict_same {kvs lvs : List (Int × Int)} (hk : keysN kvs) (hl : keysN lvs) (h : ∀ x, getI kvs x = getI lvs x) : dictEq kvs lvs = true := by
  unfold dictEq
  have hp : (kvs.map (·.1)).Perm (lvs.map (·.1)) := by
    rw [List.perm_ext_iff_of_nodup hk hl]
    intro a
    have h1 := @getI_none kvs a
    have h2 := @getI_none lvs a
    rw [h a] at h1
    have h3 := h1.symm.trans h2
    exact Decidable.not_iff_not.mp h3
  have hlen : kvs.length = lvs.length := by have := hp.length_eq; rwa [List.length_map, List.length_map] at this
  rw [hlen, beq_self_eq_true, Bool.true_and, List.all_eq_true]
  intro p hp'
  rw [← h p.1, getI_self hk p hp']
  exact beq_self_eq_true _

/-- counting -/
def cntO (l : List Int) (x : Int) : Option Int := if x ∈ l then some ((l.count x : Nat) : Int) else none
theorem kv_count (ms : List Int) : ∀ l, keysN (kvF ms l) ∧ ∀ x, getI (kvF ms l) x = cntO (l.map (mkI ms)) x := by
  refine snoc_ind ⟨List.nodup_nil, fun x => rfl⟩ fun l k ih => ?_
  obtain ⟨ih1, ih2⟩ := ih
  obtain ⟨c1, c2⟩ := copy_get (kvF ms l) [] ih1 List.nodup_nil
  rw [kv_snoc]
  have c1' : ∀ x, getI ((kvF ms l).foldl (fun a p => putI a p.1 p.2) []) x = cntO (l.map (mkI ms)) x := fun x => by
    rw [c1, ← ih2]
    cases getI (kvF ms l) x <;> rfl
  show keysN (addOne ((kvF ms l).foldl (fun a p => putI a p.1 p.2) []) (mkI ms k) 1) ∧ ∀ x, getI (addOne ((kvF ms l).foldl (fun a p => putI a p.1 p.2) []) (mkI ms k) 1) x = _
  generalize (kvF ms l).foldl (fun a p => putI a p.1 p.2) [] = acc at c1' c2
  unfold addOne
  have hcount : ∀ x, cntO ((l ++ [k]).map (mkI ms)) x = if x = mkI ms k then some ((((l.map (mkI ms)).count x : Nat) : Int) + 1) else cntO (l.map (mkI ms)) x := fun x => by
    unfold cntO
    rw [List.map_append, List.count_append]
    by_cases e : x = mkI ms k
    · rw [if_pos e, if_pos (List.mem_append_right _ (by simp [e]))]
      subst e
      simp
    · rw [if_neg e]
      have e2 : ¬ mkI ms k = x := fun h => e h.symm
      by_cases h : x ∈ l.map (mkI ms)
      · rw [if_pos (List.mem_append_left _ h), if_pos h]
        have hz : List.count x ([k].map (mkI ms)) = 0 := List.count_eq_zero.mpr fun hh => e (by rw [List.map_cons, List.map_nil, List.mem_singleton] at hh; exact hh)
        rw [hz, Nat.add_zero]
      · rw [if_neg h, if_neg]
        rw [List.mem_append]
        rintro (h' | h')
        · exact h h'
        · simp at h'; exact e h'
  have hat := c1' (mkI ms k)
  cases e : getI acc (mkI ms k) with
  | some n =>
    refine ⟨put_keys c2 _ _, fun x => ?_⟩
    show getI (putI acc (mkI ms k) (n + 1)) x = _
    rw [put_get, hcount, c1']
    by_cases h : x = mkI ms k
    · rw [if_pos h, if_pos h]
      rw [e] at hat
      unfold cntO at hat
      subst h
      split at hat
      · injection hat with hat; rw [hat]
      · cases hat
    · rw [if_neg h, if_neg h]
  | none =>
    refine ⟨put_keys c2 _ _, fun x => ?_⟩
    show getI (putI acc (mkI ms k) 1) x = _
    rw [put_get, hcount, c1']
    by_cases h : x = mkI ms k
    · rw [if_pos h, if_pos h]
      rw [e] at hat
      unfold cntO at hat
      subst h
      split at hat
      · cases hat
      · rename_i hn
        rw [List.count_eq_zero.mpr hn]; rfl
    · rw [if_neg h, if_neg h]
theorem dfold_get' {fk fv : Dt → Int} {val : Int → Int} : ∀ xs : List Dt, (∀ d ∈ xs, fv d = val (fk d)) → keysN (dFold fk fv xs) ∧ ∀ x, getI (dFold fk fv xs) x = if x ∈ xs.map fk then some (val x) else none := by
  refine snoc_ind (fun _ => ⟨List.nodup_nil, fun x => rfl⟩) fun l d ih hv => ?_
  have ih := ih fun d hd => hv d (List.mem_append_left _ hd)
  have e : dFold fk fv (l ++ [d]) = putI (dFold fk fv l) (fk d) (fv d) := by unfold dFold; rw [List.foldl_append]; rfl
  rw [e]
  refine ⟨put_keys ih.1 _ _, fun x => ?_⟩
  rw [put_get, ih.2, List.map_append, hv d (by simp)]
  by_cases h : x = fk d
  · rw [if_pos h, if_pos (List.mem_append_right _ (by simp [h])), h]
  · rw [if_neg h]
    by_cases h2 : x ∈ l.map fk
    · rw [if_pos h2, if_pos (List.mem_append_left _ h2)]
    · rw [if_neg h2, if_neg]
      rw [List.mem_append]
      rintro (h' | h')
      · exact h2 h'
      · simp at h'; exact h h'
end Mine

/-! ### PL7 -/
namespace Mine

/-! ## the two sums, whole -/
theorem Ind.marks {g : Nat → Nat} {J : List Nat} (h : Ind g J) : (J.map g).Nodup := by
  rw [List.nodup_iff_pairwise_ne, List.pairwise_map, List.pairwise_iff_forall_sublist]
  intro a b hs e
  have := h [a, b] hs (by simp [xr, e])
  cases this
theorem sum5_eq {x : Sum5} {a b c d : Int} {kv : List (Int × Int)} (h1 : x.a = a) (h2 : x.b = b) (h3 : x.c = c) (h4 : x.d = d) (h5 : dictEq x.kv kv = true) : x.eq a b c d kv = true := by
  unfold Sum5.eq statEq
  rw [h1, h2, h3, h4, h5]
  simp
theorem hC_of {g : Nat → Nat} {ms : List Int} {ps : List (Int × Int)} (hm : ∀ k, mkI ms k = (g k : Int)) {P : List Nat} (hn : P.Nodup) (hb : ∀ k ∈ P, k < 5) (hi : Ind g P) :
    (bestS ps ms P).eq (P.length : Nat) (lowI ps P) (highI ps P) (bmI P) (onesD ms P) = true := by
  obtain ⟨c0, hc0, hbm, hpm⟩ := best_of hn hb
  have e1 : bestS ps ms P = cntE ps ms (chG c0) := by
    show smG ps ms (bmI P).toNat = _
    rw [hbm, Int.toNat_natCast, smG_eq ps ms hc0]
  rw [e1, cnt_eq]
  refine sum5_eq (by show (((chG c0).length : Nat) : Int) = _; rw [hpm.length_eq]) (low_perm hpm) (high_perm hpm) (bm_perm hpm) ?_
  obtain ⟨k1, k2⟩ := kv_count ms (chG c0)
  obtain ⟨o1, o2⟩ := dfold_get' (fk := fun d => match d with | .int k => mkI ms k.toNat | _ => 0) (fv := fun _ => 1) (val := fun _ => 1) (natL P) fun d _ => rfl
  refine dict_same k1 o1 fun x => ?_
  refine (k2 x).trans (Eq.trans ?_ (o2 x).symm)
  have e2 : (natL P).map (fun d => match d with | .int k => mkI ms k.toNat | _ => 0) = P.map (mkI ms) := by
    rw [List.map_map]
    refine List.map_congr_left fun k _ => ?_
    show mkI ms (k : Int).toNat = mkI ms k
    rw [Int.toNat_natCast]
  rw [e2]
  have hp := hpm.map (mkI ms)
  unfold cntO
  have hnd : (P.map (mkI ms)).Nodup := by
    have := hi.marks
    rw [List.nodup_iff_pairwise_ne, List.pairwise_map] at this ⊢
    exact this.imp fun {a b} h e => h (by rw [hm, hm] at e; omega)
  by_cases h : x ∈ P.map (mkI ms)
  · rw [if_pos h, if_pos (hp.mem_iff.mpr h), hp.count_eq]
    have h1 := List.count_pos_iff.mpr h
    have h2 := List.nodup_iff_count.mp hnd x
    have h3 : List.count x (P.map (mkI ms)) = 1 := by omega
    rw [h3]; rfl
  · rw [if_neg h, if_neg (fun h' => h (hp.mem_iff.mp h'))]
theorem hD_of {ms : List Int} {ps : List (Int × Int)} (hms : ms.length = 5) (hps : ps.length = 5) : (smG ps ms 31).eq 5 (ps.map (·.1)).sum (ps.map (·.2)).sum 31 (tableD ms) = true := by
  have e31 : chG 31 = [0, 1, 2, 3, 4] := by decide
  rw [smG_eq ps ms (by decide), e31, cnt_eq]
  refine sum5_eq rfl ?_ ?_ (show bmI [0, 1, 2, 3, 4] = 31 by decide) ?_
  · match ps, hps with
    | [a, b, c, d, e], _ => rfl
  · match ps, hps with
    | [a, b, c, d, e], _ => rfl
  · obtain ⟨k1, k2⟩ := kv_count ms [0, 1, 2, 3, 4]
    obtain ⟨o1, o2⟩ := dfold_get' (fk := fun d => match d with | .int k => k | _ => 0) (fv := fun d => match d with | .int k => ((ms.count k : Nat) : Int) | _ => 0) (val := fun x => ((ms.count x : Nat) : Int)) (ms.map .int) fun d hd => by
      obtain ⟨k, _, rfl⟩ := List.mem_map.mp hd
      rfl
    refine dict_same k1 o1 fun x => ?_
    refine (k2 x).trans (Eq.trans ?_ (o2 x).symm)
    have e1 : [0, 1, 2, 3, 4].map (mkI ms) = ms := by
      match ms, hms with
      | [a, b, c, d, e], _ => rfl
    have e2 : (ms.map Dt.int).map (fun d => match d with | .int k => k | _ => 0) = ms := by
      rw [List.map_map]
      exact List.map_id ms
    rw [e1, e2]; rfl

/-! ## the plain law -/
theorem plain_ok (ns : List Int) : PlainOk (keysL ns.sum) ((drawnL ns).map priceN) ((drawnL ns).map markN) ((drawnL ns).map toldN) (pkN ((drawnL ns).map markN) (rowL (keysL ns.sum) ((drawnL ns).map priceN))).1 := by
  have hts : (drawnL ns).map toldN = (drawnL ns).map markN := List.map_congr_left fun d _ => by
    obtain ⟨m, _, h1, h2⟩ := mark_told d
    rw [h1, h2]
  rw [hts]
  obtain ⟨ms, hms⟩ : ∃ ms, ms = (drawnL ns).map markN := ⟨_, rfl⟩
  obtain ⟨ps, hps⟩ : ∃ ps, ps = (drawnL ns).map priceN := ⟨_, rfl⟩
  have hd5 : (drawnL ns).length = 5 := by simp [drawnL]
  have hm5 : ms.length = 5 := by rw [hms, List.length_map, hd5]
  have hp5 : ps.length = 5 := by rw [hps, List.length_map, hd5]
  have hmem : ∀ x ∈ ms, ∃ m : Nat, m < 8 ∧ x = (m : Int) := fun x hx => by
    rw [hms] at hx
    obtain ⟨d, _, rfl⟩ := List.mem_map.mp hx
    obtain ⟨m, h0, h1, _⟩ := mark_told d
    exact ⟨m, h0, h1⟩
  rw [← hms, ← hps]
  have hmk : ∀ k, ∃ m : Nat, m < 8 ∧ mkI ms k = (m : Int) := fun k => by
    by_cases h : k < ms.length
    · have e : mkI ms k = ms[k] := by simp [mkI, h]
      rw [e]; exact hmem _ (List.getElem_mem h)
    · refine ⟨0, by decide, ?_⟩
      show ms.getD k 0 = 0
      rw [List.getD_eq_getElem?_getD, List.getElem?_eq_none (by omega)]; rfl
  have hm : ∀ k, mkI ms k = (((mkI ms k).toNat : Nat) : Int) := fun k => by obtain ⟨m, _, e⟩ := hmk k; rw [e]; rfl
  have hg : ∀ k, (mkI ms k).toNat < 8 := fun k => by obtain ⟨m, h, e⟩ := hmk k; rw [e]; exact h
  obtain ⟨g, hge⟩ : ∃ g : Nat → Nat, g = fun k => (mkI ms k).toNat := ⟨_, rfl⟩
  have hm : ∀ k, mkI ms k = (g k : Int) := fun k => by rw [hge]; exact hm k
  have hg : ∀ k, g k < 8 := fun k => by rw [hge]; exact hg k
  obtain ⟨i, j, v, w, K⟩ := keys_of ns.sum
  generalize keysL ns.sum = ks at K
  obtain ⟨hline, hs⟩ := line_row (ps := ps) K
  have hlen : (rowL ks ps).length = 5 := rowN_length _ 5
  have hb : ∀ k ∈ rowL ks ps, k < 5 := rowN_lt _ 5
  generalize rowL ks ps = line at hline hs hlen hb
  have hnd := pair_nodup hs
  have hl : ∀ k, k < 5 → k ∈ line := perm_of_lt hnd hlen hb
  have PK := pk_all ms hm line
  obtain ⟨P, hP⟩ : ∃ P, P = (pkN ms line).1 := ⟨_, rfl⟩
  have hPs : P.Sublist line := by rw [hP]; exact PK.sub
  have hPi : Ind g P := by rw [hP]; exact PK.ind
  have hPn := hPs.nodup hnd
  have hPb : ∀ k ∈ P, k < 5 := fun k hk => hb k (hPs.subset hk)
  have hp3 : P.length ≤ 3 := hPi.three hg
  obtain ⟨c0, hc0, hbm, _⟩ := best_of hPn hPb
  rw [← hP]
  exact {
    hA := by rw [hline, hP]; exact hA_of hm hl hb hnd
    hl5 := by rw [hline]; exact hl
    hp3 := hp3
    hb0 := by rw [hbm]; omega
    hb32 := by rw [hbm]; omega
    hB := fun c hc hlen hno => hB_of K hm hl hb hs hP hp3 hc hlen hno
    hC := hC_of hm hPn hPb hPi
    hD := hD_of hm5 hp5 }
end Mine

/-! ### HeadTop -/
set_option maxHeartbeats 8000000
namespace Mine
open_top hd for PySem.Challenge.rw_pg0043_01
end Mine

/-! ### HJ1 -/
set_option maxHeartbeats 4000000
namespace Mine
noncomputable abbrev GW (w : World) (mg mb : Str → Option Value) : Wrld := ⟨PySem.Challenge.rw_pg0043_01.row.prog, w, hd.heap_39 w.params, mg, mb⟩
section
variable (w : World) (mg mb : Str → Option Value)
theorem def_crc : DefAt (GW w mg mb) 63 crcS [S' "crc"] := by
  refine ⟨_, _, _, _, _, _, _, _, _, ⟨⟨_, _, _, rfl⟩, rfl, rfl, rfl, rfl, rfl, rfl, rfl, rfl, by decide, by decide, by decide, ?_⟩⟩
  intro vs hv
  match vs, hv with
  | [v], _ => rfl
theorem def_mrk : DefAt (GW w mg mb) 70 mrkS [S' "word"] := by
  refine ⟨_, _, _, _, _, _, _, _, _, ⟨⟨_, _, _, rfl⟩, rfl, rfl, rfl, rfl, rfl, rfl, rfl, rfl, by decide, by decide, by decide, ?_⟩⟩
  intro vs hv
  match vs, hv with
  | [v], _ => rfl
theorem def_sts : DefAt (GW w mg mb) 49 stsS [S' "target", S' "source"] := by
  refine ⟨_, _, _, _, _, _, _, _, _, ⟨⟨_, _, _, rfl⟩, rfl, rfl, rfl, rfl, rfl, rfl, rfl, rfl, by decide, by decide, by decide, ?_⟩⟩
  intro vs hv
  match vs, hv with
  | [v, u], _ => rfl
theorem def_cll : DefAt (GW w mg mb) 56 cllS [S' "target", S' "source"] := by
  refine ⟨_, _, _, _, _, _, _, _, _, ⟨⟨_, _, _, rfl⟩, rfl, rfl, rfl, rfl, rfl, rfl, rfl, rfl, by decide, by decide, by decide, ?_⟩⟩
  intro vs hv
  match vs, hv with
  | [v, u], _ => rfl
theorem def_cmp : DefAt (GW w mg mb) 35 cmpS [S' "self", S' "left", S' "right"] := by
  refine ⟨_, _, _, _, _, _, _, _, _, ⟨⟨_, _, _, rfl⟩, rfl, rfl, rfl, rfl, rfl, rfl, rfl, rfl, by decide, by decide, by decide, ?_⟩⟩
  intro vs hv
  match vs, hv with
  | [v, u, t], _ => rfl
theorem def_ini : DefAt (GW w mg mb) 28 iniS [S' "self", S' "comp_select_list"] := by
  refine ⟨_, _, _, _, _, _, _, _, _, ⟨⟨_, _, _, rfl⟩, rfl, rfl, rfl, rfl, rfl, rfl, rfl, rfl, by decide, by decide, by decide, ?_⟩⟩
  intro vs hv
  match vs, hv with
  | [v, u], _ => rfl
theorem cls_ok : ClsOk (GW w mg mb) 38 35 28 := ⟨rfl, rfl, rfl, rfl, rfl, rfl, rfl, rfl, rfl, rfl, rfl, rfl, rfl, rfl⟩
theorem law_g : LawG (GW w mg mb) 38 35 28 49 56 63 70 where
  sum := .inr ⟨rfl, rfl, by decide⟩
  range := .inr ⟨rfl, rfl, by decide⟩
  max := .inr ⟨rfl, rfl, by decide⟩
  min := .inr ⟨rfl, rfl, by decide⟩
  len := .inr ⟨rfl, rfl, by decide⟩
  str := .inr ⟨rfl, rfl, by decide⟩
  sorted := .inr ⟨rfl, rfl, by decide⟩
  isi := .inr ⟨rfl, rfl, by decide⟩
  tup := .inr ⟨rfl, rfl, by decide⟩
  crc := .inl rfl
  crcD := def_crc w mg mb
  crcK := rfl
  mrk := .inl rfl
  mrkD := def_mrk w mg mb
  mrkK := rfl
  sts := .inl rfl
  stsD := def_sts w mg mb
  stsK := rfl
  cll := .inl rfl
  cllD := def_cll w mg mb
  cllK := rfl
  cls := .inl rfl
  clsOk := cls_ok w mg mb
  cmpD := def_cmp w mg mb
  iniD := def_ini w mg mb
end
end Mine

/-! ### HJ2 -/
set_option maxHeartbeats 8000000
theorem PySem.Challenge.cw_pg0043_01_holds : PySem.Challenge.rw_pg0043_01.Holds := by
  refine Mine.hd ?_
  k_fill
  intro w s₀ s₁ mg mb G Y fa o pm cd doc dV kV ho hd hcd hD hmg hg args vals as hpre hlay hrd hwl hlo
  have KX := kIn_of Y
  refine Ground.open G ?_
  intro T B D TE TW
  clear hmg D
  wrow_args hpre hlay hrd hwl hlo
  rename_i ns _ _ _ _ _ _ _ xs vs _ hl _ _ _ hi _ hlen _
  have eD := hD.none rfl
  have eK := hD.kw_none rfl
  subst eD eK
  have ok : (Mine.GW w mg mb).Ok s₁.heap := ⟨KX, T.g, T.b, T.builtins, T.nolimit⟩
  refine Mine.law_call (G := Mine.GW w mg mb) (n := 0) ⟨rfl, by decide, by decide⟩ (Mine.law_g w mg mb) ok ho hd hcd rfl rfl rfl rfl rfl (fun v => rfl) hl hi (by omega) (Mine.plain_ok ns) ?_
  intro s' k
  obtain ⟨h', tk, rfl, hk⟩ := k
  refine GoodW.toG ⟨.inl ⟨.bool true, .bool true, [], rfl, ?_, .bool true, ?_, fun _ => ⟨List.nodup_nil, fun a ha => nomatch ha⟩⟩, hk, rfl, hg⟩
  · intro cls
    rfl
  · exact postW_of (by wrow_shape) (by wtm_val) (by first | rfl | decide | w_fin)
