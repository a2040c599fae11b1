import PyProof.Rows.All
import Wide.All
import OpenK.AllK
import Wide.FinOn
import PySem.Challenge.RW_mq0181_01
open PySem PySem.W PyProof.Rows
set_option Elab.async false
section
open PySem PySem.W PyProof.Rows
set_option autoImplicit false
set_option maxRecDepth 100000
namespace Mine

abbrev Loc := Str → Option Value
abbrev Stat := Addr → Option Obj
abbrev Mut := Addr → Option (Array Value)

def upd (m : Loc) (x : Str) (v : Value) : Loc := fun y => if y = x then some v else m y
theorem upd_same {m : Loc} {x : Str} {v : Value} : upd m x v x = some v := if_pos rfl
theorem upd_of {m : Loc} {x y : Str} {v : Value} {r : Option Value} (h : decide (y = x) = false) (e : m y = r) : upd m x v y = r :=
  (if_neg (of_decide_eq_false h)).trans e

/-- a list's object -/
def lobj (xs : Array Value) (n : Nat) : Obj := { cls := .type "list", data := .seq xs n }

def stName : Stmt → Str
  | .FunctionDef n _ _ _ _ _ _ _ _ _ => n
  | _ => Str.empty
def stParams : Stmt → Arguments
  | .FunctionDef _ a _ _ _ _ _ _ _ _ => a
  | _ => default
def stBody : Stmt → List Stmt
  | .FunctionDef _ _ b _ _ _ _ _ _ _ => b
  | _ => []
def stScope : Stmt → Scope
  | .FunctionDef _ _ _ _ _ _ s _ _ _ => s
  | _ => default
def fnAt (i : Nat) : Stmt := Challenge.pw_mq0181_01.main.body.getD i (.Pass default)
def nm (i : Nat) : Str := stName (fnAt i)
def prm (i : Nat) : Arguments := stParams (fnAt i)
def bdy (i : Nat) : List Stmt := stBody (fnAt i)
def scp (i : Nat) : Scope := stScope (fnAt i)

/-- the data of the run that stay -/
structure Cx where
  h₁ : Heap
  c : Addr
  P : Addr
  mg : Loc
  mb : Loc
  fa : Nat → Addr
  cd : Nat → Value
  os : OsState

def usedB : List Str := ["len", "filter", "reversed", "range", "str", "abs", "sum", "sorted"]

structure Cx.Ok (X : Cx) : Prop where
  g : X.h₁.Ns mainGlobals X.mg
  b : X.h₁.Ns builtinsNs X.mb
  lim : X.h₁.NoLimit
  nodig : ∃ mc, X.h₁.Ns cStatics mc ∧ mc "sys.int_max_str_digits" = none
  bi : ∀ x : Str, x ≠ "__name__" → X.mb x = bootBuiltins x
  free : ∀ x ∈ usedB, X.mg x = none
  tab : X.h₁.TableAt X.c X.P #[]
  code : X.h₁.IsCode X.c X.P #[]
  Pst : X.P ≠ cStatics
  fn : ∀ i ∈ [1, 3, 4, 5, 6, 7, 9, 10, 11], X.mg (nm i) = some (.ref (X.fa i)) ∧ ∃ o pm doc, X.h₁.get? (X.fa i) = some o ∧
    o.data = .func (Calls.docDef (nm i) (prm i) (bdy i) (scp i) pm (X.cd i) doc) ∧ X.h₁.CodeRec (X.cd i) (nm i)
  cd1 : X.cd 1 = .ref X.c
  bmain : ∃ bm ob, X.mg "__builtins__" = some (.ref bm) ∧ bm ≠ builtinsNs ∧ X.h₁.get? bm = some ob ∧ ob.cls = .type "module" ∧ ob.dict = some builtinsNs ∧ ob.data = .plain

/-- what holds of every state of the run -/
structure Inv (X : Cx) (s : Shared) : Prop where
  ext : ∀ b o, b ≠ X.P → X.h₁.get? b = some o → s.heap.get? b = some o
  tab : ∃ ps, s.heap.TableAt X.c X.P ps ∧ s.heap.IsCode X.c X.P ps
  os : s.os = X.os
  gens : AllBare s.gens
  size : X.h₁.objs.size ≤ s.heap.objs.size

abbrev Cx.n (X : Cx) : Nat := X.h₁.objs.size

theorem Inv.lt {X : Cx} (hX : X.Ok) : X.c < X.n ∧ X.P < X.n := hX.code.lt

theorem Inv.mono {X : Cx} {s s' : Shared} (hX : X.Ok) (I : Inv X s) (hk : ∀ b o, b < X.n → s.heap.get? b = some o → s'.heap.get? b = some o) (ho : s'.os = s.os) (hg : AllBare s'.gens) (hz : X.n ≤ s'.heap.objs.size) : Inv X s' := by
  obtain ⟨ps, ht, hc⟩ := I.tab
  have l := Inv.lt hX
  refine ⟨fun b o hb e => hk b o (Heap.lt_size e) (I.ext b o hb e), ⟨ps, ?_, ?_⟩, ho.trans I.os, hg, hz⟩
  · obtain ⟨⟨o, vs, a, r⟩, t⟩ := ht
    exact ⟨⟨o, vs, hk _ _ l.1 a, r⟩, hk _ _ l.2 t⟩
  · obtain ⟨o, vs, file, tf, flags, tg, inF, text, tt, op, a, r1, r2, r3, r4, r5, r6, b, r⟩ := hc
    exact ⟨o, vs, file, tf, flags, tg, inF, text, tt, op, hk _ _ l.1 a, r1, r2, r3, r4, r5, r6, hk _ _ l.2 b, r⟩

theorem Inv.ns {X : Cx} {s : Shared} (hX : X.Ok) (I : Inv X s) {a : Addr} {m : Loc} (h : X.h₁.Ns a m) : s.heap.Ns a m := by
  obtain ⟨o, es, ep, ho, hd, r⟩ := h
  refine ⟨o, es, ep, I.ext a o (fun e => ?_) ho, hd, r⟩
  subst e
  have := hX.tab.2
  rw [ho] at this
  cases this
  cases hd
theorem Inv.lim {X : Cx} {s : Shared} (hX : X.Ok) (I : Inv X s) : s.heap.NoLimit := let ⟨mc, a, b⟩ := hX.lim; ⟨mc, I.ns hX a, b⟩
theorem Inv.cls {X : Cx} {s : Shared} (hX : X.Ok) (I : Inv X s) {a : Addr} {o : Obj} (h : X.h₁.get? a = some o) (hc : ∀ vs, o.data ≠ .fields vs) : s.heap.get? a = some o := by
  refine I.ext a o (fun e => ?_) h
  subst e
  have := hX.tab.2
  rw [h] at this
  cases this
  exact hc _ rfl
theorem Inv.codeRec {X : Cx} {s : Shared} (hX : X.Ok) (I : Inv X s) {cd : Value} {q : Str} (h : X.h₁.CodeRec cd q) : s.heap.CodeRec cd q := by
  obtain ⟨c, o, vs, t, e, g, d, r⟩ := h
  refine ⟨c, o, vs, t, e, I.ext c o (fun e' => ?_) g, d, r⟩
  subst e'
  have := hX.tab.2
  rw [g] at this
  cases this
  cases d
  simp at r

/-- the state of a frame: static objects g, mutable lists mu, the frame L with its locals m -/
structure St (X : Cx) (g : Stat) (mu : Mut) (L : Addr) (m : Loc) (s : Shared) : Prop where
  inv : Inv X s
  ns : s.heap.Ns L m
  low : X.n ≤ L
  keep : ∀ b o, g b = some o → s.heap.get? b = some o
  gnew : ∀ b o, g b = some o → X.n ≤ b
  gout : g L = none
  mus : ∀ a xs, mu a = some xs → (∃ n, s.heap.get? a = some (lobj xs n)) ∧ X.n ≤ a ∧ a ≠ L ∧ g a = none

def gle (g g' : Stat) : Prop := ∀ b o, g b = some o → g' b = some o
theorem gle.refl {g : Stat} : gle g g := fun _ _ e => e
theorem gle.trans {g g' g'' : Stat} (a : gle g g') (b : gle g' g'') : gle g g'' := fun x o e => b x o (a x o e)

def gadd (g : Stat) (a : Addr) (o : Obj) : Stat := fun b => if b = a then some o else g b
def madd (mu : Mut) (a : Addr) (xs : Array Value) : Mut := fun b => if b = a then some xs else mu b
def mnone : Mut := fun _ => none

section
variable {X : Cx} {g : Stat} {mu : Mut} {L : Addr} {m : Loc} {s : Shared}

theorem St.mono (hX : X.Ok) (S : St X g mu L m s) {s' : Shared} (hk : ∀ b o, (b < X.n ∨ (g b).isSome ∨ (mu b).isSome ∨ b = L) → s.heap.get? b = some o → s'.heap.get? b = some o) (ho : s'.os = s.os) (hg : AllBare s'.gens) : St X g mu L m s' := by
  have hns : s'.heap.Ns L m := by
    obtain ⟨o, es, ep, h1, r⟩ := S.ns
    exact ⟨o, es, ep, hk _ _ (.inr (.inr (.inr rfl))) h1, r⟩
  refine ⟨S.inv.mono hX (fun b o hb e => hk b o (.inl hb) e) ho hg (Nat.le_trans S.low (Nat.le_of_lt hns.lt)), hns, S.low, fun b o e => hk b o (.inr (.inl (by simp [e]))) (S.keep b o e), S.gnew, S.gout, fun a xs e => ?_⟩
  obtain ⟨⟨n, h1⟩, r⟩ := S.mus a xs e
  exact ⟨⟨n, hk _ _ (.inr (.inr (.inl (by simp [e])))) h1⟩, r⟩

theorem St.keeps (hX : X.Ok) (S : St X g mu L m s) {h' : Heap} {tk : Nat} (hk : ∀ b o, s.heap.get? b = some o → h'.get? b = some o) : St X g mu L m { s with heap := h', toks := tk } :=
  S.mono hX (fun b o _ e => hk b o e) rfl S.inv.gens
theorem St.toks (hX : X.Ok) (S : St X g mu L m s) {tk : Nat} : St X g mu L m { s with toks := tk } := S.keeps hX (h' := s.heap) fun _ _ e => e
theorem St.push (hX : X.Ok) (S : St X g mu L m s) {o : Obj} {tk : Nat} : St X g mu L m { s with heap := s.heap.push o, toks := tk } := S.keeps hX fun _ _ e => Heap.get?_push_of_some _ e

theorem St.fresh (S : St X g mu L m s) : g s.heap.objs.size = none ∧ mu s.heap.objs.size = none ∧ L ≠ s.heap.objs.size ∧ X.n ≤ s.heap.objs.size := by
  have hL : L < s.heap.objs.size := S.ns.lt
  refine ⟨?_, ?_, Nat.ne_of_lt hL, Nat.le_of_lt (Nat.lt_of_le_of_lt S.low hL)⟩
  · cases h : g s.heap.objs.size with
    | none => rfl
    | some o => exact absurd (Heap.lt_size (S.keep _ _ h)) (Nat.lt_irrefl _)
  · cases h : mu s.heap.objs.size with
    | none => rfl
    | some o => obtain ⟨⟨n, h1⟩, _⟩ := S.mus _ _ h; exact absurd (Heap.lt_size h1) (Nat.lt_irrefl _)

/-- a new static object -/
theorem St.newG (hX : X.Ok) (S : St X g mu L m s) {o : Obj} {tk : Nat} (hf : o.isFreed = false) : St X (gadd g s.heap.objs.size o) mu L m { s with heap := s.heap.push o, toks := tk } := by
  have fr := S.fresh
  have S' := S.push hX (o := o) (tk := tk)
  refine ⟨S'.inv, S'.ns, S'.low, fun b ob e => ?_, fun b ob e => ?_, ?_, fun a xs e => ?_⟩
  · unfold gadd at e; split at e
    · cases e; subst b; exact Heap.get?_push_size _ hf
    · exact S'.keep b ob e
  · unfold gadd at e; split at e
    · subst b; exact fr.2.2.2
    · exact S.gnew b ob e
  · unfold gadd; rw [if_neg fr.2.2.1]; exact S.gout
  · have q := S'.mus a xs e
    refine ⟨q.1, q.2.1, q.2.2.1, ?_⟩
    unfold gadd
    rw [if_neg (fun h => by rw [h, fr.2.1] at e; cases e)]
    exact q.2.2.2
theorem gadd_le {a : Addr} {o : Obj} (h : g a = none) : gle g (gadd g a o) := fun b ob e => by
  unfold gadd; rw [if_neg (fun h' => by rw [h', h] at e; cases e)]; exact e
theorem gadd_self {a : Addr} {o : Obj} : gadd g a o a = some o := if_pos rfl

/-- a new mutable list -/
theorem St.newM (hX : X.Ok) (S : St X g mu L m s) {xs : Array Value} {n : Nat} {tk : Nat} : St X g (madd mu s.heap.objs.size xs) L m { s with heap := s.heap.push (lobj xs n), toks := tk } := by
  have fr := S.fresh
  have S' := S.push hX (o := lobj xs n) (tk := tk)
  refine ⟨S'.inv, S'.ns, S'.low, S'.keep, S'.gnew, S'.gout, fun a ys e => ?_⟩
  unfold madd at e; split at e
  · cases e; subst a; exact ⟨⟨n, Heap.get?_push_size _ rfl⟩, fr.2.2.2, Ne.symm fr.2.2.1, fr.1⟩
  · exact S'.mus a ys e

/-- a mutable list becomes static -/
theorem St.weak {g' : Stat} (S : St X g' mu L m s) (h : gle g g') : St X g mu L m s := by
  refine ⟨S.inv, S.ns, S.low, fun b o e => S.keep b o (h b o e), fun b o e => S.gnew b o (h b o e), ?_, fun a xs e => ?_⟩
  · cases q : g L with
    | none => rfl
    | some o => have := h _ _ q; rw [S.gout] at this; cases this
  · have q := S.mus a xs e
    refine ⟨q.1, q.2.1, q.2.2.1, ?_⟩
    cases z : g a with
    | none => rfl
    | some o => have := h _ _ z; rw [q.2.2.2] at this; cases this
theorem St.weakM {mu' : Mut} (S : St X g mu' L m s) (h : ∀ a xs, mu a = some xs → mu' a = some xs) : St X g mu L m s :=
  ⟨S.inv, S.ns, S.low, S.keep, S.gnew, S.gout, fun a xs e => S.mus a xs (h a xs e)⟩

theorem St.isG (S : St X g mu L m s) {a : Addr} {xs : Array Value} {n : Nat} (h : g a = some (lobj xs n)) : s.heap.IsList a xs := ⟨_, S.keep a _ h, rfl, n, rfl⟩
theorem St.isM (S : St X g mu L m s) {a : Addr} {xs : Array Value} (h : mu a = some xs) : s.heap.IsList a xs := by
  obtain ⟨⟨n, e⟩, _⟩ := S.mus a xs h
  exact ⟨_, e, rfl, n, rfl⟩

/-- the frame's locals turned -/
theorem St.loc (hX : X.Ok) (S : St X g mu L m s) {m' : Loc} {h' : Heap} {tk : Nat} (hn : h'.Ns L m') (hs : Heap.SameBut L s.heap h') : St X g mu L m' { s with heap := h', toks := tk } := by
  have low := S.low
  refine ⟨S.inv.mono hX (fun b o hb e => (hs.2 b (Nat.ne_of_lt (Nat.lt_of_lt_of_le hb low))).trans e) rfl S.inv.gens (Nat.le_trans low (Nat.le_of_lt hn.lt)), hn, low, fun b o e => (hs.2 b (fun h => by rw [h, S.gout] at e; cases e)).trans (S.keep b o e), S.gnew, S.gout, fun a xs e => ?_⟩
  obtain ⟨⟨n, h1⟩, r⟩ := S.mus a xs e
  exact ⟨⟨n, (hs.2 a r.2.1).trans h1⟩, r⟩

/-- a mutable list turned -/
theorem St.mut (hX : X.Ok) (S : St X g mu L m s) {a : Addr} {xs ys : Array Value} {h' : Heap} {tk : Nat} (ha : mu a = some xs) (hn : ∃ n, h'.get? a = some (lobj ys n)) (hs : Heap.SameBut a s.heap h') :
    St X g (madd mu a ys) L m { s with heap := h', toks := tk } := by
  obtain ⟨_, ha1, ha2, ha3⟩ := S.mus a xs ha
  refine ⟨S.inv.mono hX (fun b o hb e => (hs.2 b (Nat.ne_of_lt (Nat.lt_of_lt_of_le hb ha1))).trans e) rfl S.inv.gens (Nat.le_trans S.low (Nat.le_of_lt (S.ns.sameBut hs (Ne.symm ha2)).lt)), S.ns.sameBut hs (Ne.symm ha2), S.low, fun b o e => (hs.2 b (fun h => by rw [h, ha3] at e; cases e)).trans (S.keep b o e), S.gnew, S.gout, fun b zs e => ?_⟩
  unfold madd at e; split at e
  · cases e; subst b; exact ⟨hn, ha1, ha2, ha3⟩
  · rename_i hne
    obtain ⟨⟨n, h1⟩, r⟩ := S.mus b zs e
    exact ⟨⟨n, (hs.2 b hne).trans h1⟩, r⟩
end

section
variable {X : Cx} {g : Stat} {mu : Mut} {m : Loc} {s : Shared} {M : Model} {A : Around} {E : Value → Shared → Prop} {env : Env}

theorem st_store {x : Str} {v : Value} {Q : Unit → Shared → Prop} (hX : X.Ok) (S : St X g mu env.locals m s) (h : ∀ s', St X g mu env.locals (upd m x v) s' → Q () s')
    (hk : env.scope.kind = .function := by rfl) (hl : env.kindOf x = some .local := by rfl) : wpAny M A (storeName env x v) Q E s :=
  wpAny_storeName_local hl S.ns (fun h' hn hs => h _ (S.loc hX hn hs)) (by rw [hk]; rfl)
theorem st_load {x : Str} {v : Value} {Q : Value → Shared → Prop} (S : St X g mu env.locals m s) (hv : m x = some v) (h : Q v s)
    (hk : env.scope.kind = .function := by rfl) (hl : env.kindOf x = some .local := by rfl) : wpAny M A (loadName env x) Q E s :=
  wpAny_loadName_local hk hl S.ns hv h
theorem st_name {x : Str} {p : Pos} {v : Value} {Q : Value → Shared → Prop} (S : St X g mu env.locals m s) (hv : m x = some v) (h : Q v s)
    (hk : env.scope.kind = .function := by rfl) (hl : env.kindOf x = some .local := by rfl) (hd : (x == ("__debug__" : Str)) = false := by decide) : wpAny M A (eval (.Name x p) env) Q E s :=
  wpAny_Name (st_load S hv h hk hl) hd
theorem st_glob {x : Str} {p : Pos} {v : Value} {Q : Value → Shared → Prop} (hX : X.Ok) (I : Inv X s) (hv : X.mg x = some v) (h : Q v s)
    (hg : env.globals = mainGlobals := by rfl) (hk : env.scope.kind = .function := by rfl) (hl : env.kindOf x = some .globalImplicit := by rfl) (hd : (x == ("__debug__" : Str)) = false := by decide) : wpAny M A (eval (.Name x p) env) Q E s :=
  Calls.Name_function_global hk hl (Calls.loadGlobal_global (hg ▸ I.ns hX hX.g) hv h) hd
theorem st_built {x : Str} {p : Pos} {v : Value} {Q : Value → Shared → Prop} (hX : X.Ok) (I : Inv X s) (hm : x ∈ usedB) (hv : bootBuiltins x = some v) (hn : x ≠ "__name__") (h : Q v s)
    (hg : env.globals = mainGlobals := by rfl) (hb : env.builtins = builtinsNs := by rfl) (hk : env.scope.kind = .function := by rfl) (hl : env.kindOf x = some .globalImplicit := by rfl) (hd : (x == ("__debug__" : Str)) = false := by decide) : wpAny M A (eval (.Name x p) env) Q E s :=
  Calls.Name_function_global hk hl (Calls.loadGlobal_builtin (hg ▸ I.ns hX hX.g) (hX.free x hm) (hb ▸ I.ns hX hX.b) ((hX.bi x hn).trans hv) h) hd
end

end Mine
end
section
open PySem
set_option autoImplicit false
namespace Mine

/-- the order of the rows: by length, then by place -/
abbrev klt (p q : Int × Int) : Prop := p.1 < q.1 ∨ (p.1 = q.1 ∧ p.2 < q.2)
def kle (p q : Int × Int) : Prop := ¬ klt q p
theorem kle_trans {p q r : Int × Int} (a : kle p q) (b : kle q r) : kle p r := by unfold kle klt at *; omega
theorem kle_of_lt {p q : Int × Int} (a : klt p q) : kle p q := by unfold kle klt at *; omega
theorem kle_refl (p : Int × Int) : kle p p := by unfold kle klt at *; omega
theorem kle_total (p q : Int × Int) : kle p q ∨ kle q p := by unfold kle klt at *; omega
theorem klt_of {p q r : Int × Int} (a : klt p q) (b : kle q r) : klt p r := by unfold kle klt at *; omega

def fset (f : Nat → Int × Int) (p : Nat) (v : Int × Int) : Nat → Int × Int := fun j => if j = p then v else f j
theorem fset_self {f : Nat → Int × Int} {p : Nat} {v : Int × Int} : fset f p v p = v := if_pos rfl
theorem fset_ne {f : Nat → Int × Int} {p j : Nat} {v : Int × Int} (h : j ≠ p) : fset f p v j = f j := if_neg h

inductive Desc (s : Nat) : Nat → Prop
  | refl : Desc s s
  | step {p : Nat} : 0 < p → Desc s ((p - 1) / 2) → Desc s p
theorem Desc.le {s p : Nat} (h : Desc s p) : s ≤ p := by
  induction h with
  | refl => exact Nat.le_refl _
  | step h _ ih => omega
theorem Desc.up {s p : Nat} (h : Desc s p) (hne : p ≠ s) : 0 < p ∧ Desc s ((p - 1) / 2) := by
  cases h with
  | refl => exact absurd rfl hne
  | step a b => exact ⟨a, b⟩

structure Hole (n s p : Nat) (f : Nat → Int × Int) : Prop where
  a : ∀ j, 0 < j → j < n → s ≤ (j - 1) / 2 → j ≠ p → (j - 1) / 2 ≠ p → kle (f ((j - 1) / 2)) (f j)
  b : ∀ j, 0 < j → j < n → (j - 1) / 2 = p → p ≠ s → kle (f ((p - 1) / 2)) (f j)

def HeapFrom (n s : Nat) (f : Nat → Int × Int) : Prop := ∀ j, 0 < j → j < n → s ≤ (j - 1) / 2 → kle (f ((j - 1) / 2)) (f j)

theorem Hole.start {n s : Nat} {f : Nat → Int × Int} (h : HeapFrom n (s + 1) f) : Hole n s s f :=
  ⟨fun j h1 h2 h3 _ h5 => h j h1 h2 (by omega), fun _ _ _ _ h => absurd rfl h⟩

theorem Hole.down {n s p c : Nat} {f : Nat → Int × Int} (h : Hole n s p f) (hs : s ≤ p) (hc0 : 0 < c) (hcn : c < n) (hcp : (c - 1) / 2 = p)
    (hmin : ∀ j, 0 < j → j < n → (j - 1) / 2 = p → kle (f c) (f j)) : Hole n s c (fset f p (f c)) := by
  have hpc : p ≠ c := by omega
  refine ⟨fun j h1 h2 h3 h4 h5 => ?_, fun j h1 h2 h3 h4 => ?_⟩
  · by_cases hj : j = p
    · subst hj
      have hne : (j - 1) / 2 ≠ j := by omega
      rw [fset_self, fset_ne hne]
      exact h.b c hc0 hcn hcp (by omega)
    · rw [fset_ne hj]
      by_cases hq : (j - 1) / 2 = p
      · rw [hq, fset_self]; exact hmin j h1 h2 hq
      · rw [fset_ne hq]; exact h.a j h1 h2 h3 hj hq
  · have e1 : (c - 1) / 2 = p := hcp
    rw [e1, fset_self, fset_ne (by omega)]
    have := h.a j h1 h2 (by omega) (by omega) (by omega)
    rwa [h3] at this

theorem Hole.up {n s p : Nat} {f : Nat → Int × Int} {x : Int × Int} (h : Hole n s p f) (hx : ∀ j, 0 < j → j < n → (j - 1) / 2 = p → kle x (f j)) (hD : Desc s p) (hps : p ≠ s) (hpn : p < n)
    (hlt : klt x (f ((p - 1) / 2))) : Hole n s ((p - 1) / 2) (fset f p (f ((p - 1) / 2))) ∧
      ∀ j, 0 < j → j < n → (j - 1) / 2 = (p - 1) / 2 → kle x (fset f p (f ((p - 1) / 2)) j) := by
  obtain ⟨hp0, hD'⟩ := hD.up hps
  have hsq := hD'.le
  have hqp : (p - 1) / 2 ≠ p := by omega
  refine ⟨⟨fun j h1 h2 h3 h4 h5 => ?_, fun j h1 h2 h3 h4 => ?_⟩, fun j h1 h2 h3 => ?_⟩
  · by_cases hj : j = p
    · subst hj; exact absurd rfl h5
    · rw [fset_ne hj]
      by_cases hq : (j - 1) / 2 = p
      · rw [hq, fset_self]; exact h.b j h1 h2 hq hps
      · rw [fset_ne hq]; exact h.a j h1 h2 h3 hj hq
  · obtain ⟨hq0, hDq⟩ := hD'.up h4
    have hss := hDq.le
    rw [fset_ne (by omega : ((p - 1) / 2 - 1) / 2 ≠ p)]
    have hqq : kle (f (((p - 1) / 2 - 1) / 2)) (f ((p - 1) / 2)) := h.a ((p - 1) / 2) hq0 (by omega) hss hqp (by omega)
    by_cases hj : j = p
    · subst hj; rw [fset_self]; exact hqq
    · rw [fset_ne hj]
      have := h.a j h1 h2 (by omega) hj (by omega)
      rw [h3] at this
      exact kle_trans hqq this
  · by_cases hj : j = p
    · subst hj; rw [fset_self]; exact kle_of_lt hlt
    · rw [fset_ne hj]
      have := h.a j h1 h2 (by omega) hj (by omega)
      rw [h3] at this
      exact kle_trans (kle_of_lt hlt) this

theorem Hole.fill {n s p : Nat} {f : Nat → Int × Int} {x : Int × Int} (h : Hole n s p f) (hx : ∀ j, 0 < j → j < n → (j - 1) / 2 = p → kle x (f j))
    (hend : p = s ∨ ¬ klt x (f ((p - 1) / 2))) : HeapFrom n s (fset f p x) := by
  intro j h1 h2 h3
  by_cases hj : j = p
  · subst hj
    rw [fset_self, fset_ne (by omega)]
    rcases hend with e | e
    · omega
    · exact e
  · rw [fset_ne hj]
    by_cases hq : (j - 1) / 2 = p
    · rw [hq, fset_self]; exact hx j h1 h2 hq
    · rw [fset_ne hq]; exact h.a j h1 h2 h3 hj hq

/-- the keys of a list's places -/
def kf (key : Addr → Int × Int) (hs : List Addr) : Nat → Int × Int := fun j => key (hs.getD j 0)
theorem kf_set {key : Addr → Int × Int} {hs : List Addr} {p : Nat} {x : Addr} (hp : p < hs.length) : kf key (hs.set p x) = fset (kf key hs) p (key x) := by
  funext j
  unfold kf fset
  by_cases h : j = p
  · subst h; simp [List.getD, hp]
  · rw [if_neg h]
    have : (hs.set p x)[j]? = hs[j]? := by rw [List.getElem?_set_ne (Ne.symm h)]
    simp only [List.getD_eq_getElem?_getD, this]

theorem heapFrom_min {key : Addr → Int × Int} {hs : List Addr} (h : HeapFrom hs.length 0 (kf key hs)) : ∀ j, j < hs.length → kle (kf key hs 0) (kf key hs j) := by
  intro j
  induction j using Nat.strongRecOn with
  | ind j ih =>
    intro hj
    by_cases h0 : j = 0
    · subst h0; exact kle_refl _
    · exact kle_trans (ih ((j - 1) / 2) (by omega) (by omega)) (h j (by omega) hj (Nat.zero_le _))

/-- the hole moved: the list with the hole filled is the same up to order -/
theorem perm_swap {hs : List Addr} {p c : Nat} {x y : Addr} (hp : p < hs.length) (hc : hs[c]? = some y) (hpc : p ≠ c) : ((hs.set p y).set c x).Perm (hs.set p x) := by
  have hcl : c < hs.length := (List.getElem?_eq_some_iff.mp hc).1
  have hy : hs[c] = y := (List.getElem?_eq_some_iff.mp hc).2
  rw [List.perm_iff_count]
  intro z
  have e1 : ((hs.set p y).set c x).count z = (hs.set p y).count z - (if (hs.set p y)[c]'(by simpa using hcl) == z then 1 else 0) + (if x == z then 1 else 0) := by
    rw [List.count_set (by simpa using hcl)]
  have e2 : (hs.set p y)[c]'(by simpa using hcl) = y := by rw [List.getElem_set_ne hpc]; exact hy
  rw [e1, e2, List.count_set hp, List.count_set hp]
  have hpm : (if hs[p] == z then 1 else 0) ≤ hs.count z := by
    split
    · rename_i h
      rw [beq_iff_eq] at h
      exact List.count_pos_iff.mpr (h ▸ List.getElem_mem hp)
    · exact Nat.zero_le _
  omega
end Mine
end
section
open PySem PySem.W PyProof.Rows
set_option autoImplicit false
set_option maxRecDepth 100000
namespace Mine

/-- an order of the places' keys: total, no two alike -/
structure Ord (N : Nat) (r : Nat → Int × Int) : Prop where
  inj : ∀ i j, i < N → j < N → r i = r j → i = j

/-- the places in some order -/
def Pm (N : Nat) (p : Array Nat) : Prop := p.toList.Perm (List.range N)
theorem Pm.size {N : Nat} {p : Array Nat} (h : Pm N p) : p.size = N := by have := h.length_eq; simpa using this
theorem getD_at {p : Array Nat} {i : Nat} (h : i < p.size) : p.getD i 0 = p.toList[i]'(by simpa using h) := by simp [Array.getD, h]
theorem Pm.lt {N : Nat} {p : Array Nat} (h : Pm N p) {i : Nat} (hi : i < N) : p.getD i 0 < N := by
  rw [getD_at (h.size.symm ▸ hi)]
  exact List.mem_range.mp (h.mem_iff.mp (List.getElem_mem _))
theorem Pm.ne {N : Nat} {p : Array Nat} (h : Pm N p) {i j : Nat} (hi : i < N) (hj : j < N) (hij : i ≠ j) : p.getD i 0 ≠ p.getD j 0 := by
  rw [getD_at (h.size.symm ▸ hi), getD_at (h.size.symm ▸ hj)]
  have hn : p.toList.Nodup := h.nodup_iff.mpr List.nodup_range
  have hw := List.pairwise_iff_getElem.mp hn
  intro e
  have hi' : i < p.toList.length := by rw [Array.length_toList, h.size]; exact hi
  have hj' : j < p.toList.length := by rw [Array.length_toList, h.size]; exact hj
  rcases Nat.lt_or_gt_of_ne hij with h1 | h1
  · exact hw i j hi' hj' h1 e
  · exact hw j i hj' hi' h1 e.symm
theorem Pm.rev {N : Nat} {p : Array Nat} (h : Pm N p) (i j : Nat) : Pm N (kas_rev p i j) := (Array.perm_iff_toList_perm.mp (mirror_perm p i j _)).trans h
theorem Pm.bub {N : Nat} {p : Array Nat} (h : Pm N p) (i j : Nat) : Pm N (bubble p i j) := (Array.perm_iff_toList_perm.mp (bubble_perm p i j)).trans h

def lt2 (r : Nat → Int × Int) (i j : Nat) : Bool := decide (klt (r i) (r j))
/-- the first k are in order -/
def Asc (r : Nat → Int × Int) (p : Array Nat) (k : Nat) : Prop := ∀ i j, i ≤ j → j < k → kle (r (p.getD i 0)) (r (p.getD j 0))
def Dsc (r : Nat → Int × Int) (p : Array Nat) (k : Nat) : Prop := ∀ i j, i ≤ j → j < k → kle (r (p.getD j 0)) (r (p.getD i 0))
theorem kle_of_not {p q : Int × Int} (h : ¬ klt p q) : kle q p := h
theorem klt_anti {p q : Int × Int} (h : ¬ klt p q) (h2 : ¬ klt q p) : p = q := by
  unfold klt at *
  have h1 : p.1 = q.1 := by omega
  have h2 : p.2 = q.2 := by omega
  exact Prod.ext h1 h2
theorem Asc.one (r : Nat → Int × Int) (p : Array Nat) : Asc r p 1 := fun i j h1 h2 => by
  have e1 : i = 0 := by omega
  have e2 : j = 0 := by omega
  subst e1 e2; exact kle_refl _
theorem Asc.more {r : Nat → Int × Int} {p : Array Nat} {k : Nat} (h : Asc r p k) (h0 : 1 ≤ k) (hk : kle (r (p.getD (k - 1) 0)) (r (p.getD k 0))) : Asc r p (k + 1) := fun i j h1 h2 => by
  by_cases hj : j < k
  · exact h i j h1 hj
  · have ej : j = k := by omega
    subst ej
    by_cases hi : i = j
    · subst hi; exact kle_refl _
    · exact kle_trans (h i (j - 1) (by omega) (by omega)) hk
theorem Dsc.more {r : Nat → Int × Int} {p : Array Nat} {k : Nat} (h : Dsc r p k) (h0 : 1 ≤ k) (hk : kle (r (p.getD k 0)) (r (p.getD (k - 1) 0))) : Dsc r p (k + 1) := fun i j h1 h2 => by
  by_cases hj : j < k
  · exact h i j h1 hj
  · have ej : j = k := by omega
    subst ej
    by_cases hi : i = j
    · subst hi; exact kle_refl _
    · exact kle_trans hk (h i (j - 1) (by omega) (by omega))
theorem Dsc.one (r : Nat → Int × Int) (p : Array Nat) : Dsc r p 1 := fun i j h1 h2 => by
  have e1 : i = 0 := by omega
  have e2 : j = 0 := by omega
  subst e1 e2; exact kle_refl _

theorem getD_of_get {p q : Array Nat} {i j : Nat} (h : p[i]? = q[j]?) : p.getD i 0 = q.getD j 0 := by
  rw [Array.getD_eq_getD_getElem?, Array.getD_eq_getD_getElem?, h]
theorem Dsc.rev {r : Nat → Int × Int} {p : Array Nat} {k : Nat} (h : Dsc r p k) (hk : k ≤ p.size) : Asc r (kas_rev p 0 k) k := fun i j h1 h2 => by
  have e1 : (kas_rev p 0 k).getD i 0 = p.getD (k - 1 - i) 0 := getD_of_get (by unfold kas_rev; rw [getElem?_mirror_all hk, if_pos (by omega)]; congr 1; omega)
  have e2 : (kas_rev p 0 k).getD j 0 = p.getD (k - 1 - j) 0 := getD_of_get (by unfold kas_rev; rw [getElem?_mirror_all hk, if_pos (by omega)]; congr 1; omega)
  rw [e1, e2]
  exact h _ _ (by omega) (by omega)
theorem bub_at {p : Array Nat} {k l j : Nat} (hk : k < p.size) (hl : l ≤ k) : (bubble p k (k - l)).getD j 0 = if j = l then p.getD k 0 else if l < j ∧ j ≤ k then p.getD (j - 1) 0 else p.getD j 0 := by
  have e := getElem?_bubble hk (k - l) (by omega) j
  have : k - (k - l) = l := by omega
  rw [this] at e
  by_cases h1 : j = l
  · rw [if_pos h1] at e ⊢; exact getD_of_get e
  · rw [if_neg h1] at e ⊢
    by_cases h2 : l < j ∧ j ≤ k
    · rw [if_pos h2] at e ⊢; exact getD_of_get e
    · rw [if_neg h2] at e ⊢; exact getD_of_get e

section
variable {N : Nat} {r : Nat → Int × Int} {s : Shared} {cmp : Nat → Nat → (Bool → Shared → Prop) → Shared → Prop}
/-- a comparison tells the order and keeps the state -/
def Cmps (N : Nat) (r : Nat → Int × Int) (cmp : Nat → Nat → (Bool → Shared → Prop) → Shared → Prop) (s : Shared) : Prop :=
  ∀ (i j : Nat) (K : Bool → Shared → Prop), i < N → j < N → i ≠ j → K (lt2 r i j) s → cmp i j K s

theorem asc_wp (hc : Cmps N r cmp s) {p : Array Nat} (hp : Pm N p) : ∀ (f n : Nat) {Q : Nat → Shared → Prop}, f = N - n → 1 ≤ n → n ≤ N → Asc r p n →
    (∀ m, n ≤ m → m ≤ N → Asc r p m → (m < N → klt (r (p.getD m 0)) (r (p.getD (m - 1) 0))) → Q m s) → (kas_asc p f n).kasWp cmp Q s
  | 0, n, Q, hf, h1, hn, ha, h => h n (Nat.le_refl _) hn ha (fun q => by omega)
  | f + 1, n, Q, hf, h1, hn, ha, h => by
    show cmp (p.getD n 0) (p.getD (n - 1) 0) _ s
    have hnN : n < N := by omega
    refine hc _ _ _ (hp.lt hnN) (hp.lt (by omega)) (hp.ne hnN (by omega) (by omega)) ?_
    show KasT.kasWp cmp (if lt2 r _ _ = true then _ else _) Q s
    by_cases hl : klt (r (p.getD n 0)) (r (p.getD (n - 1) 0))
    · have : lt2 r (p.getD n 0) (p.getD (n - 1) 0) = true := decide_eq_true hl
      rw [if_pos this]
      exact h n (Nat.le_refl _) hn ha fun _ => hl
    · have : lt2 r (p.getD n 0) (p.getD (n - 1) 0) = false := decide_eq_false hl
      rw [if_neg (by rw [this]; simp)]
      exact asc_wp hc hp f (n + 1) (by omega) (by omega) (by omega) (ha.more h1 hl) fun m hm1 hm2 hm3 hm4 => h m (by omega) hm2 hm3 hm4

theorem desc_wp (hr : Ord N r) (hc : Cmps N r cmp s) {p : Array Nat} (hp : Pm N p) : ∀ (f n : Nat) {Q : Array Nat × Nat × Nat → Shared → Prop}, f = N - n → 1 ≤ n → n ≤ N → Dsc r p n →
    (∀ m, n ≤ m → m ≤ N → Dsc r p m → Q (p, m, 0) s) → (kas_desc f p n 0).kasWp cmp Q s
  | 0, n, Q, hf, h1, hn, ha, h => h n (Nat.le_refl _) hn ha
  | f + 1, n, Q, hf, h1, hn, ha, h => by
    show cmp (p.getD n 0) (p.getD (n - 1) 0) _ s
    have hnN : n < N := by omega
    have hne := hp.ne hnN (show n - 1 < N by omega) (by omega)
    refine hc _ _ _ (hp.lt hnN) (hp.lt (by omega)) hne ?_
    show KasT.kasWp cmp (if lt2 r _ _ = true then _ else _) Q s
    by_cases hl : klt (r (p.getD n 0)) (r (p.getD (n - 1) 0))
    · have : lt2 r (p.getD n 0) (p.getD (n - 1) 0) = true := decide_eq_true hl
      rw [if_pos this, if_neg (by omega)]
      exact desc_wp hr hc hp f (n + 1) (by omega) (by omega) (by omega) (ha.more h1 (kle_of_lt hl)) fun m hm1 hm2 hm3 => h m (by omega) hm2 hm3
    · have : lt2 r (p.getD n 0) (p.getD (n - 1) 0) = false := decide_eq_false hl
      rw [if_neg (by rw [this]; simp)]
      show cmp (p.getD (n - 1) 0) (p.getD n 0) _ s
      refine hc _ _ _ (hp.lt (by omega)) (hp.lt hnN) (Ne.symm hne) ?_
      show KasT.kasWp cmp (if lt2 r _ _ = true then _ else _) Q s
      by_cases hl2 : klt (r (p.getD (n - 1) 0)) (r (p.getD n 0))
      · have : lt2 r (p.getD (n - 1) 0) (p.getD n 0) = true := decide_eq_true hl2
        rw [if_pos this]
        exact h n (Nat.le_refl _) hn ha
      · exact absurd (hr.inj _ _ (hp.lt hnN) (hp.lt (by omega)) (klt_anti hl hl2)) hne

theorem count_wp (hr : Ord N r) (hc : Cmps N r cmp s) {p : Array Nat} (hp : Pm N p) (hN : 1 ≤ N) {Q : Nat × Array Nat → Shared → Prop} (h : ∀ m p', 1 ≤ m → m ≤ N → Pm N p' → Asc r p' m → Q (m, p') s) : (kas_count N p).kasWp cmp Q s := by
  unfold kas_count
  rw [KasT.kasWp_bind]
  refine asc_wp hc hp _ 1 rfl (Nat.le_refl _) hN (Asc.one r p) fun m hm1 hm2 hm3 hm4 => ?_
  by_cases hmN : m = N
  · rw [if_pos (by simpa using hmN)]
    exact h m p hm1 hm2 hp hm3
  · rw [if_neg (by simpa using hmN)]
    by_cases h2 : m > 1
    · rw [if_pos h2]
      show cmp (p.getD 0 0) (p.getD (m - 1) 0) _ s
      have hne := hp.ne (show 0 < N by omega) (show m - 1 < N by omega) (by omega)
      refine hc _ _ _ (hp.lt (by omega)) (hp.lt (by omega)) hne ?_
      show KasT.kasWp cmp (if lt2 r _ _ = true then _ else _) Q s
      have hle := hm3 0 (m - 1) (by omega) (by omega)
      by_cases hl : klt (r (p.getD 0 0)) (r (p.getD (m - 1) 0))
      · have : lt2 r (p.getD 0 0) (p.getD (m - 1) 0) = true := decide_eq_true hl
        rw [if_pos this]
        exact h m p hm1 hm2 hp hm3
      · exact absurd (hr.inj _ _ (hp.lt (by omega)) (hp.lt (by omega)) (klt_anti hl hle)) hne
    · rw [if_neg h2]
      have e1 : m = 1 := by omega
      subst e1
      unfold kas_descPart
      rw [KasT.kasWp_bind]
      refine desc_wp hr hc hp _ 2 rfl (by omega) (by omega) ((Dsc.one r p).more (Nat.le_refl _) (kle_of_lt (hm4 (by omega)))) fun n hn1 hn2 hn3 => ?_
      rw [if_neg (by simp)]
      unfold kas_tail3
      rw [KasT.kasWp_bind]
      refine asc_wp hc (hp.rev 0 n) _ n rfl (by omega) hn2 (hn3.rev (by rw [hp.size]; exact hn2)) fun k hk1 hk2 hk3 _ => ?_
      exact h k _ (by omega) hk2 (hp.rev 0 n) hk3

theorem place_wp (hc : Cmps N r cmp s) {p : Array Nat} (hp : Pm N p) {k : Nat} (hk : k < N) : ∀ (f l u : Nat) {Q : Nat → Shared → Prop}, u - l ≤ f → l ≤ u → u ≤ k →
    (∀ i, i < l → kle (r (p.getD i 0)) (r (p.getD k 0))) → (∀ i, u ≤ i → i < k → kle (r (p.getD k 0)) (r (p.getD i 0))) → Asc r p k →
    (∀ m, m ≤ k → (∀ i, i < m → kle (r (p.getD i 0)) (r (p.getD k 0))) → (∀ i, m ≤ i → i < k → kle (r (p.getD k 0)) (r (p.getD i 0))) → Q m s) → (kas_place p k f l u).kasWp cmp Q s
  | 0, l, u, Q, hf, hlu, huk, h1, h2, ha, h => by
    have : l = u := by omega
    subst this
    exact h l huk h1 h2
  | f + 1, l, u, Q, hf, hlu, huk, h1, h2, ha, h => by
    show KasT.kasWp cmp (if l ≥ u then _ else _) Q s
    by_cases hge : l ≥ u
    · rw [if_pos hge]
      have : l = u := by omega
      subst this
      exact h l huk h1 h2
    · rw [if_neg hge]
      show cmp (p.getD k 0) (p.getD ((l + u) / 2) 0) _ s
      have hmk : (l + u) / 2 < k := by omega
      refine hc _ _ _ (hp.lt hk) (hp.lt (by omega)) (hp.ne hk (by omega) (by omega)) ?_
      show KasT.kasWp cmp (if lt2 r _ _ = true then _ else _) Q s
      by_cases hl : klt (r (p.getD k 0)) (r (p.getD ((l + u) / 2) 0))
      · have : lt2 r (p.getD k 0) (p.getD ((l + u) / 2) 0) = true := decide_eq_true hl
        rw [if_pos this]
        exact place_wp hc hp hk f l _ (by omega) (by omega) (by omega) h1 (fun i hi1 hi2 => kle_trans (kle_of_lt hl) (ha _ _ hi1 hi2)) ha h
      · have : lt2 r (p.getD k 0) (p.getD ((l + u) / 2) 0) = false := decide_eq_false hl
        rw [if_neg (by rw [this]; simp)]
        exact place_wp hc hp hk f _ u (by omega) (by omega) huk (fun i hi => kle_trans (ha i ((l + u) / 2) (by omega) hmk) hl) h2 ha h

theorem bin_wp (hc : Cmps N r cmp s) : ∀ (f k : Nat) (p : Array Nat) {Q : Array Nat → Shared → Prop}, f = N - k → k ≤ N → Pm N p → Asc r p k → (∀ p', Pm N p' → Asc r p' N → Q p' s) → (kas_bin f p k).kasWp cmp Q s
  | 0, k, p, Q, hf, hk, hp, ha, h => by
    have : k = N := by omega
    subst this
    exact h p hp ha
  | f + 1, k, p, Q, hf, hk, hp, ha, h => by
    have hkN : k < N := by omega
    show ((kas_place p k k 0 k).bind fun l => kas_bin f (bubble p k (k - l)) (k + 1)).kasWp cmp Q s
    rw [KasT.kasWp_bind]
    refine place_wp hc hp hkN k 0 k (by omega) (by omega) (Nat.le_refl _) (fun i hi => by omega) (fun i h1 h2 => by omega) ha fun l hl h1 h2 => ?_
    refine bin_wp hc f (k + 1) _ (by omega) hkN (hp.bub _ _) (fun i j hij hj => ?_) h
    have hs : k < p.size := by rw [hp.size]; exact hkN
    rw [bub_at hs hl, bub_at hs hl]
    by_cases hi1 : i = l
    · rw [if_pos hi1]
      by_cases hj1 : j = l
      · rw [if_pos hj1]; exact kle_refl _
      · rw [if_neg hj1, if_pos (by omega)]; exact h2 _ (by omega) (by omega)
    · rw [if_neg hi1]
      by_cases hi2 : l < i ∧ i ≤ k
      · rw [if_pos hi2, if_neg (by omega), if_pos (by omega)]; exact ha _ _ (by omega) (by omega)
      · rw [if_neg hi2]
        by_cases hj1 : j = l
        · rw [if_pos hj1]; exact h1 _ (by omega)
        · rw [if_neg hj1]
          by_cases hj2 : l < j ∧ j ≤ k
          · rw [if_pos hj2]; exact ha _ _ (by omega) (by omega)
          · rw [if_neg hj2]; exact ha _ _ (by omega) (by omega)

theorem sort_wp (hr : Ord N r) (hc : Cmps N r cmp s) (hN : 1 ≤ N) {Q : Array Nat → Shared → Prop} (h : ∀ p', Pm N p' → Asc r p' N → Q p' s) : (kas_sort N).kasWp cmp Q s := by
  have key : ((kas_count N (List.toArray (List.range N))).bind fun r => if r.1 < N then kas_bin (N - max r.1 1) r.2 (max r.1 1) else .ret r.2).kasWp cmp Q s := by
    rw [KasT.kasWp_bind]
    refine count_wp hr hc (p := List.toArray (List.range N)) (List.Perm.refl _) hN fun m p' hm1 hm2 hp ha => ?_
    dsimp only
    by_cases hm : m < N
    · rw [if_pos hm]
      have e : max m 1 = m := by omega
      rw [e]
      exact bin_wp hc _ m p' rfl hm2 hp ha h
    · rw [if_neg hm]
      have : m = N := by omega
      subst this
      exact h p' hp ha
  exact key
end
end Mine
end
section
open PySem PySem.W PyProof.Rows
set_option maxRecDepth 100000
namespace Mine
open PySem.SeqAt PySem.MeetsSeq PySem.MeetsSeq2 PySem.MeetsSeq3
open PySem.AutoSeq1 (wpAny_loadPart')

section
variable {prog : Program} {w : World} {A : Around} {s : Shared} {R : Result → Shared → Prop} {a b : Addr} {oa ob : Obj} {xs ys : Array Value} {n k : Nat}

theorem eqloop_open {i : Nat} {code : Int} (h : wpAny (model prog w) A.in1 (Builtin.«list.__eq__.loop» ⟨[.ref a, .ref b, rawInt i, rawInt code], []⟩)
      (fun fin s' => match fin with | .done f => R (.ok f) s' | .again c' => c'.quiet = true ∧ codeAny (model prog w) A c' R s') (fun e s' => R (.error e) s') s) :
    codeAny (model prog w) A (.builtin "list.__eq__.loop" ⟨[.ref a, .ref b, rawInt i, rawInt code], []⟩) R s := by
  refine codeAny_builtin entry_eq_loop ?_
  rw [Around.under_plainId plain_eq_loop _]
  exact h

theorem lt_step {i : Nat} {x y : Value} (ha : s.heap.get? a = some (lobj xs n)) (hb : s.heap.get? b = some (lobj ys k)) (hx : xs[i]? = some x) (hy : ys[i]? = some y) (he : EqAt A.in1 s x y true)
    (h : codeAny (model prog w) A (.builtin "list.__eq__.loop" ⟨[.ref a, .ref b, rawInt ((i + 1 : Nat) : Int), rawInt 0], []⟩) R s) :
    codeAny (model prog w) A (.builtin "list.__eq__.loop" ⟨[.ref a, .ref b, rawInt (i : Int), rawInt 0], []⟩) R s := by
  refine eqloop_open ?_
  obtain ⟨hp, g, d, tk, os⟩ := s
  have ha' : hp.get? a = some { cls := .type "list", dict := none, data := .seq xs n, slots := #[] } := ha
  have hb' : hp.get? b = some { cls := .type "list", dict := none, data := .seq ys k, slots := #[] } := hb
  wp_walk using wpAny_loadPart' ha', wpAny_loadPart' hb'
  have hi1 : xs[((i : Nat) : Int).toNat]? = some x := by simpa using hx
  have hi2 : ys[((i : Nat) : Int).toNat]? = some y := by simpa using hy
  rw [hi1, hi2]
  refine wpAny_bind (he prog w _ _ ?_)
  wp_walk
  exact ⟨plainId_quiet plain_eq_loop _, h⟩

theorem lt_stop {i : Nat} {x y : Value} {r : Bool} (ha : s.heap.get? a = some (lobj xs n)) (hb : s.heap.get? b = some (lobj ys k)) (hx : xs[i]? = some x) (hy : ys[i]? = some y) (he : EqAt A.in1 s x y false)
    (hc : ∀ (Q : Value → Shared → Prop) (E : Value → Shared → Prop), Q (.bool r) s → wpAny (model prog w) A.in1 (richCompare .Lt x y) Q E s) (h : R (.ok (.ret (.bool r))) s) :
    codeAny (model prog w) A (.builtin "list.__eq__.loop" ⟨[.ref a, .ref b, rawInt (i : Int), rawInt 0], []⟩) R s := by
  refine eqloop_open ?_
  obtain ⟨hp, g, d, tk, os⟩ := s
  have ha' : hp.get? a = some { cls := .type "list", dict := none, data := .seq xs n, slots := #[] } := ha
  have hb' : hp.get? b = some { cls := .type "list", dict := none, data := .seq ys k, slots := #[] } := hb
  wp_walk using wpAny_loadPart' ha', wpAny_loadPart' hb'
  have hi1 : xs[((i : Nat) : Int).toNat]? = some x := by simpa using hx
  have hi2 : ys[((i : Nat) : Int).toNat]? = some y := by simpa using hy
  rw [hi1, hi2]
  refine wpAny_bind (he prog w _ _ ?_)
  wp_walk using wpAny_loadPart' ha', wpAny_loadPart' hb'
  rw [hi1, hi2]
  refine wpAny_bind (hc _ _ ?_)
  exact wpAny_pure h

theorem lt_end {i : Nat} (ha : s.heap.get? a = some (lobj xs n)) (hb : s.heap.get? b = some (lobj ys k)) (hx : xs[i]? = none) (hy : ys[i]? = none) (h : R (.ok (.ret (.bool (decide (xs.size < ys.size))))) s) :
    codeAny (model prog w) A (.builtin "list.__eq__.loop" ⟨[.ref a, .ref b, rawInt (i : Int), rawInt 0], []⟩) R s := by
  refine eqloop_open ?_
  obtain ⟨hp, g, d, tk, os⟩ := s
  have ha' : hp.get? a = some { cls := .type "list", dict := none, data := .seq xs n, slots := #[] } := ha
  have hb' : hp.get? b = some { cls := .type "list", dict := none, data := .seq ys k, slots := #[] } := hb
  wp_walk using wpAny_loadPart' ha', wpAny_loadPart' hb'
  have hi1 : xs[((i : Nat) : Int).toNat]? = none := by simpa using hx
  have hi2 : ys[((i : Nat) : Int).toNat]? = none := by simpa using hy
  rw [hi1, hi2]
  wp_walk using wpAny_loadPart' ha', wpAny_loadPart' hb'
  exact h

theorem lt_meets (ha : s.heap.get? a = some (lobj xs n)) (hb : s.heap.get? b = some (lobj ys k)) {Q : Value → Shared → Prop} {E : Value → Shared → Prop} (hu : A.units < cLine)
    (h : codeAny (model prog w) A (.builtin "list.__eq__.loop" ⟨[.ref a, .ref b, rawInt ((0 : Nat) : Int), rawInt 0], []⟩) (fun r s' => ∃ c, r = .ok (.ret (.bool c)) ∧ Q (.bool c) s') s) :
    wpAny (model prog w) A (compareOp .Lt (.ref a) (.ref b)) Q E s := by
  have ha1 : s.TypeIs (.ref a) "list" := ⟨_, ha, rfl⟩
  have hb1 : s.TypeIs (.ref b) "list" := ⟨_, hb, rfl⟩
  refine cmp_ofLt (wpAny_richCompare_same_room (op := .Lt) ha1 hb1 F.slot_list_lt ?_ hu)
  refine wpAny_call (codeAny_call_builtin F.slot_list_lt.plain F.entry_list_lt (F.slot_list_lt.check _ _ _ _ _ _ _ _ ha1 (F.args_list_lt_2 _ _) ?_))
  obtain ⟨hp, g, d, tk, os⟩ := s
  have f3 := AutoSeq1.sub_list_list
  have ha' : hp.get? a = some { cls := .type "list", dict := none, data := .seq xs n, slots := #[] } := ha
  have hb' : hp.get? b = some { cls := .type "list", dict := none, data := .seq ys k, slots := #[] } := hb
  wp_walk using wpAny_loadPart' ha', wpAny_loadPart' hb'
  refine ⟨plainId_quiet plain_eq_loop _, codeAny_mono h ?_⟩
  rintro r s' ⟨c, rfl, hq⟩
  exact ⟨(fun x => nomatch x), hq⟩

/-- two rows compared: by the first two places -/
theorem lt_rows {l m l' m' : Int} {x x' : Str} {t1 t2 t3 u1 u2 u3 : Tok} {Q : Value → Shared → Prop} {E : Value → Shared → Prop}
    (ha : s.heap.get? a = some (lobj #[.int l t1, .int m t2, .str x t3] n)) (hb : s.heap.get? b = some (lobj #[.int l' u1, .int m' u2, .str x' u3] k))
    (hxx : l = l' → m = m' → x = x') (hu : A.units < cLine) (h : Q (.bool (decide (l < l' ∨ (l = l' ∧ m < m')))) s) : wpAny (model prog w) A (compareOp .Lt (.ref a) (.ref b)) Q E s := by
  refine lt_meets ha hb hu ?_
  have lti : ∀ (p q : Int) (t u : Tok) (Q : Value → Shared → Prop) (E : Value → Shared → Prop), Q (.bool (decide (p < q))) s → wpAny (model prog w) A.in1 (richCompare .Lt (.int p t) (.int q u)) Q E s :=
    fun p q t u Q E hq => PyProof.Rows.lt_int hq
  by_cases hl : l = l'
  · refine lt_step ha hb rfl rfl (by have := EqAt.int_int (A := A.in1) (s := s) l t1 l' u1; rwa [beq_iff_eq.mpr hl] at this) ?_
    by_cases hm : m = m'
    · refine lt_step ha hb rfl rfl (by have := EqAt.int_int (A := A.in1) (s := s) m t2 m' u2; rwa [beq_iff_eq.mpr hm] at this) ?_
      refine lt_step ha hb rfl rfl (by have := EqAt.str_str (A := A.in1) (s := s) x t3 x' u3; rwa [beq_iff_eq.mpr (hxx hl hm)] at this) ?_
      refine lt_end ha hb rfl rfl ⟨_, rfl, ?_⟩
      have : decide (l < l' ∨ (l = l' ∧ m < m')) = false := by simp; omega
      rw [this] at h
      exact h
    · refine lt_stop (r := decide (m < m')) ha hb rfl rfl (by have := EqAt.int_int (A := A.in1) (s := s) m t2 m' u2; rwa [beq_eq_false_iff_ne.mpr hm] at this) (fun Q E hq => lti _ _ _ _ _ _ hq) ⟨_, rfl, ?_⟩
      have : decide (l < l' ∨ (l = l' ∧ m < m')) = decide (m < m') := by congr 1; apply propext; omega
      rw [this] at h
      exact h
  · refine lt_stop (r := decide (l < l')) ha hb rfl rfl (by have := EqAt.int_int (A := A.in1) (s := s) l t1 l' u1; rwa [beq_eq_false_iff_ne.mpr hl] at this) (fun Q E hq => lti _ _ _ _ _ _ hq) ⟨_, rfl, ?_⟩
    have : decide (l < l' ∨ (l = l' ∧ m < m')) = decide (l < l') := by congr 1; apply propext; omega
    rw [this] at h
    exact h

/-- two long rows compared, their places (len, number) apart -/
theorem lt_rows4 {l m l' m' : Int} {x x' : Str} {v v' : Value} {t1 t2 t3 u1 u2 u3 : Tok} {Q : Value → Shared → Prop} {E : Value → Shared → Prop}
    (ha : s.heap.get? a = some (lobj #[.int l t1, .int m t2, .str x t3, v] n)) (hb : s.heap.get? b = some (lobj #[.int l' u1, .int m' u2, .str x' u3, v'] k))
    (hm : m ≠ m') (hu : A.units < cLine) (h : Q (.bool (decide (l < l' ∨ (l = l' ∧ m < m')))) s) : wpAny (model prog w) A (compareOp .Lt (.ref a) (.ref b)) Q E s := by
  refine lt_meets ha hb hu ?_
  have lti : ∀ (p q : Int) (t u : Tok) (Q : Value → Shared → Prop) (E : Value → Shared → Prop), Q (.bool (decide (p < q))) s → wpAny (model prog w) A.in1 (richCompare .Lt (.int p t) (.int q u)) Q E s :=
    fun p q t u Q E hq => PyProof.Rows.lt_int hq
  by_cases hl : l = l'
  · refine lt_step ha hb rfl rfl (by have := EqAt.int_int (A := A.in1) (s := s) l t1 l' u1; rwa [beq_iff_eq.mpr hl] at this) ?_
    refine lt_stop (r := decide (m < m')) ha hb rfl rfl (by have := EqAt.int_int (A := A.in1) (s := s) m t2 m' u2; rwa [beq_eq_false_iff_ne.mpr hm] at this) (fun Q E hq => lti _ _ _ _ _ _ hq) ⟨_, rfl, ?_⟩
    have : decide (l < l' ∨ (l = l' ∧ m < m')) = decide (m < m') := by congr 1; apply propext; omega
    rw [this] at h
    exact h
  · refine lt_stop (r := decide (l < l')) ha hb rfl rfl (by have := EqAt.int_int (A := A.in1) (s := s) l t1 l' u1; rwa [beq_eq_false_iff_ne.mpr hl] at this) (fun Q E hq => lti _ _ _ _ _ _ hq) ⟨_, rfl, ?_⟩
    have : decide (l < l' ∨ (l = l' ∧ m < m')) = decide (l < l') := by congr 1; apply propext; omega
    rw [this] at h
    exact h
end
end Mine
end
section
open PySem PySem.W PyProof.Rows
set_option maxRecDepth 100000
namespace Mine

abbrev noE : Value → Shared → Prop := fun _ _ => False

section
variable {prog : Program} {w : World} {A : Around} {s : Shared} {env : Env} {Q : Flow → Shared → Prop}

theorem while_ {test : Expr} {body : List Stmt} {pos : Pos} (I : Nat → Shared → Prop)
    (turn : ∀ n s, I n s → wpAny (model prog w) A (isTrue test env (eval test env)) (fun b s₂ =>
      if b = true then wpAny (model prog w) A (execs body env) (fun f s₃ => match f with
        | .next | .cont => ∃ k, k < n ∧ I k s₃
        | .brk => Q .next s₃
        | .ret v => Q (.ret v) s₃) noE s₂
      else Q .next s₂) noE s) (n : Nat) (h : I n s) : wpAny (model prog w) A (exec (.While test body [] pos) env) Q noE s := by
  refine wpAny_While (codeAny_whileLoop I (fun k s' hI => ?_) n h)
  refine wpAny_mono (turn k s' hI) (fun b s₂ h₂ => ?_) fun _ _ x => x.elim
  cases b with
  | false =>
    simp only [Bool.false_eq_true, if_false] at h₂ ⊢
    exact wpAny_execs_nil h₂
  | true =>
    simp only [if_true] at h₂ ⊢
    refine wpAny_mono h₂ (fun f s₃ h₃ => ?_) fun _ _ x => x.elim
    cases f <;> exact h₃

/-- a for over an iterator that walks -/
theorem for_ {x : Str} {px pos : Pos} {iter : Expr} {body : List Stmt}
    (h : wpAny (model prog w) A (eval iter env) (fun xv s₁ => wpAny (model prog w) A (pyIter xv) (fun it s₂ =>
      ∃ I fp wr n P Sw, it = .ref I ∧ Walks prog w A I fp wr n P Sw ∧ ∃ J : Nat → Shared → Prop, (J 0 s₂ ∧ Sw 0 s₂.heap) ∧
        (∀ i s v h' tk, i < n → J i s → Sw i s.heap → P i v → Sw (i + 1) h' → (∀ b o, b ∉ wr → s.heap.get? b = some o → h'.get? b = some o) → s.toks ≤ tk →
          wpAny (model prog w) A (storeName env x v) (fun _ s₃ => wpAny (model prog w) A (execs body env) (fun f s₄ => match f with
            | .next | .cont => J (i + 1) s₄ ∧ Sw (i + 1) s₄.heap
            | .brk => Q .next s₄
            | .ret v => Q (.ret v) s₄) noE s₃) noE { s with heap := h', toks := tk }) ∧
        (∀ s h' tk, J n s → Sw n s.heap → (∀ b o, b ∉ wr → s.heap.get? b = some o → h'.get? b = some o) → s.toks ≤ tk → Q .next { s with heap := h', toks := tk })) noE s₁) noE s)
    (hs : ∀ x, foldedSetIterable iter env x = pure x := by intro _; rfl) :
    wpAny (model prog w) A (exec (.For (.Name x px) iter body [] pos) env) Q noE s := by
  refine wpAny_For (wpAny_mono h (fun xv s₁ h₁ => wpAny_mono h₁ (fun it s₂ h₂ => ?_) fun _ _ x => x) fun _ _ x => x) hs
  obtain ⟨I, fp, wr, n, P, Sw, rfl, W, J, hJ0, turn, fin⟩ := h₂
  refine codeAny_forLoop_any (fun k s' => ∃ i, i ≤ n ∧ k = n - i ∧ J i s' ∧ Sw i s'.heap) ?_ n ⟨0, Nat.zero_le _, rfl, hJ0⟩
  rintro k s' ⟨i, hi, rfl, hJ, hS⟩
  by_cases hlt : i < n
  · refine wpAny_with_toks (Nat.le_refl s'.toks) (W.item i s' _ _ hlt hS fun v h' tk hP hS' hk htk => ?_)
    refine wpAny_mono (Q := fun _ s₁ => s₁ = { s' with heap := h', toks := tk }) (by first | exact wpAny_pure rfl | (unfold letOwnedTupleGo; exact wpAny_pure rfl)) (fun _ s₁ e => ?_) fun _ _ x => x
    subst e
    refine wpAny_assign_Name ?_
    refine wpAny_mono (turn i s' v h' tk hlt hJ hS hP hS' hk htk) (fun _ s₃ h₃ => ?_) fun _ _ x => x.elim
    refine wpAny_mono h₃ (fun f s₄ h₄ => ?_) fun _ _ x => x.elim
    cases f with
    | next => exact ⟨n - (i + 1), by omega, i + 1, hlt, rfl, h₄⟩
    | cont => exact ⟨n - (i + 1), by omega, i + 1, hlt, rfl, h₄⟩
    | brk => exact h₄
    | ret v => exact h₄
  · have e : i = n := by omega
    subst e
    exact wpAny_with_toks (Nat.le_refl s'.toks) (W.done s' _ _ hS fun h' tk hk htk => wpAny_execs_nil (fin s' h' tk hJ hS hk htk))
end
end Mine
end
section
open PySem PySem.W PyProof.Rows
set_option autoImplicit false
set_option maxRecDepth 100000
namespace Mine

def hid (X : Cx) (mu : Mut) (h : Heap) : Stat := fun b => if X.n ≤ b ∧ (mu b).isNone = true then h.get? b else none
def mone (a : Addr) (xs : Array Value) : Mut := fun b => if b = a then some xs else none
theorem mone_self {a : Addr} {xs : Array Value} : mone a xs a = some xs := if_pos rfl
theorem madd_mone {a : Addr} {xs ys : Array Value} : madd (mone a xs) a ys = mone a ys := by
  funext b; unfold madd mone; split <;> rfl
theorem madd_self {mu : Mut} {a : Addr} {xs : Array Value} : madd mu a xs a = some xs := if_pos rfl
theorem madd_ne {mu : Mut} {a b : Addr} {xs : Array Value} (h : b ≠ a) : madd mu a xs b = mu b := if_neg h
theorem madd_madd {mu : Mut} {a : Addr} {xs ys : Array Value} : madd (madd mu a xs) a ys = madd mu a ys := by
  funext b; unfold madd; split <;> rfl

/-- what a call has kept -/
def Kept (X : Cx) (D : Addr → Prop) (s s' : Shared) : Prop := Inv X s' ∧ ∀ b o, X.n ≤ b → ¬ D b → s.heap.get? b = some o → s'.heap.get? b = some o

section
variable {prog : Program} {w : World} {A : Around} {s : Shared} {X : Cx} {R : Result → Shared → Prop}

theorem St.enter {mu : Mut} {m : Loc} {h' : Heap} {tk : Nat} (hX : X.Ok) (I : Inv X s) (hmu : ∀ a xs, mu a = some xs → (∃ n, s.heap.get? a = some (lobj xs n)) ∧ X.n ≤ a) (F : Fr s.heap s.heap.objs.size h' m) :
    St X (hid X mu s.heap) mu s.heap.objs.size m { s with heap := h', toks := tk } := by
  refine ⟨I.mono hX (fun b o _ e => F.keep b o e) rfl I.gens (Nat.le_trans I.size (Nat.le_of_lt F.ns.lt)), F.ns, I.size, fun b o e => ?_, fun b o e => ?_, ?_, fun a xs e => ?_⟩
  · unfold hid at e; split at e
    · exact F.keep b o e
    · cases e
  · unfold hid at e; split at e
    · rename_i q; exact q.1
    · cases e
  · unfold hid; split
    · cases q : s.heap.get? s.heap.objs.size with
      | none => rfl
      | some o => exact absurd (Heap.lt_size q) (Nat.lt_irrefl _)
    · rfl
  · obtain ⟨⟨n, e1⟩, e2⟩ := hmu a xs e
    refine ⟨⟨n, F.keep _ _ e1⟩, e2, Nat.ne_of_lt (Heap.lt_size e1), ?_⟩
    unfold hid
    rw [e]; simp

theorem hid_of {mu : Mut} {h : Heap} {b : Addr} {o : Obj} (hb : X.n ≤ b) (hm : mu b = none) (e : h.get? b = some o) : hid X mu h b = some o := by
  unfold hid; rw [hm, if_pos ⟨hb, rfl⟩]; exact e

theorem St.kept {mu mu' : Mut} {g : Stat} {L : Addr} {m : Loc} {s' : Shared} (S : St X g mu' L m s') (hg : gle (hid X mu s.heap) g) : Kept X (fun b => (mu b).isSome) s s' :=
  ⟨S.inv, fun b o hb hd e => S.keep b o (hg b o (hid_of hb (by simpa using hd) e))⟩
theorem Kept.mono {D D' : Addr → Prop} {s s' : Shared} (k : Kept X D s s') (h : ∀ b, D b → D' b) : Kept X D' s s' := ⟨k.1, fun b o hb hd e => k.2 b o hb (fun q => hd (h b q)) e⟩

/-- the caller behind a call that changes no list of its own -/
theorem St.after0 {g : Stat} {mu : Mut} {L : Addr} {m : Loc} {s' : Shared} (S : St X g mu L m s) (k : Kept X (fun _ => False) s s') : St X g mu L m s' := by
  have hk : ∀ b o, X.n ≤ b → s.heap.get? b = some o → s'.heap.get? b = some o := fun b o hb e => k.2 b o hb id e
  refine ⟨k.1, ?_, S.low, fun b o e => hk b o (S.gnew b o e) (S.keep b o e), S.gnew, S.gout, fun a xs e => ?_⟩
  · obtain ⟨o, es, ep, h1, r⟩ := S.ns
    exact ⟨o, es, ep, hk _ _ S.low h1, r⟩
  · obtain ⟨⟨n, h1⟩, r⟩ := S.mus a xs e
    exact ⟨⟨n, hk _ _ r.1 h1⟩, r⟩
theorem St.after1 {g : Stat} {mu : Mut} {L : Addr} {m : Loc} {s' : Shared} {a : Addr} {xs ys : Array Value} (S : St X g mu L m s) (ha : mu a = some xs) (k : Kept X (fun b => b = a) s s') (hy : ∃ n, s'.heap.get? a = some (lobj ys n)) :
    St X g (madd mu a ys) L m s' := by
  have hk : ∀ b o, X.n ≤ b → b ≠ a → s.heap.get? b = some o → s'.heap.get? b = some o := fun b o hb hd e => k.2 b o hb hd e
  obtain ⟨_, ha1, ha2, ha3⟩ := S.mus a xs ha
  refine ⟨k.1, ?_, S.low, fun b o e => hk b o (S.gnew b o e) (fun h => by rw [h, ha3] at e; cases e) (S.keep b o e), S.gnew, S.gout, fun b zs e => ?_⟩
  · obtain ⟨o, es, ep, h1, r⟩ := S.ns
    exact ⟨o, es, ep, hk _ _ S.low (Ne.symm ha2) h1, r⟩
  · unfold madd at e; split at e
    · cases e; subst b; exact ⟨hy, ha1, ha2, ha3⟩
    · rename_i hne
      obtain ⟨⟨n, h1⟩, r⟩ := S.mus b zs e
      exact ⟨⟨n, hk _ _ r.1 hne h1⟩, r⟩

theorem call_fnT {i : Nat} (hX : X.Ok) (I : Inv X s) (hi : i ∈ [1, 3, 4, 5, 6, 7, 9, 10, 11]) (mu : Mut) (hmu : ∀ a xs, mu a = some xs → (∃ n, s.heap.get? a = some (lobj xs n)) ∧ X.n ≤ a) {args : List Value} {binds : List (Str × Value)}
    (hroom : A.depth < recursionLimit) (hbind : ∀ pm cd doc, bindArgs (Calls.docDef (nm i) (prm i) (bdy i) (scp i) pm cd doc) ⟨args, []⟩ = pure binds)
    (hloc : ∀ x ∈ binds, (scp i).names.lookup x.1 = some .local)
    (h : ∀ s₁, St X (hid X mu s.heap) mu s.heap.objs.size (fun x => binds.reverse.lookup x) s₁ → s.toks ≤ s₁.toks →
      wpAny (model prog w) (A.deeper (envOf (nm i) (scp i) s.heap.objs.size (X.fa i) (X.cd i))) (execs (bdy i) (envOf (nm i) (scp i) s.heap.objs.size (X.fa i) (X.cd i)))
        (fun f s' => R (.ok (.ret (match f with | .ret v => v | _ => .none))) s') noE s₁)
    (hco : (scp i).isCoroutine = false) (hgen : (scp i).isGenerator = false) (hk : (scp i).kind = .function) (hcell : ∀ x ∈ (scp i).names, x.2 ≠ .cell) :
    codeAny (model prog w) A (.call (.ref (X.fa i)) ⟨args, []⟩) R s := by
  obtain ⟨_, o, pm, doc, ho, hd, hcd⟩ := hX.fn i hi
  refine call_plain_ret hroom (I.cls hX ho (by rw [hd]; nofun)) hd (I.lim hX) (I.codeRec hX hcd) (hbind _ _ _) hloc (fun h₁ F => h _ (St.enter hX I hmu F) (Nat.le_add_right ..)) hco hgen hk hcell

theorem call_fn {i : Nat} (hX : X.Ok) (I : Inv X s) (hi : i ∈ [1, 3, 4, 5, 6, 7, 9, 10, 11]) (mu : Mut) (hmu : ∀ a xs, mu a = some xs → (∃ n, s.heap.get? a = some (lobj xs n)) ∧ X.n ≤ a) {args : List Value} {binds : List (Str × Value)}
    (hroom : A.depth < recursionLimit) (hbind : ∀ pm cd doc, bindArgs (Calls.docDef (nm i) (prm i) (bdy i) (scp i) pm cd doc) ⟨args, []⟩ = pure binds)
    (hloc : ∀ x ∈ binds, (scp i).names.lookup x.1 = some .local)
    (h : ∀ s₁, St X (hid X mu s.heap) mu s.heap.objs.size (fun x => binds.reverse.lookup x) s₁ →
      wpAny (model prog w) (A.deeper (envOf (nm i) (scp i) s.heap.objs.size (X.fa i) (X.cd i))) (execs (bdy i) (envOf (nm i) (scp i) s.heap.objs.size (X.fa i) (X.cd i)))
        (fun f s' => R (.ok (.ret (match f with | .ret v => v | _ => .none))) s') noE s₁)
    (hco : (scp i).isCoroutine = false) (hgen : (scp i).isGenerator = false) (hk : (scp i).kind = .function) (hcell : ∀ x ∈ (scp i).names, x.2 ≠ .cell) :
    codeAny (model prog w) A (.call (.ref (X.fa i)) ⟨args, []⟩) R s :=
  call_fnT hX I hi mu hmu hroom hbind hloc (fun s₁ S _ => h s₁ S) hco hgen hk hcell
end
end Mine
end
section
open PySem PySem.W PyProof.Rows
set_option autoImplicit false
set_option maxRecDepth 100000
namespace Mine

section
variable {prog : Program} {w : World} {A : Around} {s : Shared} {X : Cx} {Q : Value → Shared → Prop} {E : Value → Shared → Prop} {g : Stat} {mu : Mut} {L : Addr} {m : Loc} {env : Env}

theorem c_int {i : Int} {k : Nat} {pos : Pos} {M : Model} (hX : X.Ok) (S : St X g mu L m s) (h : ∀ t s', St X g mu L m s' → Q (.int i t) s') : wpAny M A (eval (.Constant (.int i) k pos) env) Q E s :=
  wpAny_Constant_int (h _ _ (S.toks hX))
theorem c_str {x : Str} {k : Nat} {pos : Pos} {M : Model} (hX : X.Ok) (S : St X g mu L m s) (h : ∀ t s', St X g mu L m s' → Q (.str x t) s') : wpAny M A (eval (.Constant (.str x) k pos) env) Q E s :=
  Calls.Constant_str (h _ _ (S.toks hX))
variable {a b : Int} {t u : Tok}
theorem b_sub (hX : X.Ok) (S : St X g mu L m s) (h : ∀ t s', St X g mu L m s' → Q (.int (a - b) t) s') : wpAny (model prog w) A (binaryOp .Sub (.int a t) (.int b u)) Q E s :=
  PyProof.Rows.sub_int (h _ _ (S.toks hX))
theorem b_add (hX : X.Ok) (S : St X g mu L m s) (h : ∀ t s', St X g mu L m s' → Q (.int (a + b) t) s') : wpAny (model prog w) A (binaryOp .Add (.int a t) (.int b u)) Q E s :=
  PyProof.Rows.add_int (h _ _ (S.toks hX))
theorem b_mul (hX : X.Ok) (S : St X g mu L m s) (hm : IntMulOk a b) (h : ∀ t s', St X g mu L m s' → Q (.int (a * b) t) s') : wpAny (model prog w) A (binaryOp .Mult (.int a t) (.int b u)) Q E s :=
  PyProof.Rows.mul_int (h _ _ (S.toks hX)) hm
theorem b_shr (hX : X.Ok) (S : St X g mu L m s) (hb : 0 ≤ b) (h : ∀ t s', St X g mu L m s' → Q (.int (a.fdiv (2 ^ b.toNat)) t) s') : wpAny (model prog w) A (binaryOp .RShift (.int a t) (.int b u)) Q E s :=
  rshift_int hb (h _ _ (S.toks hX))
theorem b_mod (hX : X.Ok) (S : St X g mu L m s) (hb : b ≠ 0) (h : ∀ t s', St X g mu L m s' → Q (.int (a.fmod b) t) s') : wpAny (model prog w) A (binaryOp .Mod (.int a t) (.int b u)) Q E s :=
  mod_int' hb (h _ _ (S.toks hX))
theorem b_div (hX : X.Ok) (S : St X g mu L m s) (hb : b ≠ 0) (hp : Builtin.divisionGoesByPylong a b = false ∨ PySem.PylongRoom (model prog w) A s) (h : ∀ t s', St X g mu L m s' → Q (.int (a.fdiv b) t) s') : wpAny (model prog w) A (binaryOp .FloorDiv (.int a t) (.int b u)) Q E s :=
  floordiv_int hb (h _ _ (S.toks hX)) hp
theorem b_pow (hX : X.Ok) (S : St X g mu L m s) (hn : 0 ≤ b) (hn2 : b ≤ 1000000) (ha : a.natAbs < 2 ^ 64) (h : ∀ t s', St X g mu L m s' → Q (.int (a ^ b.toNat) t) s') : wpAny (model prog w) A (binaryOp .Pow (.int a t) (.int b u)) Q E s :=
  pow_int_small hn hn2 ha (h _ _ (S.toks hX))

/-- an item of a mutable list, of a static one -/
theorem i_mut {a : Addr} {xs : Array Value} {k : Int} {x : Value} {value slice : Expr} (S : St X g mu L m s) (ha : mu a = some xs) (h0 : 0 ≤ k) (h63 : k < 2 ^ 63) (hx : xs[k.toNat]? = some x) (h : Q x s)
    (hs : subscripted slice false (.ref a) (.int k u) = operate [.ref a, .int k u] (getItem (.ref a) (.int k u)) := by with_unfolding_all rfl) : wpAny (model prog w) A (subscriptTail value slice (.ref a) (.int k u)) Q E s :=
  item_listR (S.isM ha) h0 h63 hx h hs
theorem i_sta {a : Addr} {xs : Array Value} {n : Nat} {k : Int} {x : Value} {value slice : Expr} (S : St X g mu L m s) (ha : g a = some (lobj xs n)) (h0 : 0 ≤ k) (h63 : k < 2 ^ 63) (hx : xs[k.toNat]? = some x) (h : Q x s)
    (hs : subscripted slice false (.ref a) (.int k u) = operate [.ref a, .int k u] (getItem (.ref a) (.int k u)) := by with_unfolding_all rfl) : wpAny (model prog w) A (subscriptTail value slice (.ref a) (.int k u)) Q E s :=
  item_listR (S.isG ha) h0 h63 hx h hs

theorem st_setItem {a : Addr} {xs : Array Value} {k : Int} {t : Tok} {v : Value} {Q : Unit → Shared → Prop} (hX : X.Ok) (S : St X g mu L m s) (ha : mu a = some xs) (h0 : 0 ≤ k) (h1 : k < xs.size) (h63 : k < 2 ^ 63)
    (h : ∀ s', St X g (madd mu a (xs.setIfInBounds k.toNat v)) L m s' → Q () s') : wpAny (model prog w) A (setItem (.ref a) (.int k t) v) Q E s := by
  obtain ⟨⟨n, e⟩, r⟩ := S.mus a xs ha
  refine ki_setAt (n := n) e h0 h63 h1 (h _ (S.mut hX ha ⟨n, ?_⟩ (Heap.SameBut.update ..)))
  refine (Heap.get?_update_self _ e (by show (Obj.mapSeq _ (lobj xs n)).isFreed = false; rfl)).trans ?_
  simp [lobj, Obj.mapSeq]

theorem seq_ {M : Model} {st : Stmt} {rest : List Stmt} {Q : Flow → Shared → Prop} (J : Shared → Prop) (h1 : wpAny M A (exec st env) (fun f s' => f = .next ∧ J s') noE s) (h2 : ∀ s', J s' → wpAny M A (execs rest env) Q noE s') :
    wpAny M A (execs (st :: rest) env) Q noE s :=
  wpAny_execs_cons (wpAny_mono h1 (fun f s' h => by obtain ⟨rfl, hJ⟩ := h; exact h2 s' hJ) fun _ _ x => x)

theorem seqT {M : Model} {st : Stmt} {rest : List Stmt} {Q : Flow → Shared → Prop} (J : Shared → Prop) (hn : 1 ≤ s.toks) (h1 : wpAny M A (exec st env) (fun f s' => f = .next ∧ J s') noE s) (h2 : ∀ s', 1 ≤ s'.toks → J s' → wpAny M A (execs rest env) Q noE s') :
    wpAny M A (execs (st :: rest) env) Q noE s :=
  wpAny_execs_cons (wpAny_mono (wpAny_toks_of hn h1) (fun f s' h => by obtain ⟨ht, rfl, hJ⟩ := h; exact h2 s' ht hJ) fun _ _ x => x.2)

/-- a built-in function called upon one value -/
theorem e_built1 {f : Str} {id : String} {e1 : Expr} {p pos : Pos} (hX : X.Ok) (I : Inv X s) (hm : f ∈ usedB) (hv : bootBuiltins f = some (.builtin id)) (hn : f ≠ "__name__")
    (h : wpAny (model prog w) A (eval e1 env) (fun v s₁ => wpAny (model prog w) A (call (.builtin id) [v]) Q E s₁) E s)
    (he : starEach [e1] env = [(false, eval e1 env)] := by rfl)
    (hg : env.globals = mainGlobals := by rfl) (hb : env.builtins = builtinsNs := by rfl) (hk : env.scope.kind = .function := by rfl) (hl : env.kindOf f = some .globalImplicit := by rfl) (hd : (f == ("__debug__" : Str)) = false := by decide) :
    wpAny (model prog w) A (eval (.Call (.Name f p) [e1] [] pos) env) Q E s := by
  refine wpAny_Call_Name_kw (st_built hX I hm hv hn ?_ hg hb hk hl hd)
  rw [he]
  exact Calls.callWith_builtin rfl (Calls.evalArgs_plain (Calls.spliced_cons (wpAny_mono h (fun v s₁ h₁ => Calls.spliced_nil h₁) fun _ _ x => x)))

theorem e_len {e1 : Expr} {p pos : Pos} (hX : X.Ok) (I : Inv X s) (h : wpAny (model prog w) A (eval e1 env) (fun v s₁ => wpAny (model prog w) A (call (.builtin "len") [v]) Q E s₁) E s)
    (he : starEach [e1] env = [(false, eval e1 env)] := by rfl)
    (hg : env.globals = mainGlobals := by rfl) (hb : env.builtins = builtinsNs := by rfl) (hk : env.scope.kind = .function := by rfl) (hl : env.kindOf "len" = some .globalImplicit := by rfl) :
    wpAny (model prog w) A (eval (.Call (.Name "len" p) [e1] [] pos) env) Q E s :=
  e_built1 hX I (by decide) (by boot_fast) (by decide) h he hg hb hk hl

theorem len_mut {a : Addr} {xs : Array Value} (hX : X.Ok) (S : St X g mu L m s) (ha : mu a = some xs) (hz : xs.size ≤ 1000000) (h : ∀ t s', St X g mu L m s' → Q (.int xs.size t) s') : wpAny (model prog w) A (call (.builtin "len") [.ref a]) Q E s :=
  Calls.call_len_list (S.isM ha) (by omega) (h _ _ (S.toks hX))

/-- a def of the text called upon its arguments -/
theorem e_fn {i : Nat} {f : Str} {e1 : Expr} {rest : List Expr} {p pos : Pos} (hX : X.Ok) (I : Inv X s) (hi : i ∈ [1, 3, 4, 5, 6, 7, 9, 10, 11]) (hf : nm i = f)
    (h : wpAny (model prog w) A (spliced (backTo pos (starEach (e1 :: rest) env))) (fun vs s₁ => Inv X s₁ ∧ codeAny (model prog w) A (.call (.ref (X.fa i)) ⟨vs, []⟩)
      (fun r s' => match r with | .ok (.ret v) => Q v s' | .ok _ => False | .error e => E e s') s₁) E s)
    (he : starEach (e1 :: rest) env = (false, eval e1 env) :: starEach rest env := by rfl)
    (hg : env.globals = mainGlobals := by rfl) (hk : env.scope.kind = .function := by rfl) (hl : env.kindOf f = some .globalImplicit := by rfl) (hd : (f == ("__debug__" : Str)) = false := by decide) :
    wpAny (model prog w) A (eval (.Call (.Name f p) (e1 :: rest) [] pos) env) Q E s := by
  obtain ⟨hv, o, pm, doc, ho, hdt, _⟩ := hX.fn i hi
  refine wpAny_Call_Name_kw (st_glob hX I (hf ▸ hv) ?_ hg hk hl hd)
  refine Calls.callWith_function (o := o) (fd := Calls.docDef (nm i) (prm i) (bdy i) (scp i) pm (X.cd i) doc) ?_
  rw [he] at h ⊢
  refine Calls.evalArgs_plain (wpAny_mono h (fun vs s₁ h₁ => ?_) fun _ _ x => x)
  exact ⟨⟨h₁.1.cls hX ho (by rw [hdt]; nofun), hdt⟩, wpAny_call h₁.2⟩

theorem a_cons {M : Model} {e1 : Expr} {rest : List Expr} {pos : Pos} {Q : List Value → Shared → Prop} (h : wpAny M A (eval e1 env) (fun v s₁ => wpAny M A (spliced (backTo pos (starEach rest env))) (fun vs s₂ => Q (v :: vs) s₂) E s₁) E s)
    (he : starEach (e1 :: rest) env = (false, eval e1 env) :: starEach rest env := by rfl) : wpAny M A (spliced (backTo pos (starEach (e1 :: rest) env))) Q E s := by
  rw [he]; exact Calls.spliced_cons h
theorem a_nil {M : Model} {pos : Pos} {Q : List Value → Shared → Prop} (h : Q [] s) : wpAny M A (spliced (backTo pos (starEach [] env))) Q E s := Calls.spliced_nil h
theorem mul_ok {a b : Int} (h0 : -1000000 ≤ a) (h1 : a ≤ 1000000) : IntMulOk a b := PySem.IntMulOk.of_left (PySem.intBits_le_64 (by omega) (by omega))
end
end Mine
end
section
open PySem PySem.W PyProof.Rows
set_option autoImplicit false
namespace Mine
open Builtin.Str StrLaws

/-- a scan from the left: y replaced by z -/
def rep (y z : List Nat) : Nat → List Nat → List Nat
  | 0, l => l
  | _ + 1, [] => []
  | n + 1, c :: r => if y.isPrefixOf (c :: r) then z ++ rep y z n ((c :: r).drop y.length) else c :: rep y z n r
def repL (y z l : List Nat) : List Nat := rep y z l.length l

theorem rep_fuel {y z : List Nat} (hy : y ≠ []) : ∀ (n k : Nat) (l : List Nat), l.length ≤ n → l.length ≤ k → rep y z n l = rep y z k l
  | 0, 0, _, _, _ => rfl
  | 0, k + 1, [], _, _ => rfl
  | n + 1, 0, [], _, _ => rfl
  | n + 1, k + 1, [], _, _ => rfl
  | 0, k + 1, _ :: _, h, _ => by simp at h
  | n + 1, 0, _ :: _, _, h => by simp at h
  | n + 1, k + 1, c :: r, h1, h2 => by
    have hl : 0 < y.length := List.length_pos_iff.mpr hy
    simp only [List.length_cons] at h1 h2
    unfold rep
    split
    · have hd : ((c :: r).drop y.length).length ≤ r.length := by simp; omega
      rw [rep_fuel hy n k _ (by omega) (by omega)]
    · rw [rep_fuel hy n k r (by omega) (by omega)]
theorem repL_nil {y z : List Nat} : repL y z [] = [] := rfl
theorem repL_hit {y z l : List Nat} (hy : y ≠ []) (h : y <+: l) : repL y z l = z ++ repL y z (l.drop y.length) := by
  have hl : 0 < y.length := List.length_pos_iff.mpr hy
  cases l with
  | nil => exact absurd (List.prefix_nil.mp h) hy
  | cons c r =>
    unfold repL
    show (if y.isPrefixOf (c :: r) then z ++ rep y z r.length ((c :: r).drop y.length) else c :: rep y z r.length r) = _
    rw [if_pos (List.isPrefixOf_iff_prefix.mpr h), rep_fuel hy r.length ((c :: r).drop y.length).length _ (by simp; omega) (Nat.le_refl _)]
theorem repL_miss {y z r : List Nat} {c : Nat} (h : ¬ y <+: c :: r) : repL y z (c :: r) = c :: repL y z r := by
  unfold repL
  show (if y.isPrefixOf (c :: r) then z ++ rep y z r.length ((c :: r).drop y.length) else c :: rep y z r.length r) = _
  rw [if_neg (fun q => h (List.isPrefixOf_iff_prefix.mp q))]
theorem repL_skip {y z : List Nat} : ∀ (p r : List Nat), (∀ k, k < p.length → ¬ y <+: (p ++ r).drop k) → repL y z (p ++ r) = p ++ repL y z r
  | [], _, _ => rfl
  | c :: p, r, h => by
    have h0 := h 0 (by simp)
    rw [List.cons_append, repL_miss (by simpa using h0), repL_skip p r fun k hk => by simpa using h (k + 1) (by simpa using hk)]
    rfl
theorem repL_free {y z l : List Nat} (hy : y ≠ []) (h : ∀ k, ¬ y <+: l.drop k) : repL y z l = l := by
  have := repL_skip (y := y) (z := z) l [] fun k _ => by simpa using h k
  simpa [repL_nil] using this

theorem at_iff (x y : Str) (k : Nat) (hy : 1 ≤ y.length) : At x y x.length k ↔ y.cps.toList <+: x.cps.toList.drop k := by
  have hyl : y.cps.toList.length = y.length := by simp [Str.length]
  have hxl : x.cps.toList.length = x.length := by simp [Str.length]
  unfold At
  rw [subAt_eq, beq_iff_eq]
  constructor
  · rintro ⟨_, h⟩
    rw [← h]; exact List.take_prefix _ _
  · intro h
    refine ⟨?_, ?_⟩
    · have := h.length_le
      rw [List.length_drop, hyl, hxl] at this
      omega
    · obtain ⟨t, ht⟩ := h
      rw [← ht, ← hyl, List.take_left']
      rfl

theorem chain_rep (x y z : Str) (hy : 1 ≤ y.length) : ∀ (cuts : List Nat) (a f : Nat), ChainG x y x.length a cuts f → (∀ k, f ≤ k → ¬ At x y x.length k) →
    (Str.join z (partsFrom x y.length a cuts)).cps.toList = repL y.cps.toList z.cps.toList (x.cps.toList.drop a)
  | [], a, f, h, hn => by
    have e : f = a := h
    subst e
    have hyn : y.cps.toList ≠ [] := by intro q; have : y.cps.toList.length = y.length := by simp [Str.length]
                                       rw [q] at this; simp at this; omega
    rw [repL_free hyn fun k => ?_]
    · show (strSub x f x.length).cps.toList = _
      rw [strSub_toList, List.take_of_length_le (by simp [Str.length])]
    · rw [List.drop_drop]
      exact fun q => hn (f + k) (by omega) ((at_iff x y _ hy).mpr q)
  | c :: r, a, f, h, hn => by
    obtain ⟨hac, hA, hno, hr⟩ := h
    have ih := chain_rep x y z hy r _ f hr hn
    have hyl : y.cps.toList.length = y.length := by simp [Str.length]
    have hyn : y.cps.toList ≠ [] := by intro q; rw [q] at hyl; simp at hyl; omega
    obtain ⟨p, rest, hp⟩ := partsFrom_ne x y.length (c + y.length) r
    have e1 : x.cps.toList.drop a = (x.cps.toList.drop a).take (c - a) ++ x.cps.toList.drop c := by
      have : x.cps.toList.drop c = (x.cps.toList.drop a).drop (c - a) := by rw [List.drop_drop]; congr 1; omega
      rw [this, List.take_append_drop]
    have hcl : c ≤ x.cps.toList.length := by have := hA.1; simp [Str.length] at this ⊢; omega
    have hlen : ((x.cps.toList.drop a).take (c - a)).length = c - a := by rw [List.length_take, List.length_drop]; omega
    rw [e1, repL_skip _ _ (fun k hk => ?_), repL_hit hyn ((at_iff x y c hy).mp hA), List.drop_drop, hyl]
    · show (Str.join z (strSub x a c :: partsFrom x y.length (c + y.length) r)).cps.toList = _
      rw [hp] at ih ⊢
      show (strSub x a c ++ z ++ Str.join z (p :: rest)).cps.toList = _
      rw [Str.cps_append, Str.cps_append, Array.toList_append, Array.toList_append, ih, strSub_toList, List.append_assoc]
    · rw [← e1, List.drop_drop]
      exact fun q => hno (a + k) (by omega) (by omega) ((at_iff x y _ hy).mpr q)

theorem replace_repL (x y z : Str) (hy : 1 ≤ y.length) : (Txt.replace x y z).cps.toList = repL y.cps.toList z.cps.toList x.cps.toList := by
  obtain ⟨f, hG, hn⟩ := occ_tight x y hy
  have key := chain_rep x y z hy _ 0 f hG hn
  rw [List.drop_zero] at key
  unfold Txt.replace
  split
  · rename_i h
    rw [Bool.or_eq_true] at h
    rcases h with h | h
    · rw [List.isEmpty_iff] at h
      rw [h] at key
      rw [← key]
      show _ = (strSub x 0 x.length).cps.toList
      rw [strSub_toList, List.drop_zero, List.take_of_length_le (by simp [Str.length])]
    · simp at h; omega
  · rw [glued_eq_join, partsBetween_eq]; exact key

/-- blanks at the ends left out -/
def trimL (goes : Nat → Bool) (l : List Nat) : List Nat := ((l.dropWhile goes).reverse.dropWhile goes).reverse
theorem drop_takeWhile (goes : Nat → Bool) : ∀ l : List Nat, l.drop (l.takeWhile goes).length = l.dropWhile goes
  | [] => rfl
  | c :: r => by
    by_cases h : goes c = true
    · simp [h, drop_takeWhile goes r]
    · simp [h]
theorem strip_trimL (x : Str) : (Txt.strip x).cps.toList = trimL Unicode.isSpace x.cps.toList := by
  unfold Txt.strip
  rw [PyProof.Rows.stripBy_eq]
  rw [strSub_toList]
  have hn : x.cps.toList.length = x.length := by simp [Str.length]
  simp only [stripLo, stripHi, if_true]
  rw [drop_takeWhile]
  unfold trimL
  generalize hL : x.cps.toList.dropWhile Unicode.isSpace = l
  have hlo : (x.cps.toList.takeWhile Unicode.isSpace).length = x.length - l.length := by
    have := congrArg List.length (drop_takeWhile Unicode.isSpace x.cps.toList)
    rw [List.length_drop, hL, hn] at this
    have := takeWhile_len_le Unicode.isSpace x.cps.toList
    rw [hn] at this
    omega
  have hll : l.length ≤ x.length := by rw [← hL, ← hn]; exact (List.dropWhile_sublist _).length_le
  have e : x.length - (l.reverse.takeWhile Unicode.isSpace).length - (x.cps.toList.takeWhile Unicode.isSpace).length = l.length - (l.reverse.takeWhile Unicode.isSpace).length := by
    rw [hlo]; omega
  rw [e, ← drop_takeWhile, List.reverse_drop, List.reverse_reverse, List.length_reverse]

/-- runs of hyphens made one -/
def cs (c : Nat) (t : List Nat) : List Nat := if c = 45 ∧ t.head? = some 45 then t else c :: t
def coll (l : List Nat) : List Nat := l.foldr cs []
theorem cs_cs (t : List Nat) : cs 45 (cs 45 t) = cs 45 t := by
  unfold cs
  by_cases h : t.head? = some 45
  · simp [h]
  · simp [h]
theorem cs_ne {c : Nat} (h : c ≠ 45) (t : List Nat) : cs c t = c :: t := by unfold cs; rw [if_neg (fun q => h q.1)]
theorem coll_cons (c : Nat) (r : List Nat) : coll (c :: r) = cs c (coll r) := rfl
theorem coll_append (a b : List Nat) : coll (a ++ b) = a.foldr cs (coll b) := by unfold coll; rw [List.foldr_append]
theorem foldr_coll (t : List Nat) : ∀ a : List Nat, (coll a).foldr cs t = a.foldr cs t
  | [] => rfl
  | c :: a => by
    have ih := foldr_coll t a
    rw [coll_cons]
    by_cases h : c = 45 ∧ (coll a).head? = some 45
    · obtain ⟨rfl, h⟩ := h
      have e : cs 45 (coll a) = coll a := by unfold cs; rw [if_pos ⟨rfl, h⟩]
      rw [e, ih, List.foldr_cons, ← ih]
      cases hc : coll a with
      | nil => rw [hc] at h; cases h
      | cons d r =>
        rw [hc] at h
        cases h
        rw [List.foldr_cons, cs_cs]
    · have e : cs c (coll a) = c :: coll a := by unfold cs; rw [if_neg h]
      rw [e, List.foldr_cons, ih, List.foldr_cons]
theorem coll_left (a b : List Nat) : coll (coll a ++ b) = coll (a ++ b) := by rw [coll_append, coll_append, foldr_coll]
theorem coll_right (a b : List Nat) : coll (a ++ coll b) = coll (a ++ b) := by
  rw [coll_append, coll_append]
  have : coll (coll b) = coll b := foldr_coll [] b
  rw [this]
theorem coll_idem (a : List Nat) : coll (coll a) = coll a := foldr_coll [] a
theorem coll_free : ∀ p : List Nat, 45 ∉ p → coll p = p
  | [], _ => rfl
  | c :: r, h => by
    rw [coll_cons, coll_free r (fun q => h (List.mem_cons_of_mem _ q)), cs_ne (fun q => h (q ▸ List.mem_cons_self))]
theorem head_coll : ∀ l : List Nat, (coll l).head? = l.head?
  | [] => rfl
  | c :: r => by
    rw [coll_cons]; unfold cs
    split
    · rename_i h; rw [h.2, h.1]; rfl
    · rfl
theorem cs_append {c : Nat} {t p : List Nat} (hp : 45 ∉ p) (ht : t = [] → p.head? ≠ some 45) : cs c (t ++ p) = cs c t ++ p := by
  unfold cs
  cases t with
  | nil =>
    have hh : ([] ++ p).head? ≠ some 45 := ht rfl
    rw [if_neg (fun q => hh q.2), if_neg (fun q => by simp at q)]
    rfl
  | cons d r =>
    by_cases h : c = 45 ∧ d = 45
    · rw [if_pos ⟨h.1, by simp [h.2]⟩, if_pos ⟨h.1, by simp [h.2]⟩]
    · rw [if_neg (fun q => h ⟨q.1, by simpa using q.2⟩), if_neg (fun q => h ⟨q.1, by simpa using q.2⟩)]; rfl
/-- behind a text without hyphens nothing changes -/
theorem coll_snoc_free (p : List Nat) (hp : 45 ∉ p) : ∀ a : List Nat, coll (a ++ p) = coll a ++ p
  | [] => coll_free p hp
  | c :: a => by
    rw [List.cons_append, coll_cons, coll_snoc_free p hp a, coll_cons]
    refine cs_append hp fun _ q => hp ?_
    cases p with
    | nil => cases q
    | cons d r => cases q; exact List.mem_cons_self
theorem cs_snoc {c : Nat} {t : List Nat} : cs c (t ++ [45]) = if t = [] ∧ c = 45 then [45] else cs c t ++ [45] := by
  unfold cs
  cases t with
  | nil =>
    by_cases h : c = 45
    · subst h; simp
    · simp [h]
  | cons d r =>
    by_cases h : c = 45 ∧ d = 45
    · simp [h]
    · rw [if_neg (fun q => h ⟨q.1, by simpa using q.2⟩), if_neg (by simp), if_neg (fun q => h ⟨q.1, by simpa using q.2⟩)]; rfl
theorem coll_snoc_dash : ∀ a : List Nat, coll (a ++ [45]) = if (coll a).getLast? = some 45 then coll a else coll a ++ [45]
  | [] => rfl
  | c :: a => by
    rw [List.cons_append, coll_cons, coll_snoc_dash a, coll_cons]
    by_cases h : (coll a).getLast? = some 45
    · rw [if_pos h]
      have : (cs c (coll a)).getLast? = some 45 := by
        unfold cs; split
        · exact h
        · cases hc : coll a with
          | nil => rw [hc] at h; cases h
          | cons d r => rw [hc] at h; rw [List.getLast?_cons_cons]; exact h
      rw [if_pos this]
    · rw [if_neg h, cs_snoc]
      cases hc : coll a with
      | nil =>
        by_cases hcc : c = 45
        · subst hcc; rfl
        · rw [if_neg (fun q => hcc q.2), cs_ne hcc]
          rw [if_neg (by simp [hcc])]
      | cons d r =>
        rw [hc] at h
        rw [if_neg (by simp)]
        have : (cs c (d :: r)).getLast? = (d :: r).getLast? := by
          unfold cs; split
          · rfl
          · rw [List.getLast?_cons_cons]
        rw [if_neg (by rw [this]; exact h)]
end Mine
end
section
open PySem PySem.W PyProof.Rows
set_option autoImplicit false
namespace Mine
open Builtin.Str StrLaws

theorem snoc_ind {P : List Nat → Prop} (h0 : P []) (h1 : ∀ l c, P l → P (l ++ [c])) (l : List Nat) : P l := by
  have : ∀ r : List Nat, P r.reverse := by
    intro r
    induction r with
    | nil => exact h0
    | cons c r ih => rw [List.reverse_cons]; exact h1 _ _ ih
  have := this l.reverse
  rwa [List.reverse_reverse] at this

/-- one sign turned into another -/
theorem repL_one (c d : Nat) : ∀ l : List Nat, repL [c] [d] l = l.map fun k => if k = c then d else k
  | [] => rfl
  | k :: r => by
    by_cases h : k = c
    · subst h
      rw [repL_hit (by simp) (by simp)]
      simp [repL_one k d r]
    · rw [repL_miss (fun q => h (by obtain ⟨t, ht⟩ := q; simp at ht; exact ht.1.symm)), repL_one c d r]
      simp [h]

/-- two hyphens to one: what it collapses to stays, and it is shorter or had none -/
theorem rep2 : ∀ (n : Nat) (l : List Nat), l.length ≤ n → coll (repL [45, 45] [45] l) = coll l ∧ (repL [45, 45] [45] l).length ≤ l.length ∧ ((repL [45, 45] [45] l).length = l.length → coll l = l)
  | 0, [], _ => ⟨rfl, Nat.le_refl _, fun _ => rfl⟩
  | 0, _ :: _, h => by simp at h
  | n + 1, [], _ => ⟨rfl, Nat.le_refl _, fun _ => rfl⟩
  | n + 1, c :: r, h => by
    simp only [List.length_cons] at h
    by_cases hp : [45, 45] <+: c :: r
    · obtain ⟨t, ht⟩ := id hp
      simp only [List.cons_append, List.nil_append, List.cons.injEq] at ht
      obtain ⟨rfl, rfl⟩ := ht
      have ih := rep2 n t (by simp at h; omega)
      rw [repL_hit (by simp) hp]
      simp only [List.length_cons, List.length_nil, List.drop_succ_cons, List.drop_zero, List.cons_append, List.nil_append]
      refine ⟨?_, by omega, fun q => by omega⟩
      rw [coll_cons, ih.1, coll_cons, coll_cons, cs_cs]
    · have ih := rep2 n r (by omega)
      rw [repL_miss hp]
      refine ⟨by rw [coll_cons, ih.1, coll_cons], by simp; exact ih.2.1, fun q => ?_⟩
      have hr := ih.2.2 (by simpa using q)
      rw [coll_cons, hr]
      unfold cs
      rw [if_neg]
      rintro ⟨rfl, hh⟩
      cases r with
      | nil => cases hh
      | cons d r' => cases hh; exact hp (by simp)

/-- hyphens at the end left out -/
def rs (l : List Nat) : List Nat := (l.reverse.dropWhile (· == 45)).reverse
theorem rs_snoc_dash (l : List Nat) : rs (l ++ [45]) = rs l := by unfold rs; simp
theorem rs_snoc_ne {l : List Nat} {c : Nat} (h : c ≠ 45) : rs (l ++ [c]) = l ++ [c] := by unfold rs; simp [h]
theorem rs_split : ∀ l : List Nat, ∃ k, l = rs l ++ List.replicate k 45 := by
  intro l
  induction l using snoc_ind with
  | h0 => exact ⟨0, rfl⟩
  | h1 l c ih =>
    by_cases h : c = 45
    · subst h
      obtain ⟨k, hk⟩ := ih
      refine ⟨k + 1, ?_⟩
      rw [rs_snoc_dash]
      conv => lhs; rw [hk]
      rw [List.append_assoc, List.replicate_succ']
    · exact ⟨0, by rw [rs_snoc_ne h]; simp⟩
theorem coll_reps (b : List Nat) : ∀ k, coll (List.replicate k 45 ++ 45 :: b) = coll (45 :: b)
  | 0 => rfl
  | k + 1 => by
    rw [List.replicate_succ, List.cons_append, coll_cons, coll_reps b k, coll_cons, cs_cs]
theorem coll_rs_mid (a b : List Nat) : coll (rs a ++ 45 :: b) = coll (a ++ 45 :: b) := by
  obtain ⟨k, hk⟩ := rs_split a
  conv => rhs; rw [hk]
  rw [List.append_assoc, coll_append, coll_append, coll_reps]
theorem rs_coll_snoc (a : List Nat) : rs (coll (a ++ [45])) = rs (coll a) := by
  rw [coll_snoc_dash]; split
  · rfl
  · rw [rs_snoc_dash]
theorem rs_coll_reps (a : List Nat) : ∀ k, rs (coll (a ++ List.replicate k 45)) = rs (coll a)
  | 0 => by simp
  | k + 1 => by rw [List.replicate_succ', ← List.append_assoc, rs_coll_snoc, rs_coll_reps a k]
theorem rs_coll_rs (x b : List Nat) : rs (coll (x ++ rs b)) = rs (coll (x ++ b)) := by
  obtain ⟨k, hk⟩ := rs_split b
  conv => rhs; rw [hk]
  rw [← List.append_assoc, rs_coll_reps]
/-- two texts joined by a hyphen -/
theorem glue_texts (a b : List Nat) : rs (coll (rs (coll a) ++ 45 :: rs (coll b))) = rs (coll (a ++ 45 :: b)) := by
  rw [coll_rs_mid]
  have e : coll a ++ 45 :: rs (coll b) = (coll a ++ [45]) ++ rs (coll b) := by simp
  rw [e, rs_coll_rs, List.append_assoc, coll_left, ← List.append_assoc, coll_right, List.append_assoc]
  rfl
/-- in a collapsed text one hyphen at most stands at the end -/
theorem coll_last {l : List Nat} (h : coll l = l) (hl : l.getLast? = some 45) : rs l = l.dropLast := by
  induction l using snoc_ind with
  | h0 => cases hl
  | h1 l c _ =>
    simp at hl
    subst hl
    rw [rs_snoc_dash, List.dropLast_concat]
    induction l using snoc_ind with
    | h0 => rfl
    | h1 l d _ =>
      by_cases hd : d = 45
      · subst hd
        exfalso
        have h1 := congrArg List.length h
        rw [coll_snoc_dash] at h1
        have h2 : (coll (l ++ [45])).getLast? = some 45 := by
          rw [coll_snoc_dash]; split
          · assumption
          · simp
        rw [if_pos h2] at h1
        have h3 : ∀ l : List Nat, (coll l).length ≤ l.length := by
          intro l
          induction l with
          | nil => exact Nat.le_refl _
          | cons c r ih =>
            rw [coll_cons]; unfold cs; split
            · simp; omega
            · simp; omega
        have := h3 (l ++ [45])
        simp at h1 this
        omega
      · exact rs_snoc_ne hd
theorem rs_no {l : List Nat} (h : l.getLast? ≠ some 45) : rs l = l := by
  induction l using snoc_ind with
  | h0 => rfl
  | h1 l c _ => exact rs_snoc_ne (fun q => h (by simp [q]))
end Mine
end
section
open PySem PySem.W PyProof.Rows
set_option autoImplicit false
namespace Mine
open Builtin.Str StrLaws

def unk : List Nat := [117, 110, 107, 110, 111, 119, 110]
def signs : List (List Nat) := [[45], [32], [47], [92], [58], [59], [34], [40], [41], unk]
def IsDigs (d : List Nat) : Prop := d ≠ [] ∧ ∀ c ∈ d, 48 ≤ c ∧ c ≤ 57
def GoodP (p : List Nat) : Prop := p ∈ signs ∨ IsDigs p
def IsLeaf (ps : List (List Nat)) : Prop := ∃ a b d c e, ps = [a, b, d, c, e] ∧ a ∈ signs ∧ b ∈ signs ∧ c ∈ signs ∧ e ∈ signs ∧ IsDigs d ∧ d.length ≤ 31
theorem IsLeaf.good {ps : List (List Nat)} (h : IsLeaf ps) : ∀ p ∈ ps, GoodP p := by
  obtain ⟨a, b, d, c, e, rfl, ha, hb, hc, he, hd, _⟩ := h
  intro p hp
  simp at hp
  rcases hp with rfl | rfl | rfl | rfl | rfl
  · exact .inl ha
  · exact .inl hb
  · exact .inr hd
  · exact .inl hc
  · exact .inl he

def stripP (ps : List (List Nat)) : List (List Nat) := ((ps.dropWhile (· == [32])).reverse.dropWhile (· == [32])).reverse
theorem stripP_sub {ps : List (List Nat)} {p : List Nat} (h : p ∈ stripP ps) : p ∈ ps := by
  unfold stripP at h
  rw [List.mem_reverse] at h
  have := (List.dropWhile_sublist _).mem h
  rw [List.mem_reverse] at this
  exact (List.dropWhile_sublist _).mem this
theorem mem_dropWhile {α : Type} {p : α → Bool} {x : α} (hx : p x = false) : ∀ {l : List α}, x ∈ l → x ∈ l.dropWhile p
  | c :: r, h => by
    rw [List.dropWhile_cons]
    split
    · rename_i hc
      rcases List.mem_cons.mp h with rfl | h
      · rw [hx] at hc; cases hc
      · exact mem_dropWhile hx h
    · exact h
theorem stripP_keep {ps : List (List Nat)} {p : List Nat} (h : p ∈ ps) (hp : p ≠ [32]) : p ∈ stripP ps := by
  unfold stripP
  rw [List.mem_reverse]
  refine mem_dropWhile (by simpa using hp) ?_
  rw [List.mem_reverse]
  exact mem_dropWhile (by simpa using hp) h
def cm (k : Nat) : Nat := if k = 32 then 95 else if k = 47 ∨ k = 92 ∨ k = 58 ∨ k = 59 ∨ k = 34 ∨ k = 40 ∨ k = 41 then 45 else k
/-- what is left of the pieces -/
def fl (ps : List (List Nat)) : List Nat := ((ps.map fun p => p.map cm).filter (· != unk)).flatten
theorem fl_append (a b : List (List Nat)) : fl (a ++ b) = fl a ++ fl b := by unfold fl; simp
theorem fl_dash (a : List (List Nat)) : fl ([45] :: a) = 45 :: fl a := by
  have : fl ([45] :: a) = fl ([[45]] ++ a) := rfl
  rw [this, fl_append]; rfl
theorem digs_cm {d : List Nat} (h : IsDigs d) : d.map cm = d := by
  have : ∀ c ∈ d, cm c = c := fun c hc => by have := h.2 c hc; unfold cm; rw [if_neg (by omega), if_neg (by omega)]
  conv => rhs; rw [← List.map_id d]
  exact List.map_congr_left this
theorem digs_ne {d : List Nat} (h : IsDigs d) : d ≠ unk := fun e => by
  have := h.2 117 (by rw [e]; simp [unk]); omega
theorem fl_digs {d : List Nat} (h : IsDigs d) : fl [d] = d := by
  unfold fl; simp [digs_cm h, digs_ne h]

def isDig (c : Nat) : Bool := decide (48 ≤ c) && decide (c ≤ 57)
def tell (told p : List Nat) : List Nat :=
  if p = [32] then told ++ [95] else if isDig (p.headD 0) then told ++ p else if p ≠ unk ∧ told.getLast? ≠ some 45 then told ++ [45] else told
def wstep (told : List Nat) (name : List (List Nat)) : List Nat := (if told ≠ [] then [45] :: stripP name else stripP name).foldl tell told
def walkRaw (N : List (List (List Nat))) : List Nat := N.foldl wstep []
def walkL (N : List (List (List Nat))) : List Nat := if (walkRaw N).getLast? = some 45 then (walkRaw N).dropLast else walkRaw N

theorem tell_coll {T p : List Nat} (h : GoodP p) : tell (coll T) p = coll (T ++ fl [p]) := by
  rcases h with h | h
  · simp only [signs, List.mem_cons, List.not_mem_nil, or_false] at h
    rcases h with rfl | rfl | rfl | rfl | rfl | rfl | rfl | rfl | rfl | rfl
    case inr.inl =>
      show (coll T) ++ [95] = coll (T ++ [95])
      rw [coll_snoc_free [95] (by decide)]
    case inr.inr.inr.inr.inr.inr.inr.inr.inr =>
      show coll T = coll (T ++ [])
      rw [List.append_nil]
    all_goals
      show (if _ ∧ (coll T).getLast? ≠ some 45 then coll T ++ [45] else coll T) = coll (T ++ [45])
      rw [coll_snoc_dash]
      by_cases hl : (coll T).getLast? = some 45
      · rw [if_pos hl, if_neg (fun q => q.2 hl)]
      · rw [if_neg hl, if_pos ⟨by decide, hl⟩]
  · rw [fl_digs h, coll_snoc_free p (fun q => by have := h.2 45 q; omega)]
    unfold tell
    obtain ⟨hne, hall⟩ := h
    cases p with
    | nil => exact absurd rfl hne
    | cons c r =>
      have hc := hall c List.mem_cons_self
      rw [if_neg (by intro q; cases q; omega), if_pos (by simp [isDig]; omega)]
theorem fold_tell {T : List Nat} : ∀ (ps : List (List Nat)), (∀ p ∈ ps, GoodP p) → ps.foldl tell (coll T) = coll (T ++ fl ps) := by
  intro ps
  induction ps generalizing T with
  | nil => intro _; simp [fl]
  | cons p r ih =>
    intro h
    rw [List.foldl_cons, tell_coll (h p List.mem_cons_self), ih fun q hq => h q (List.mem_cons_of_mem _ hq), List.append_assoc, ← fl_append]
    rfl

def inter : List (List (List Nat)) → List (List Nat)
  | [] => []
  | n :: r => stripP n ++ r.flatMap fun n => [45] :: stripP n
theorem good_dash : GoodP [45] := .inl (by simp [signs])
theorem coll_ne {l : List Nat} (h : l ≠ []) : coll l ≠ [] := fun q => by
  have := head_coll l
  rw [q] at this
  cases l with
  | nil => exact h rfl
  | cons c r => cases this
theorem fl_leaf_ne {n : List (List Nat)} (h : IsLeaf n) (T : List (List Nat)) : fl (stripP n ++ T) ≠ [] := by
  obtain ⟨a, b, d, c, e, rfl, ha, hb, hc, he, hd, _⟩ := h
  have hm : d ∈ stripP [a, b, d, c, e] := stripP_keep (by simp) (fun q => by have := hd.2 32 (by rw [q]; simp); omega)
  obtain ⟨u, v, huv⟩ := List.append_of_mem hm
  rw [fl_append, huv]
  have : fl (u ++ d :: v) = fl u ++ (fl [d] ++ fl v) := by
    rw [← fl_append, ← fl_append]; rfl
  rw [this, fl_digs hd]
  intro q
  have h2 := hd.1
  simp at q
  exact h2 q.2.1
theorem fold_wstep : ∀ (N : List (List (List Nat))) (T : List Nat), T ≠ [] → (∀ n ∈ N, IsLeaf n) → N.foldl wstep (coll T) = coll (T ++ fl (N.flatMap fun n => [45] :: stripP n))
  | [], T, _, _ => by simp [fl]
  | n :: r, T, hT, h => by
    rw [List.foldl_cons]
    have hg : ∀ p ∈ [45] :: stripP n, GoodP p := fun p hp => by
      rcases List.mem_cons.mp hp with rfl | hp
      · exact good_dash
      · exact (h n List.mem_cons_self).good p (stripP_sub hp)
    have e : wstep (coll T) n = coll (T ++ fl ([45] :: stripP n)) := by
      unfold wstep
      rw [if_pos (coll_ne hT), fold_tell _ hg]
    rw [e, fold_wstep r _ (by simp [hT]) fun q hq => h q (List.mem_cons_of_mem _ hq), List.append_assoc, ← fl_append, List.flatMap_cons]
theorem walkRaw_eq {N : List (List (List Nat))} (hN : N ≠ []) (h : ∀ n ∈ N, IsLeaf n) : walkRaw N = coll (fl (inter N)) := by
  cases N with
  | nil => exact absurd rfl hN
  | cons n r =>
    unfold walkRaw
    rw [List.foldl_cons]
    have e : wstep [] n = coll (fl (stripP n)) := by
      unfold wstep
      rw [if_neg (by simp)]
      have := fold_tell (T := []) (stripP n) fun p hp => (h n List.mem_cons_self).good p (stripP_sub hp)
      exact this
    have hne : fl (stripP n) ≠ [] := by have := fl_leaf_ne (h n List.mem_cons_self) []; rwa [List.append_nil] at this
    rw [e, fold_wstep r _ hne fun q hq => h q (List.mem_cons_of_mem _ hq), ← fl_append]
    rfl
theorem walkL_eq {N : List (List (List Nat))} (hN : N ≠ []) (h : ∀ n ∈ N, IsLeaf n) : walkL N = rs (coll (fl (inter N))) := by
  unfold walkL
  rw [walkRaw_eq hN h]
  split
  · rename_i hl; rw [coll_last (coll_idem _) hl]
  · rename_i hl; rw [rs_no hl]
theorem inter_append {a b : List (List (List Nat))} (ha : a ≠ []) (hb : b ≠ []) : inter (a ++ b) = inter a ++ [45] :: inter b := by
  cases a with
  | nil => exact absurd rfl ha
  | cons n r =>
    cases b with
    | nil => exact absurd rfl hb
    | cons k t =>
      show stripP n ++ (r ++ k :: t).flatMap _ = _
      rw [List.flatMap_append, List.flatMap_cons]
      show _ = (stripP n ++ r.flatMap _) ++ [45] :: (stripP k ++ t.flatMap _)
      simp
/-- two rows' texts put together -/
theorem walk_two {a b : List (List (List Nat))} (ha : a ≠ []) (hb : b ≠ []) (hla : ∀ n ∈ a, IsLeaf n) (hlb : ∀ n ∈ b, IsLeaf n) : rs (coll (walkL a ++ 45 :: walkL b)) = walkL (a ++ b) := by
  rw [walkL_eq ha hla, walkL_eq hb hlb, glue_texts, walkL_eq (by simp [ha]) (fun n hn => (List.mem_append.mp hn).elim (hla n) (hlb n)), inter_append ha hb, fl_append, fl_dash]
end Mine
end
section
open PySem PySem.W PyProof.Rows
set_option autoImplicit false
namespace Mine
open Builtin.Str StrLaws

theorem space_no {c : Nat} (h : 33 ≤ c) (h2 : c < 127) : Unicode.isSpace c = false := by
  simp [Unicode.isSpace, UnicodeData.space, UnicodeData.space0, Unicode.within]; omega
theorem space_32 : Unicode.isSpace 32 = true := by decide

/-- a piece: a blank, or a text without white signs -/
def PieceOk (p : List Nat) : Prop := p = [32] ∨ (p ≠ [] ∧ ∀ c ∈ p, Unicode.isSpace c = false)
theorem GoodP.ok {p : List Nat} (h : GoodP p) : PieceOk p := by
  rcases h with h | h
  · simp only [signs, List.mem_cons, List.not_mem_nil, or_false] at h
    rcases h with rfl | rfl | rfl | rfl | rfl | rfl | rfl | rfl | rfl | rfl
    case inr.inl => exact .inl rfl
    all_goals exact .inr ⟨by decide, by decide⟩
  · exact .inr ⟨h.1, fun c hc => by have := h.2 c hc; exact space_no (by omega) (by omega)⟩
theorem PieceOk.rev {p : List Nat} (h : PieceOk p) : PieceOk p.reverse := by
  rcases h with rfl | ⟨h1, h2⟩
  · exact .inl rfl
  · exact .inr ⟨by simpa using h1, fun c hc => h2 c (List.mem_reverse.mp hc)⟩
theorem dw_flat : ∀ ps : List (List Nat), (∀ p ∈ ps, PieceOk p) → ps.flatten.dropWhile Unicode.isSpace = (ps.dropWhile (· == [32])).flatten
  | [], _ => rfl
  | p :: r, h => by
    rcases h p List.mem_cons_self with rfl | ⟨h1, h2⟩
    · rw [List.flatten_cons, List.cons_append, List.nil_append, List.dropWhile_cons, if_pos space_32, dw_flat r fun q hq => h q (List.mem_cons_of_mem _ hq), List.dropWhile_cons, if_pos (by simp)]
    · cases p with
      | nil => exact absurd rfl h1
      | cons c t =>
        have hc := h2 c List.mem_cons_self
        have hne : ¬ ((c :: t == [32]) = true) := by
          intro q
          have : c :: t = [32] := by simpa using q
          cases this
          rw [space_32] at hc; cases hc
        rw [List.flatten_cons, List.cons_append, List.dropWhile_cons, if_neg (by rw [hc]; simp), List.dropWhile_cons, if_neg hne]
        simp
theorem dw_map_rev : ∀ ps : List (List Nat), (ps.map List.reverse).dropWhile (· == [32]) = (ps.dropWhile (· == [32])).map List.reverse
  | [] => rfl
  | p :: r => by
    have e : (p.reverse == [32]) = (p == [32]) := by
      rw [Bool.eq_iff_iff, beq_iff_eq, beq_iff_eq]
      constructor
      · intro q; have := congrArg List.reverse q; simpa using this
      · rintro rfl; rfl
    rw [List.map_cons, List.dropWhile_cons, e, List.dropWhile_cons]
    split
    · exact dw_map_rev r
    · rfl
theorem rev_flatten (ps : List (List Nat)) : ps.flatten.reverse = (ps.reverse.map List.reverse).flatten := by
  rw [List.reverse_flatten, List.map_reverse]
theorem trim_flat {ps : List (List Nat)} (h : ∀ p ∈ ps, PieceOk p) : trimL Unicode.isSpace ps.flatten = (stripP ps).flatten := by
  unfold trimL stripP
  rw [dw_flat ps h]
  have h2 : ∀ p ∈ (ps.dropWhile (· == [32])).reverse.map List.reverse, PieceOk p := fun p hp => by
    obtain ⟨q, hq, rfl⟩ := List.mem_map.mp hp
    exact (h q ((List.dropWhile_sublist _).mem (List.mem_reverse.mp hq))).rev
  rw [rev_flatten, dw_flat _ h2, dw_map_rev, rev_flatten, List.map_reverse, List.map_map]
  have : (List.reverse ∘ List.reverse : List Nat → List Nat) = id := by funext x; simp
  rw [this]; simp

/-- a text out of pieces -/
def txt (l : List Nat) : Str := ⟨l.toArray⟩
theorem txt_list (l : List Nat) : (txt l).cps.toList = l := by simp [txt]
theorem txt_of (x : Str) : txt x.cps.toList = x := by simp [txt]
theorem txt_inj {x y : Str} (h : x.cps.toList = y.cps.toList) : x = y := by rw [← txt_of x, ← txt_of y, h]
theorem len_list (x : Str) : x.length = x.cps.toList.length := by simp [Str.length]

/-- the platform's text ahead of the hyphens -/
def platP (args : List Str) : List Nat := repL unk [] ((Txt.join (txt [45]) ((args.filter fun x => x.length != 0).map Txt.strip)).cps.toList.map cm)
def platF (args : List Str) : Str := txt (rs (coll (platP args)))

theorem join_flat : ∀ (x : Str) (r : List Str), (Txt.join (txt [45]) (x :: r)).cps.toList = x.cps.toList ++ r.flatMap fun x => 45 :: x.cps.toList
  | x, [] => by simp [Txt.join, glued_eq_join, Str.join]
  | x, y :: r => by
    have ih := join_flat y r
    unfold Txt.join at ih ⊢
    rw [glued_eq_join] at ih ⊢
    show (x ++ txt [45] ++ Str.join (txt [45]) (y :: r)).cps.toList = _
    rw [Str.cps_append, Str.cps_append, Array.toList_append, Array.toList_append, ih, txt_list]
    simp
theorem un_flat : ∀ qs : List (List Nat), (∀ q ∈ qs, q = unk ∨ 117 ∉ q) → repL unk [] qs.flatten = (qs.filter (· != unk)).flatten
  | [], _ => rfl
  | q :: r, h => by
    have ih := un_flat r fun p hp => h p (List.mem_cons_of_mem _ hp)
    rw [List.flatten_cons]
    by_cases hq : q = unk
    · subst hq
      rw [repL_hit (by decide) (List.prefix_append _ _), List.drop_left, ih]
      simp
    · have hno := (h q List.mem_cons_self).resolve_left hq
      rw [repL_skip, ih]
      · rw [List.filter_cons, if_pos (by simpa using hq)]
        simp
      · intro k hk hp
        obtain ⟨t, ht⟩ := hp
        rw [List.drop_append_of_le_length (by omega)] at ht
        have : (q.drop k) ≠ [] := by simp; omega
        cases hd : q.drop k with
        | nil => exact this hd
        | cons c u =>
          rw [hd] at ht
          simp [unk] at ht
          have : c ∈ q.drop k := by rw [hd]; exact List.mem_cons_self
          exact hno (ht.1 ▸ List.mem_of_mem_drop this)
theorem good_cm {p : List Nat} (h : GoodP p) : p.map cm = unk ∨ 117 ∉ p.map cm := by
  rcases h with h | h
  · simp only [signs, List.mem_cons, List.not_mem_nil, or_false] at h
    rcases h with rfl | rfl | rfl | rfl | rfl | rfl | rfl | rfl | rfl | rfl
    case inr.inr.inr.inr.inr.inr.inr.inr.inr => exact .inl (by decide)
    all_goals exact .inr (by decide)
  · rw [digs_cm h]; exact .inr fun q => by have := h.2 117 q; omega
theorem un_cm {ps : List (List Nat)} (h : ∀ p ∈ ps, GoodP p) : repL unk [] (ps.flatten.map cm) = fl ps := by
  rw [List.map_flatten, un_flat]
  · rfl
  · intro q hq
    obtain ⟨p, hp, rfl⟩ := List.mem_map.mp hq
    exact good_cm (h p hp)

theorem inter_good {N : List (List (List Nat))} (h : ∀ n ∈ N, IsLeaf n) : ∀ p ∈ inter N, GoodP p := by
  cases N with
  | nil => intro p hp; cases hp
  | cons n r =>
    intro p hp
    rcases List.mem_append.mp hp with hp | hp
    · exact (h n List.mem_cons_self).good p (stripP_sub hp)
    · obtain ⟨k, hk, hp⟩ := List.mem_flatMap.mp hp
      rcases List.mem_cons.mp hp with rfl | hp
      · exact good_dash
      · exact (h k (List.mem_cons_of_mem _ hk)).good p (stripP_sub hp)
theorem leaf_flat_ne {n : List (List Nat)} (h : IsLeaf n) : n.flatten ≠ [] := by
  obtain ⟨a, b, d, c, e, rfl, ha, hb, hc, he, hd, _⟩ := h
  intro q; simp at q; exact hd.1 q.2.2.1

/-- the names' texts all at once -/
theorem plat_names {N : List (List (List Nat))} (hN : N ≠ []) (h : ∀ n ∈ N, IsLeaf n) : platF (N.map fun n => txt n.flatten) = txt (walkL N) := by
  unfold platF
  congr 2
  rw [walkL_eq hN h]
  congr 2
  unfold platP
  have e1 : (N.map fun n => txt n.flatten).filter (fun x => x.length != 0) = N.map fun n => txt n.flatten := by
    rw [List.filter_eq_self]
    intro x hx
    obtain ⟨n, hn, rfl⟩ := List.mem_map.mp hx
    have := leaf_flat_ne (h n hn)
    rw [len_list, txt_list]
    cases hf : n.flatten with
    | nil => exact absurd hf this
    | cons c r => simp
  rw [e1, List.map_map]
  have e2 : ((fun x => Txt.strip x) ∘ fun n : List (List Nat) => txt n.flatten) = fun n => Txt.strip (txt n.flatten) := rfl
  have e3 : ∀ n ∈ N, (Txt.strip (txt n.flatten)).cps.toList = (stripP n).flatten := fun n hn => by
    rw [strip_trimL, txt_list, trim_flat fun p hp => ((h n hn).good p hp).ok]
  cases N with
  | nil => exact absurd rfl hN
  | cons n r =>
    rw [List.map_cons, join_flat]
    have e4 : ((Txt.strip ∘ fun n => txt n.flatten) n).cps.toList = (stripP n).flatten := e3 n List.mem_cons_self
    have key : ∀ l : List (List (List Nat)), (∀ k ∈ l, (Txt.strip (txt k.flatten)).cps.toList = (stripP k).flatten) → (l.map (Txt.strip ∘ fun n => txt n.flatten)).flatMap (fun x => 45 :: x.cps.toList) = (l.flatMap fun n => [45] :: stripP n).flatten := by
      intro l
      induction l with
      | nil => intro _; rfl
      | cons k t ih =>
        intro hk
        rw [List.map_cons, List.flatMap_cons, ih fun j hj => hk j (List.mem_cons_of_mem _ hj), List.flatMap_cons, List.flatten_append, Function.comp_apply, hk k List.mem_cons_self]
        simp
    have e5 := key r fun k hk => e3 k (List.mem_cons_of_mem _ hk)
    rw [e4, e5, ← List.flatten_append]
    exact un_cm (inter_good h)

/-- signs of a told text -/
def Clean (l : List Nat) : Prop := ∀ c ∈ l, c = 45 ∨ c = 95 ∨ (48 ≤ c ∧ c ≤ 57)
theorem coll_sub : ∀ {l : List Nat} {c : Nat}, c ∈ coll l → c ∈ l
  | d :: r, c, h => by
    rw [coll_cons] at h; unfold cs at h; split at h
    · exact List.mem_cons_of_mem _ (coll_sub h)
    · rcases List.mem_cons.mp h with rfl | h
      · exact List.mem_cons_self
      · exact List.mem_cons_of_mem _ (coll_sub h)
theorem rs_sub {l : List Nat} {c : Nat} (h : c ∈ rs l) : c ∈ l := by
  unfold rs at h
  exact List.mem_reverse.mp ((List.dropWhile_sublist _).mem (List.mem_reverse.mp h))
theorem rs_len (l : List Nat) : (rs l).length ≤ l.length := by
  unfold rs; rw [List.length_reverse]; exact Nat.le_trans (List.dropWhile_sublist _).length_le (by simp)
theorem coll_len : ∀ l : List Nat, (coll l).length ≤ l.length
  | [] => Nat.le_refl _
  | c :: r => by
    have := coll_len r
    rw [coll_cons]; unfold cs; split <;> simp <;> omega
theorem fl_clean {ps : List (List Nat)} (h : ∀ p ∈ ps, GoodP p) : Clean (fl ps) := by
  intro c hc
  unfold fl at hc
  obtain ⟨q, hq, hcq⟩ := List.mem_flatten.mp hc
  obtain ⟨hq, hne⟩ := List.mem_filter.mp hq
  obtain ⟨p, hp, rfl⟩ := List.mem_map.mp hq
  rcases h p hp with h | h
  · simp only [signs, List.mem_cons, List.not_mem_nil, or_false] at h
    rcases h with rfl | rfl | rfl | rfl | rfl | rfl | rfl | rfl | rfl | rfl
    case inr.inr.inr.inr.inr.inr.inr.inr.inr => exact absurd hne (by decide)
    case inr.inl => exact .inr (.inl (by simpa [cm] using hcq))
    all_goals exact .inl (by simpa [cm] using hcq)
  · rw [digs_cm h] at hcq; exact .inr (.inr (h.2 c hcq))
theorem walkL_clean {N : List (List (List Nat))} (hN : N ≠ []) (h : ∀ n ∈ N, IsLeaf n) : Clean (walkL N) := by
  rw [walkL_eq hN h]
  exact fun c hc => fl_clean (inter_good h) c (coll_sub (rs_sub hc))
theorem clean_trim {l : List Nat} (h : Clean l) : trimL Unicode.isSpace l = l := by
  have hs : ∀ c ∈ l, Unicode.isSpace c = false := fun c hc => by
    have := h c hc; exact space_no (by omega) (by omega)
  have dw : ∀ l : List Nat, (∀ c ∈ l, Unicode.isSpace c = false) → l.dropWhile Unicode.isSpace = l := fun l hl => by
    cases l with
    | nil => rfl
    | cons c r => rw [List.dropWhile_cons, if_neg (by rw [hl c List.mem_cons_self]; simp)]
  unfold trimL
  rw [dw l hs, dw l.reverse (fun c hc => hs c (List.mem_reverse.mp hc)), List.reverse_reverse]
theorem clean_cm {l : List Nat} (h : Clean l) : l.map cm = l := by
  conv => rhs; rw [← List.map_id l]
  exact List.map_congr_left fun c hc => by have := h c hc; unfold cm; rw [if_neg (by omega), if_neg (by omega)]; rfl
theorem clean_un {l : List Nat} (h : Clean l) : repL unk [] l = l := by
  refine repL_free (by decide) fun k hp => ?_
  obtain ⟨t, ht⟩ := hp
  have : 117 ∈ l.drop k := by rw [← ht]; simp [unk]
  have := h 117 (List.mem_of_mem_drop this)
  omega
theorem digs_rs {l : List Nat} {d : Nat} (hd : d ∈ l) (h : d ≠ 45) : d ∈ rs l := by
  unfold rs
  rw [List.mem_reverse]
  exact mem_dropWhile (by simpa using h) (List.mem_reverse.mpr hd)
theorem coll_keep {d : Nat} (h : d ≠ 45) : ∀ {l : List Nat}, d ∈ l → d ∈ coll l
  | c :: r, hm => by
    rw [coll_cons]; unfold cs
    rcases List.mem_cons.mp hm with rfl | hm
    · rw [if_neg (fun q => h q.1)]; exact List.mem_cons_self
    · split
      · exact coll_keep h hm
      · exact List.mem_cons_of_mem _ (coll_keep h hm)
theorem walkL_ne {N : List (List (List Nat))} (hN : N ≠ []) (h : ∀ n ∈ N, IsLeaf n) : walkL N ≠ [] := by
  rw [walkL_eq hN h]
  cases N with
  | nil => exact absurd rfl hN
  | cons n r =>
    obtain ⟨a, b, d, c, e, rfl, ha, hb, hc, he, hd, _⟩ := h n List.mem_cons_self
    have hm : d ∈ stripP [a, b, d, c, e] := stripP_keep (by simp) (fun q => by have := hd.2 32 (by rw [q]; simp); omega)
    obtain ⟨u, v, huv⟩ := List.append_of_mem (List.mem_append_left (r.flatMap fun n => [45] :: stripP n) hm)
    have e1 : fl (inter ([a, b, d, c, e] :: r)) = fl u ++ (d ++ fl v) := by
      show fl (stripP [a, b, d, c, e] ++ r.flatMap fun n => [45] :: stripP n) = _
      rw [huv]
      have : u ++ d :: v = u ++ ([d] ++ v) := rfl
      rw [this, fl_append, fl_append, fl_digs hd]
    obtain ⟨x, hx⟩ := List.exists_mem_of_ne_nil d hd.1
    have hx45 : x ≠ 45 := by have := hd.2 x hx; omega
    exact List.ne_nil_of_mem (digs_rs (coll_keep hx45 (by rw [e1]; simp [hx])) hx45)

/-- two told texts behind an empty one -/
theorem plat_two {a b : List (List (List Nat))} (ha : a ≠ []) (hb : b ≠ []) (hla : ∀ n ∈ a, IsLeaf n) (hlb : ∀ n ∈ b, IsLeaf n) : platF [txt [], txt (walkL a), txt (walkL b)] = txt (walkL (a ++ b)) := by
  unfold platF
  congr 2
  rw [← walk_two ha hb hla hlb]
  congr 2
  have na := walkL_ne ha hla
  have nb := walkL_ne hb hlb
  have ca := walkL_clean ha hla
  have cb := walkL_clean hb hlb
  unfold platP
  have e1 : ([txt [], txt (walkL a), txt (walkL b)].filter fun x => x.length != 0) = [txt (walkL a), txt (walkL b)] := by
    have h1 : (txt (walkL a)).length ≠ 0 := by rw [len_list, txt_list]; simpa using na
    have h2 : (txt (walkL b)).length ≠ 0 := by rw [len_list, txt_list]; simpa using nb
    have h3 : (txt []).length = 0 := rfl
    simp [h1, h2, h3]
  rw [e1, List.map_cons, join_flat]
  show repL unk [] (((Txt.strip (txt (walkL a))).cps.toList ++ [Txt.strip (txt (walkL b))].flatMap fun x => 45 :: x.cps.toList).map cm) = _
  have cab : Clean (walkL a ++ 45 :: walkL b) := fun c hc => by
    rcases List.mem_append.mp hc with h | h
    · exact ca c h
    · rcases List.mem_cons.mp h with rfl | h
      · exact .inl rfl
      · exact cb c h
  simp only [List.flatMap_cons, List.flatMap_nil, List.append_nil, strip_trimL, txt_list, clean_trim ca, clean_trim cb]
  rw [clean_cm cab, clean_un cab]
end Mine
end
section
open PySem PySem.W PyProof.Rows
set_option autoImplicit false
set_option maxRecDepth 100000
namespace Mine
open Builtin.Str

theorem ind_butlast (n : Nat) : strSliceIndices none (some (-1)) 1 n = List.range (n - 1) := by
  unfold strSliceIndices sliceRange
  simp only [show ((1 : Int) > 0) = True from by simp, if_true, show ((-1 : Int) < 0) = True from by simp]
  have e : ((if (0 : Int) < max 0 (min (-1 + (n : Int)) n) then (max 0 (min (-1 + (n : Int)) n) - 0 + 1 - 1) / 1 else 0)).toNat = n - 1 := by
    split <;> omega
  rw [e]
  conv => rhs; rw [← List.map_id (List.range (n - 1))]
  exact List.map_congr_left fun k _ => by simp
theorem ind_last (n : Nat) : strSliceIndices (some (-1)) none 1 n = (List.range (min n 1)).map fun k => n - 1 + k := by
  unfold strSliceIndices sliceRange
  simp only [show ((1 : Int) > 0) = True from by simp, if_true, show ((-1 : Int) < 0) = True from by simp]
  have e : ((if max 0 (min (-1 + (n : Int)) n) < (n : Int) then ((n : Int) - max 0 (min (-1 + (n : Int)) n) + 1 - 1) / 1 else 0)).toNat = min n 1 := by
    split <;> omega
  rw [e]
  exact List.map_congr_left fun k _ => by omega

theorem pick_range (l : List Nat) (k : Nat) (hk : k ≤ l.length) : (List.range k).filterMap (l[·]?) = l.take k := by
  have := StrLaws.picks l k 0 (by omega)
  simpa using this

theorem last_pick (l : List Nat) : (l.drop (l.length - 1)).take (min l.length 1) = l.getLast?.toList := by
  induction l using snoc_ind with
  | h0 => rfl
  | h1 l c _ => simp

section
variable {prog : Program} {w : World} {A : Around} {s : Shared} {X : Cx} {Q : Value → Shared → Prop} {E : Value → Shared → Prop} {g : Stat} {mu : Mut} {L : Addr} {m : Loc} {env : Env}

theorem made_val {x : Str} {t : Tok} {l : List Nat} {c : Bool} {Q : Value → Shared → Prop} (hX : X.Ok) (S : St X g mu L m s) (hc : c = true → l = x.cps.toList) (hz : l.length ≤ 16777216)
    (h : ∀ t s', St X g mu L m s' → Q (.str (txt l) t) s') : (if c = true then Made.val (.str x t) else Made.str ⟨l.toArray⟩).post Q s := by
  split
  · rename_i hcc
    have := hc hcc
    subst this
    have h' := h t s S
    rw [txt_of] at h'
    exact h'
  · refine ⟨?_, h _ _ (S.toks hX)⟩
    rw [sizeLine_eq]
    simp [Str.length]; omega

/-- x[:-1] -/
theorem e_butlast {value : Expr} {p p1 p2 pos : Pos} {k : Nat} (hX : X.Ok)
    (h : wpAny (model prog w) A (eval value env) (fun o s₁ => ∃ (x : Str) (t : Tok) (g : Stat) (mu : Mut) (L : Addr) (m : Loc), o = .str x t ∧ x.length ≤ 16777216 ∧ St X g mu L m s₁ ∧ (∀ t s', St X g mu L m s' → Q (.str (txt x.cps.toList.dropLast) t) s')) E s)
    (ht : ∀ o r, letTemporaryGo value o r = pure () := by intro _ _; rfl) :
    wpAny (model prog w) A (eval (.Subscript value (.Slice none (some (.UnaryOp .USub (.Constant (.int 1) k p1) p2)) none p) pos) env) Q E s := by
  refine wpAny_Subscript_str_slice (wpAny_mono h (fun o s₁ h₁ => ?_) fun _ _ x => x) ht
  obtain ⟨x, t, g, mu, L, m, rfl, hz, S, h⟩ := h₁
  rw [evalPart_none, evalPart_some]
  refine wpAny_pure (wpAny_UnaryOp (c_int hX S fun tc s₂ S => PySem.P.neg_int ?_))
  refine ⟨x, t, none, some (-1, s₂.toks), rfl, rfl, rfl, ?_⟩
  have hl : x.length = x.cps.toList.length := len_list x
  have e : (slicePicked x none (some (-1, s₂.toks)) none) = List.range (x.length - 1) := ind_butlast _
  unfold sliceMade
  rw [e]
  have e2 : (List.range (x.length - 1)).filterMap (x.cps[·]?) = x.cps.toList.dropLast := by
    have := pick_range x.cps.toList (x.length - 1) (by omega)
    simp only [Array.getElem?_toList] at this
    rw [this, List.dropLast_eq_take, hl]
  rw [e2]
  refine made_val hX (S.push hX) (fun hc => ?_) (by rw [List.length_dropLast]; omega) h
  simp at hc
  have : x.cps.toList.length = 0 := by omega
  rw [List.length_eq_zero_iff] at this
  rw [this]; rfl

/-- x[-1:] -/
theorem e_last {value : Expr} {p p1 p2 pos : Pos} {k : Nat} (hX : X.Ok)
    (h : wpAny (model prog w) A (eval value env) (fun o s₁ => ∃ (x : Str) (t : Tok) (g : Stat) (mu : Mut) (L : Addr) (m : Loc), o = .str x t ∧ x.length ≤ 16777216 ∧ St X g mu L m s₁ ∧ (∀ t s', St X g mu L m s' → Q (.str (txt x.cps.toList.getLast?.toList) t) s')) E s)
    (ht : ∀ o r, letTemporaryGo value o r = pure () := by intro _ _; rfl) :
    wpAny (model prog w) A (eval (.Subscript value (.Slice (some (.UnaryOp .USub (.Constant (.int 1) k p1) p2)) none none p) pos) env) Q E s := by
  refine wpAny_Subscript_str_slice (wpAny_mono h (fun o s₁ h₁ => ?_) fun _ _ x => x) ht
  obtain ⟨x, t, g, mu, L, m, rfl, hz, S, h⟩ := h₁
  rw [evalPart_none, evalPart_some]
  refine wpAny_UnaryOp (c_int hX S fun tc s₂ S => PySem.P.neg_int (wpAny_pure ?_))
  refine ⟨x, t, some (-1, s₂.toks), none, rfl, rfl, rfl, ?_⟩
  have hl : x.length = x.cps.toList.length := len_list x
  have e : (slicePicked x (some (-1, s₂.toks)) none none) = (List.range (min x.length 1)).map fun k => x.length - 1 + k := ind_last _
  unfold sliceMade
  rw [e]
  have e2 : ((List.range (min x.length 1)).map fun k => x.length - 1 + k).filterMap (x.cps[·]?) = x.cps.toList.getLast?.toList := by
    have := StrLaws.picks x.cps.toList (min x.length 1) (x.length - 1) (by omega)
    simp only [Array.getElem?_toList] at this
    rw [this, hl]
    exact last_pick _
  rw [e2]
  refine made_val hX (S.push hX) (fun hc => ?_) (by cases x.cps.toList.getLast? <;> simp) h
  simp only [Bool.and_eq_true, beq_iff_eq, List.length_map, List.length_range] at hc
  have hle : x.cps.toList.length ≤ 1 := by omega
  cases hx : x.cps.toList with
  | nil => rfl
  | cons c r =>
    cases r with
    | nil => rfl
    | cons d r => rw [hx] at hle; simp at hle

/-- x[-1] -/
theorem e_lastc {value : Expr} {p1 p2 pos : Pos} {k : Nat} {l : List Nat} {c : Nat} (hX : X.Ok)
    (h : wpAny (model prog w) A (eval value env) (fun o s₁ => ∃ (x : Str) (t : Tok) (g : Stat) (mu : Mut) (L : Addr) (m : Loc), o = .str x t ∧ x.cps.toList = l ++ [c] ∧ l.length ≤ 16777216 ∧ St X g mu L m s₁ ∧ (∀ t s', St X g mu L m s' → Q (.str (txt [c]) t) s')) E s) :
    wpAny (model prog w) A (eval (.Subscript value (.UnaryOp .USub (.Constant (.int 1) k p1) p2) pos) env) Q E s := by
  refine Subscript_ (wpAny_mono h (fun o s₁ h₁ => ?_) fun _ _ x => x)
  obtain ⟨x, t, g, mu, L, m, rfl, hx, hz, S, h⟩ := h₁
  refine wpAny_UnaryOp (c_int hX S fun tc s₂ S => PySem.P.neg_int ?_)
  refine tail_any (T := "str") (typeIs_str _ _ _) F.slot_str_getitem.lookup (PyProof.Rows.getItem_str (c := c) (by decide) ?_ (h _ _ (S.toks hX))) (by with_unfolding_all rfl)
  have hl : x.length = l.length + 1 := by rw [len_list, hx]; simp
  have : x.cps = (l ++ [c]).toArray := by rw [← hx]
  unfold seqIndex?
  rw [hl, this]
  simp
  rw [if_pos (by omega)]
  have e : (-1 + ((l.length : Int) + 1)).toNat = l.length := by omega
  simp [e]
/-- the first sign of a text -/
theorem e_firstc {value : Expr} {p1 pos : Pos} {k : Nat} {l : List Nat} {c : Nat} (hX : X.Ok)
    (h : wpAny (model prog w) A (eval value env) (fun o s₁ => ∃ (x : Str) (t : Tok) (g : Stat) (mu : Mut) (L : Addr) (m : Loc), o = .str x t ∧ x.cps.toList = c :: l ∧ St X g mu L m s₁ ∧ (∀ t s', St X g mu L m s' → Q (.str (txt [c]) t) s')) E s) :
    wpAny (model prog w) A (eval (.Subscript value (.Constant (.int 0) k p1) pos) env) Q E s := by
  refine Subscript_ (wpAny_mono h (fun o s₁ h₁ => ?_) fun _ _ x => x)
  obtain ⟨x, t, g, mu, L, m, rfl, hx, S, h⟩ := h₁
  refine c_int hX S fun tc s₂ S => ?_
  refine tail_any (T := "str") (typeIs_str _ _ _) F.slot_str_getitem.lookup (PyProof.Rows.getItem_str (c := c) (by decide) ?_ (h _ _ (S.toks hX))) (by with_unfolding_all rfl)
  have hl : x.length = l.length + 1 := by rw [len_list, hx]; simp
  have : x.cps = (c :: l).toArray := by rw [← hx]
  unfold seqIndex?
  rw [hl, this]
  simp
end
end Mine
end
section
open PySem PySem.W PyProof.Rows
set_option autoImplicit false
set_option maxRecDepth 100000
namespace Mine
section
variable {prog : Program} {w : World} {A : Around} {s : Shared} {X : Cx} {env : Env} {Q : Flow → Shared → Prop}

def gopt (g : Stat) (I : Addr) (o : Option Obj) : Stat := fun b => if b = I then o else g b
theorem gopt_self {g : Stat} {I : Addr} {o : Option Obj} : gopt g I o I = o := if_pos rfl
theorem gopt_ne {g : Stat} {I b : Addr} {o : Option Obj} (h : b ≠ I) : gopt g I o b = g b := if_neg h
theorem gopt_le {g : Stat} {I : Addr} {o : Option Obj} (h : g I = none) : gle g (gopt g I o) := fun b ob e => by
  rw [gopt_ne (fun q => by rw [q, h] at e; cases e)]; exact e

/-- what a turn of a for leaves: new statics gN (the iterator I not among them) -/
def ForNext (X : Cx) (L I : Addr) (gI : Stat) (J : Stat → Mut → Loc → Prop) (s : Shared) : Prop :=
  ∃ (g' gN : Stat) (mu' : Mut) (m' : Loc), J gN mu' m' ∧ gle gN g' ∧ gle gI g' ∧ gN I = none ∧ mu' I = none ∧ St X g' mu' L m' s

theorem for_st {x : Str} {px pos : Pos} {iter : Expr} {body : List Stmt} (hX : X.Ok) (ht : 1 ≤ s.toks)
    (h : wpAny (model prog w) A (eval iter env) (fun xv s₁ => wpAny (model prog w) A (pyIter xv) (fun it s₂ =>
      ∃ I fp n P Sw, it = .ref I ∧ Walks prog w A I fp [I] n P Sw ∧ Sw 0 s₂.heap ∧ X.n ≤ I ∧
        ∃ (J : Nat → Stat → Mut → Loc → Prop) (g₀ g : Stat) (mu : Mut) (m : Loc), (∀ i g mu m, J i g mu m → gle g₀ g) ∧ (∀ b ∈ fp, b = I ∨ (g₀ b).isSome) ∧ J 0 g mu m ∧ St X g mu env.locals m s₂ ∧ g I = none ∧ mu I = none ∧ I ≠ env.locals ∧
        (∀ i v g mu m gI s₃, i < n → J i g mu m → P i v → g I = none → mu I = none → gle g gI → (∀ b o, gI b = some o → b = I ∨ g b = some o) → 1 ≤ s₃.toks → St X gI mu env.locals (upd m x v) s₃ →
          wpAny (model prog w) A (execs body env) (fun f s₄ => match f with
            | .next | .cont => ForNext X env.locals I gI (J (i + 1)) s₄
            | .brk => Q .next s₄
            | .ret v => Q (.ret v) s₄) noE s₃) ∧
        (∀ g mu m s, J n g mu m → St X g mu env.locals m s → 1 ≤ s.toks → Q .next s)) noE s₁) noE s)
    (hk : env.scope.kind = .function := by rfl) (hl : env.kindOf x = some .local := by rfl)
    (hs : ∀ x, foldedSetIterable iter env x = pure x := by intro _; rfl) :
    wpAny (model prog w) A (exec (.For (.Name x px) iter body [] pos) env) Q noE s := by
  refine for_ (wpAny_mono (wpAny_toks_of ht h) (fun xv s₁ h₁ => wpAny_mono (wpAny_toks_of h₁.1 h₁.2) (fun it s₂ h₂ => ?_) fun _ _ x => x.2) fun _ _ x => x.2) hs
  obtain ⟨htk, h₂⟩ := h₂
  obtain ⟨I, fp, n, P, Sw, rfl, W, hS0, hIn, J, g₀, g, mu, m, hJg, hfp, hJ0, St0, hgI, hmI, hIL, turn, fin⟩ := h₂
  -- the state with the iterator turned
  have step : ∀ {g : Stat} {mu : Mut} {m : Loc} {s : Shared} {h' : Heap} {tk : Nat}, St X g mu env.locals m s → g I = none → mu I = none → (∀ b o, b ∉ [I] → s.heap.get? b = some o → h'.get? b = some o) →
      St X (gopt g I (h'.get? I)) mu env.locals m { s with heap := h', toks := tk } := by
    intro g mu m s h' tk S hg hm hk
    have S1 : St X g mu env.locals m { s with heap := h', toks := tk } := S.mono hX (fun b o hb e => hk b o (fun hm' => by
      rw [List.mem_singleton] at hm'
      subst b
      rcases hb with hb | hb | hb | hb
      · omega
      · rw [hg] at hb; cases hb
      · rw [hm] at hb; cases hb
      · exact hIL hb) e) rfl S.inv.gens
    refine ⟨S1.inv, S1.ns, S1.low, fun b o e => ?_, fun b o e => ?_, ?_, fun a xs e => ?_⟩
    · unfold gopt at e; split at e
      · subst b; exact e
      · exact S1.keep b o e
    · unfold gopt at e; split at e
      · subst b; exact hIn
      · exact S1.gnew b o e
    · rw [gopt_ne (Ne.symm hIL)]; exact S1.gout
    · have q := S1.mus a xs e
      refine ⟨q.1, q.2.1, q.2.2.1, ?_⟩
      rw [gopt_ne (fun h => by rw [h, hm] at e; cases e)]
      exact q.2.2.2
  refine ⟨I, fp, [I], n, P, Sw, rfl, W, fun i s => 1 ≤ s.toks ∧ ∃ g mu m, J i g mu m ∧ St X g mu env.locals m s ∧ g I = none ∧ mu I = none, ⟨⟨htk, g, mu, m, hJ0, St0, hgI, hmI⟩, hS0⟩, ?_, ?_⟩
  · rintro i s₃ v h' tk hi ⟨ht, g, mu, m, hJ, S, hg, hm⟩ hSi hP hS' hk' htk'
    have S1 := step (tk := tk) S hg hm hk'
    refine wpAny_with_toks (n := 1) (by show 1 ≤ tk; omega) (st_store hX S1 (fun s₄ S₄ ht₄ => ?_) hk hl)
    have hgg : gle g (gopt g I (h'.get? I)) := gopt_le hg
    have body := turn i v g mu m _ s₄ hi hJ hP hg hm hgg (fun b o e => by unfold gopt at e; split at e; exact .inl (by assumption); exact .inr e) ht₄ S₄
    refine wpAny_with_toks (n := 1) ht₄ (wpAny_mono body (fun f s₅ h₅ ht₅ => ?_) fun _ _ x => x.elim)
    have next : ForNext X env.locals I (gopt g I (h'.get? I)) (J (i + 1)) s₅ → (1 ≤ s₅.toks ∧ ∃ g mu m, J (i + 1) g mu m ∧ St X g mu env.locals m s₅ ∧ g I = none ∧ mu I = none) ∧ Sw (i + 1) s₅.heap := by
      rintro ⟨g', gN, mu', m', hJ', h1, h2, h3, h4, S₅⟩
      refine ⟨⟨ht₅, gN, mu', m', hJ', S₅.weak h1, h3, h4⟩, W.frame _ _ _ hS' fun b hb o e => ?_⟩
      rcases hfp b hb with rfl | hb'
      · exact S₅.keep b o (h2 b o (gopt_self.trans e))
      · obtain ⟨o', ho'⟩ := Option.isSome_iff_exists.mp hb'
        have e1 : h'.get? b = some o' := S1.keep b o' (hgg b o' (hJg i g mu m hJ b o' ho'))
        rw [e] at e1; cases e1
        exact S₅.keep b _ (h2 b _ (hgg b _ (hJg i g mu m hJ b _ ho')))
    cases f with
    | next => exact next h₅
    | cont => exact next h₅
    | brk => exact h₅
    | ret v => exact h₅
  · rintro s₃ h' tk ⟨ht, g, mu, m, hJ, S, hg, hm⟩ hSn hk' htk'
    have S1 := step (tk := tk) S hg hm hk'
    exact fin g mu m _ hJ (S1.weak (gopt_le hg)) (by show 1 ≤ tk; omega)
end
end Mine
end
section
open PySem PySem.W PyProof.Rows
set_option autoImplicit false
set_option maxRecDepth 100000
namespace Mine

def refs (hs : List Addr) : Array Value := (hs.map Value.ref).toArray
theorem refs_get {hs : List Addr} {p : Nat} {x : Addr} (h : hs[p]? = some x) : (refs hs)[p]? = some (.ref x) := by simp [refs, h]
theorem refs_set {hs : List Addr} {p : Nat} {x : Addr} : (refs hs).setIfInBounds p (.ref x) = refs (hs.set p x) := by
  unfold refs
  apply Array.ext'
  simp [List.map_set]
theorem refs_size {hs : List Addr} : (refs hs).size = hs.length := by simp [refs]
theorem set_same {hs : List Addr} {p : Nat} {x : Addr} (h : hs[p]? = some x) : hs.set p x = hs := by
  apply List.ext_getElem?
  intro j
  rw [List.getElem?_set]
  split
  · subst j; split
    · exact h.symm
    · rename_i h1; rw [List.getElem?_eq_none (by omega)] at h; cases h
  · rfl
theorem mem_of_set {hs : List Addr} {p : Nat} {x b : Addr} (h : b ∈ hs.set p x) : b = x ∨ b ∈ hs := by
  rcases List.mem_or_eq_of_mem_set h with h | h
  · exact .inr h
  · exact .inl h
theorem kf_at {key : Addr → Int × Int} {hs : List Addr} {p : Nat} {x : Addr} (h : hs[p]? = some x) : kf key hs p = key x := by
  unfold kf; simp [List.getD_eq_getElem?_getD, h]
def key (tr : Addr → Int × Int × Str) (b : Addr) : Int × Int := ((tr b).1, (tr b).2.1)
structure Rws (X : Cx) (h : Heap) (tr : Addr → Int × Int × Str) (a : Addr) (hs : List Addr) : Prop where
  at_ : ∀ b ∈ hs, X.n ≤ b ∧ b ≠ a ∧ ∃ t1 t2 t3 n, h.get? b = some (lobj #[.int (tr b).1 t1, .int (tr b).2.1 t2, .str (tr b).2.2 t3] n)
  inj : ∀ b ∈ hs, ∀ c ∈ hs, (tr b).1 = (tr c).1 → (tr b).2.1 = (tr c).2.1 → (tr b).2.2 = (tr c).2.2

section
variable {prog : Program} {w : World} {A : Around} {s : Shared} {X : Cx} {Q : Value → Shared → Prop} {E : Value → Shared → Prop} {g : Stat} {mu : Mut} {L : Addr} {m : Loc}

/-- the rows of a heap, seen in a frame that does not change them -/
theorem Rws.lt {tr : Addr → Int × Int × Str} {a : Addr} {hs : List Addr} {h₀ : Heap} (R : Rws X h₀ tr a hs) (S : St X g mu L m s) (hg : gle (hid X (mone a (refs hs)) h₀) g) {b c : Addr} (hb : b ∈ hs) (hc : c ∈ hs)
    (hu : A.units < cLine) (h : Q (.bool (decide (klt (key tr b) (key tr c)))) s) : wpAny (model prog w) A (compareOp .Lt (.ref b) (.ref c)) Q E s := by
  obtain ⟨b1, b2, t1, t2, t3, n, eb⟩ := R.at_ b hb
  obtain ⟨c1, c2, u1, u2, u3, k, ec⟩ := R.at_ c hc
  have hb' := S.keep b _ (hg b _ (hid_of b1 (if_neg b2) eb))
  have hc' := S.keep c _ (hg c _ (hid_of c1 (if_neg c2) ec))
  exact lt_rows hb' hc' (R.inj b hb c hc) hu h

set_option maxHeartbeats 1000000
theorem siftdown_ok {a x : Addr} {hs : List Addr} {sp p : Nat} {tr : Addr → Int × Int × Str} {t t' : Tok} (hX : X.Ok) (I : Inv X s) (ha : ∃ n, s.heap.get? a = some (lobj (refs hs) n)) (haX : X.n ≤ a)
    (hR : Rws X s.heap tr a hs) (hp : hs[p]? = some x) (hz : hs.length ≤ 1000) (hD : Desc sp p) (hH : Hole hs.length sp p (kf (key tr) hs)) (hx : ∀ j, 0 < j → j < hs.length → (j - 1) / 2 = p → kle (key tr x) (kf (key tr) hs j))
    (hd : A.depth < recursionLimit) (hu : A.units + 10 < cLine) :
    codeAny (model prog w) A (.call (.ref (X.fa 6)) ⟨[.ref a, .int sp t, .int p t'], []⟩) (fun r s' => ∃ hs' : List Addr, r = .ok (.ret .none) ∧ hs'.Perm hs ∧ HeapFrom hs.length sp (kf (key tr) hs') ∧
      (∃ n, s'.heap.get? a = some (lobj (refs hs') n)) ∧ Kept X (· = a) s s') s := by
  refine call_fn hX I (by decide) (mone a (refs hs)) (fun b xs e => ?_) hd (binds := [("heap", .ref a), ("startpos", .int sp t), ("pos", .int p t')]) (fun _ _ _ => rfl) (locs rfl) (fun s₁ S => ?_) rfl rfl rfl (by decide)
  · unfold mone at e; split at e
    · cases e; subst b; exact ⟨ha, haX⟩
    · cases e
  have hpl : p < hs.length := (List.getElem?_eq_some_iff.mp hp).1
  obtain ⟨m0, ⟨k1, k2, k3⟩, S⟩ : ∃ m0 : Loc, (m0 "heap" = some (.ref a) ∧ m0 "startpos" = some (.int sp t) ∧ m0 "pos" = some (.int p t')) ∧ St X (hid X (mone a (refs hs)) s.heap) (mone a (refs hs)) s.heap.objs.size m0 s₁ := ⟨_, ⟨rfl, rfl, rfl⟩, S⟩
  refine wpAny_execs_cons (wpAny_Assign_Name (Subscript_ (st_name S k1 (st_name S k3 (item_listR (S.isM mone_self) (by omega) (by omega) (refs_get hp) ?_)))))
  refine st_store hX S fun s₂ S₂ => ?_
  refine wpAny_execs_cons (while_ (fun q s' => ∃ (ks : List Addr) (m : Loc) (tp : Tok), ks.length = hs.length ∧ q < hs.length ∧ (ks.set q x).Perm hs ∧ (∀ b ∈ ks, b ∈ hs) ∧ Desc sp q ∧
    Hole hs.length sp q (kf (key tr) ks) ∧ (∀ j, 0 < j → j < hs.length → (j - 1) / 2 = q → kle (key tr x) (kf (key tr) ks j)) ∧
    (m "heap" = some (.ref a) ∧ m "startpos" = some (.int sp t) ∧ m "pos" = some (.int q tp) ∧ m "newitem" = some (.ref x)) ∧ St X (hid X (mone a (refs hs)) s.heap) (mone a (refs ks)) s.heap.objs.size m s') ?turn p
    ⟨hs, _, t', rfl, hpl, ?perm, fun _ h => h, hD, hH, hx, ⟨upd_of (by decide) k1, upd_of (by decide) k2, upd_of (by decide) k3, upd_same⟩, S₂⟩)
  case perm => rw [set_same hp]
  rintro q s' ⟨ks, m, tp, hlen, hq, hperm, hmem, hDq, hHq, hxq, ⟨m1, m2, m3, m4⟩, S⟩
  have hxm : x ∈ hs := List.mem_of_getElem? hp
  refine wpAny_isTrue_Compare1 (st_name S m3 (st_name S m2 (PyProof.Rows.gt_int (wpAny_truthy_bool ?_))))
  by_cases hlt : (sp : Int) < q
  · rw [if_pos (decide_eq_true hlt)]
    refine wpAny_execs_cons (wpAny_Assign_Name (wpAny_BinOp (wpAny_BinOp (st_name S m3 (c_int hX S fun _ _ S => b_sub hX S fun _ _ S => c_int hX S fun _ _ S => b_shr hX S (by decide) fun tq _ S => st_store hX S fun s₃ S₃ => ?_)))))
    have hpar : ((q : Int) - 1).fdiv (2 ^ (1 : Int).toNat) = (((q - 1) / 2 : Nat) : Int) := by
      rw [Int.fdiv_eq_ediv_of_nonneg _ (by decide)]
      show ((q : Int) - 1) / 2 = _
      omega
    rw [hpar] at S₃
    have hql : (q - 1) / 2 < ks.length := by omega
    obtain ⟨y, hy⟩ : ∃ y, ks[(q - 1) / 2]? = some y := ⟨_, List.getElem?_eq_getElem hql⟩
    refine wpAny_execs_cons (wpAny_Assign_Name (Subscript_ (st_name S₃ (upd_of (by decide) m1) (st_name S₃ upd_same (item_listR (S₃.isM mone_self) (by omega) (by omega) (refs_get hy) ?_)))))
    refine st_store hX S₃ fun s₄ S₄ => ?_
    have hym : y ∈ hs := hmem y (List.mem_of_getElem? hy)
    refine wpAny_execs_cons (wpAny_If (wpAny_isTrue_Compare1 (st_name S₄ (upd_of (by decide) (upd_of (by decide) m4)) (st_name S₄ upd_same (hR.lt S₄ gle.refl hxm hym ?_ (wpAny_truthy_bool ?_))))))
    · simp only [Around.deeper_units]; omega
    by_cases hk : klt (key tr x) (key tr y)
    · rw [if_pos (decide_eq_true hk)]
      refine wpAny_execs_cons (wpAny_Assign_Subscript (st_name S₄ upd_same (st_name S₄ (upd_of (by decide) (upd_of (by decide) m1)) (st_name S₄ (upd_of (by decide) (upd_of (by decide) m3))
        (st_setItem hX S₄ mone_self (by omega) (by rw [refs_size]; omega) (by omega) fun s₅ S₅ => ?_)))))
      rw [madd_mone, Int.toNat_natCast, refs_set] at S₅
      refine wpAny_execs_cons (wpAny_Assign_Name (st_name S₅ (upd_of (by decide) upd_same) ?_))
      refine st_store hX S₅ fun s₆ S₆ => ?_
      refine wpAny_execs_cons (wpAny_Continue ?_)
      have hne : q ≠ sp := by omega
      have hup := hHq.up hxq hDq hne hq (by rw [kf_at hy]; exact hk)
      rw [kf_at hy, ← kf_set (by omega)] at hup
      refine ⟨(q - 1) / 2, by omega, ks.set q y, _, _, by rw [List.length_set]; exact hlen, by omega, ?_, fun b hb => ?_, (hDq.up hne).2, hup.1, hup.2, ⟨upd_of (by decide) (upd_of (by decide) (upd_of (by decide) m1)), upd_of (by decide) (upd_of (by decide) (upd_of (by decide) m2)), upd_same, upd_of (by decide) (upd_of (by decide) (upd_of (by decide) m4))⟩, S₆⟩
      · exact (perm_swap (by omega) hy (by omega)).trans hperm
      · rcases mem_of_set hb with rfl | hb
        · exact hym
        · exact hmem b hb
    · rw [if_neg (by simpa using hk)]
      refine wpAny_execs_nil ?_
      refine wpAny_execs_cons (wpAny_Break ?_)
      refine wpAny_execs_cons (wpAny_Assign_Subscript (st_name S₄ (upd_of (by decide) (upd_of (by decide) m4)) (st_name S₄ (upd_of (by decide) (upd_of (by decide) m1)) (st_name S₄ (upd_of (by decide) (upd_of (by decide) m3)) (st_setItem hX S₄ mone_self (by omega) (by rw [refs_size]; omega) (by omega) fun s₅ S₅ => ?_)))))
      rw [madd_mone, Int.toNat_natCast, refs_set] at S₅
      refine wpAny_execs_nil ?_
      obtain ⟨⟨n, e⟩, _⟩ := S₅.mus a _ mone_self
      refine ⟨_, rfl, hperm, ?_, ⟨n, e⟩, (S₅.kept gle.refl).mono fun b hb => ?_⟩
      · rw [kf_set (by omega)]; exact hHq.fill hxq (.inr (by rw [kf_at hy]; exact hk))
      · by_cases h : b = a
        · exact h
        · rw [show mone a (refs hs) b = none from if_neg h] at hb; cases hb
  · rw [if_neg (by simpa using hlt)]
    have hend : q = sp := by have := hDq.le; omega
    refine wpAny_execs_cons (wpAny_Assign_Subscript (st_name S m4 (st_name S m1 (st_name S m3 (st_setItem hX S mone_self (by omega) (by rw [refs_size]; omega) (by omega) fun s₅ S₅ => ?_)))))
    rw [madd_mone, Int.toNat_natCast, refs_set] at S₅
    refine wpAny_execs_nil ?_
    obtain ⟨⟨n, e⟩, _⟩ := S₅.mus a _ mone_self
    refine ⟨_, rfl, hperm, ?_, ⟨n, e⟩, (S₅.kept gle.refl).mono fun b hb => ?_⟩
    · rw [kf_set (by omega)]; exact hHq.fill hxq (.inl hend)
    · by_cases h : b = a
      · exact h
      · rw [show mone a (refs hs) b = none from if_neg h] at hb; cases hb
end
end Mine
end
section
open PySem PySem.W PyProof.Rows
set_option autoImplicit false
set_option maxRecDepth 100000
namespace Mine
section
variable {prog : Program} {w : World} {A : Around} {s : Shared} {X : Cx} {Q : Value → Shared → Prop} {E : Value → Shared → Prop} {g : Stat} {mu : Mut} {L : Addr} {m : Loc}

theorem mone_only {a b : Addr} {xs : Array Value} (hb : (mone a xs b).isSome = true) : b = a := by
  by_cases h : b = a
  · exact h
  · rw [show mone a xs b = none from if_neg h] at hb; cases hb
theorem mone_ok {a : Addr} {xs : Array Value} (ha : ∃ n, s.heap.get? a = some (lobj xs n)) (haX : X.n ≤ a) : ∀ b ys, mone a xs b = some ys → (∃ n, s.heap.get? b = some (lobj ys n)) ∧ X.n ≤ b := fun b ys e => by
  unfold mone at e; split at e
  · cases e; subst b; exact ⟨ha, haX⟩
  · cases e
theorem Rws.sub {tr : Addr → Int × Int × Str} {a : Addr} {hs ks : List Addr} {h : Heap} (R : Rws X h tr a hs) (hm : ∀ b ∈ ks, b ∈ hs) : Rws X h tr a ks := ⟨fun b hb => R.at_ b (hm b hb), fun b hb c hc => R.inj b (hm b hb) c (hm c hc)⟩
/-- the rows are still there behind what has been kept -/
theorem Rws.kept {tr : Addr → Int × Int × Str} {a : Addr} {hs : List Addr} {s' : Shared} (R : Rws X s.heap tr a hs) (k : ∀ b o, X.n ≤ b → b ≠ a → s.heap.get? b = some o → s'.heap.get? b = some o) : Rws X s'.heap tr a hs :=
  ⟨fun b hb => by obtain ⟨h1, h2, t1, t2, t3, n, e⟩ := R.at_ b hb; exact ⟨h1, h2, t1, t2, t3, n, k b _ h1 h2 e⟩, R.inj⟩
theorem Rws.st {tr : Addr → Int × Int × Str} {a : Addr} {hs ks : List Addr} {h : Heap} (R : Rws X h tr a hs) (S : St X g mu L m s) (hg : gle (hid X (mone a (refs ks)) h) g) : Rws X s.heap tr a hs :=
  ⟨fun b hb => by obtain ⟨h1, h2, t1, t2, t3, n, e⟩ := R.at_ b hb; exact ⟨h1, h2, t1, t2, t3, n, S.keep b _ (hg b _ (hid_of h1 (if_neg h2) e))⟩, R.inj⟩

set_option maxHeartbeats 1000000
theorem siftup_ok {a x : Addr} {hs : List Addr} {p : Nat} {tr : Addr → Int × Int × Str} {t : Tok} (hX : X.Ok) (I : Inv X s) (ha : ∃ n, s.heap.get? a = some (lobj (refs hs) n)) (haX : X.n ≤ a)
    (hR : Rws X s.heap tr a hs) (hp : hs[p]? = some x) (hz : hs.length ≤ 1000) (hH : HeapFrom hs.length (p + 1) (kf (key tr) hs)) (hd : A.depth + 10 < recursionLimit) (hu : A.units + 30 < cLine) :
    codeAny (model prog w) A (.call (.ref (X.fa 7)) ⟨[.ref a, .int p t], []⟩) (fun r s' => ∃ hs' : List Addr, r = .ok (.ret .none) ∧ hs'.Perm hs ∧ HeapFrom hs.length p (kf (key tr) hs') ∧
      (∃ n, s'.heap.get? a = some (lobj (refs hs') n)) ∧ Kept X (· = a) s s') s := by
  refine call_fn hX I (by decide) (mone a (refs hs)) (mone_ok ha haX) (by omega) (binds := [("heap", .ref a), ("pos", .int p t)]) (fun _ _ _ => rfl) (locs rfl) (fun s₁ S => ?_) rfl rfl rfl (by decide)
  have hpl : p < hs.length := (List.getElem?_eq_some_iff.mp hp).1
  obtain ⟨m0, ⟨k1, k2⟩, S⟩ : ∃ m0 : Loc, (m0 "heap" = some (.ref a) ∧ m0 "pos" = some (.int p t)) ∧ St X (hid X (mone a (refs hs)) s.heap) (mone a (refs hs)) s.heap.objs.size m0 s₁ := ⟨_, ⟨rfl, rfl⟩, S⟩
  refine wpAny_execs_cons (wpAny_Assign_Name (e_len hX S.inv (st_name S k1 (len_mut hX S mone_self (by rw [refs_size]; omega) fun te s₂ S => st_store hX S fun s₃ S => ?_))))
  rw [refs_size] at S
  refine wpAny_execs_cons (wpAny_Assign_Name (st_name S (upd_of (by decide) k2) (st_store hX S fun s₄ S => ?_)))
  refine wpAny_execs_cons (wpAny_Assign_Name (Subscript_ (st_name S (upd_of (by decide) (upd_of (by decide) k1)) (st_name S (upd_of (by decide) (upd_of (by decide) k2)) (i_mut S mone_self (by omega) (by omega) (refs_get hp) (st_store hX S fun s₅ S => ?_))))))
  refine wpAny_execs_cons (wpAny_Assign_Name (wpAny_BinOp (wpAny_BinOp (c_int hX S fun _ _ S => st_name S (upd_of (by decide) (upd_of (by decide) (upd_of (by decide) k2))) (b_mul hX S (mul_ok (by decide) (by decide)) fun _ _ S => c_int hX S fun _ _ S => b_add hX S fun tc _ S => st_store hX S fun s₆ S => ?_)))))
  refine wpAny_execs_cons (while_ (fun k s' => ∃ (q : Nat) (ks : List Addr) (m : Loc) (tp tc : Tok), k = hs.length - q ∧ ks.length = hs.length ∧ q < hs.length ∧ (ks.set q x).Perm hs ∧ (∀ b ∈ ks, b ∈ hs) ∧ Desc p q ∧ Hole hs.length p q (kf (key tr) ks) ∧
    (m "heap" = some (.ref a) ∧ m "startpos" = some (.int p t) ∧ m "pos" = some (.int q tp) ∧ m "newitem" = some (.ref x) ∧ m "endpos" = some (.int (hs.length : Nat) te) ∧ m "childpos" = some (.int (2 * (q : Int) + 1) tc)) ∧
    St X (hid X (mone a (refs hs)) s.heap) (mone a (refs ks)) s.heap.objs.size m s') ?turn (hs.length - p)
    ⟨p, hs, _, t, tc, rfl, rfl, hpl, by rw [set_same hp], fun _ h => h, .refl, .start hH, ⟨upd_of (by decide) (upd_of (by decide) (upd_of (by decide) (upd_of (by decide) k1))), upd_of (by decide) (upd_of (by decide) upd_same),
      upd_of (by decide) (upd_of (by decide) (upd_of (by decide) (upd_of (by decide) k2))), upd_of (by decide) upd_same, upd_of (by decide) (upd_of (by decide) (upd_of (by decide) upd_same)), upd_same⟩, S⟩)
  rintro k s' ⟨q, ks, m, tp, tc, rfl, hlen, hq, hperm, hmem, hDq, hHq, ⟨m1, m2, m3, m4, m5, m6⟩, S⟩
  refine wpAny_isTrue_Compare1 (st_name S m6 (st_name S m5 (PyProof.Rows.lt_int (wpAny_truthy_bool ?_))))
  by_cases hlt : 2 * (q : Int) + 1 < (hs.length : Nat)
  · rw [if_pos (decide_eq_true hlt)]
    refine wpAny_execs_cons (wpAny_Assign_Name (wpAny_BinOp (st_name S m6 (c_int hX S fun _ _ S => b_add hX S fun tr' _ S => st_store hX S fun s₃ S => ?_))))
    obtain ⟨y, hy⟩ : ∃ y, ks[2 * q + 1]? = some y := ⟨_, List.getElem?_eq_getElem (by omega)⟩
    have hqn : (2 * (q : Int) + 1).toNat = 2 * q + 1 := by omega
    have hym : y ∈ hs := hmem y (List.mem_of_getElem? hy)
    refine seq_ (fun s' => ∃ (c : Nat) (z : Addr) (m' : Loc) (tz : Tok), (c = 2 * q + 1 ∨ c = 2 * q + 2) ∧ ks[c]? = some z ∧ (∀ j, 0 < j → j < hs.length → (j - 1) / 2 = q → kle (key tr z) (kf (key tr) ks j)) ∧
      (m' "heap" = some (.ref a) ∧ m' "startpos" = some (.int p t) ∧ m' "pos" = some (.int q tp) ∧ m' "newitem" = some (.ref x) ∧ m' "endpos" = some (.int (hs.length : Nat) te) ∧ m' "childpos" = some (.int (c : Int) tz)) ∧
      St X (hid X (mone a (refs hs)) s.heap) (mone a (refs ks)) s.heap.objs.size m' s') ?_ ?_
    · refine wpAny_If (isTrue_and (wpAny_isTrue_Compare1 (st_name S upd_same (st_name S (upd_of (by decide) m5) (PyProof.Rows.lt_int (wpAny_truthy_bool ?_))))))
      by_cases hr : 2 * (q : Int) + 1 + 1 < (hs.length : Nat)
      · rw [if_pos (decide_eq_true hr)]
        obtain ⟨z, hz'⟩ : ∃ z, ks[2 * q + 2]? = some z := ⟨_, List.getElem?_eq_getElem (by omega)⟩
        have hqz : (2 * (q : Int) + 1 + 1).toNat = 2 * q + 2 := by omega
        have hzm : z ∈ hs := hmem z (List.mem_of_getElem? hz')
        refine isTrue_and (isTrue_not (wpAny_isTrue_Compare1 (Subscript_ (st_name S (upd_of (by decide) m1) (st_name S (upd_of (by decide) m6) (i_mut S mone_self (by omega) (by omega) (refs_get (by rw [hqn]; exact hy))
          (Subscript_ (st_name S (upd_of (by decide) m1) (st_name S upd_same (i_mut S mone_self (by omega) (by omega) (refs_get (by rw [hqz]; exact hz')) (hR.lt S gle.refl hym hzm (by simp only [Around.deeper_units]; omega) (wpAny_truthy_bool ?_))))))))))))
        by_cases hk : klt (key tr y) (key tr z)
        · rw [decide_eq_true hk]
          refine wpAny_execs_nil ⟨rfl, 2 * q + 1, y, _, _, .inl rfl, hy, fun j h1 h2 h3 => ?_, ⟨upd_of (by decide) m1, upd_of (by decide) m2, upd_of (by decide) m3, upd_of (by decide) m4, upd_of (by decide) m5, upd_of (by decide) m6⟩, S⟩
          have : j = 2 * q + 1 ∨ j = 2 * q + 2 := by omega
          rcases this with rfl | rfl
          · rw [kf_at hy]; exact kle_refl _
          · rw [kf_at hz']; exact kle_of_lt hk
        · rw [decide_eq_false hk]
          refine isTrue_and_nil ?_
          refine wpAny_execs_cons (wpAny_Assign_Name (st_name S upd_same (st_store hX S fun s₄ S => wpAny_execs_nil ?_)))
          refine ⟨rfl, 2 * q + 2, z, _, _, .inr rfl, hz', fun j h1 h2 h3 => ?_, ⟨upd_of (by decide) (upd_of (by decide) m1), upd_of (by decide) (upd_of (by decide) m2), upd_of (by decide) (upd_of (by decide) m3), upd_of (by decide) (upd_of (by decide) m4), upd_of (by decide) (upd_of (by decide) m5), upd_same⟩, S⟩
          have : j = 2 * q + 1 ∨ j = 2 * q + 2 := by omega
          rcases this with rfl | rfl
          · rw [kf_at hy]; exact hk
          · rw [kf_at hz']; exact kle_refl _
      · rw [if_neg (by simpa using hr)]
        refine wpAny_execs_nil ⟨rfl, 2 * q + 1, y, _, _, .inl rfl, hy, fun j h1 h2 h3 => ?_, ⟨upd_of (by decide) m1, upd_of (by decide) m2, upd_of (by decide) m3, upd_of (by decide) m4, upd_of (by decide) m5, upd_of (by decide) m6⟩, S⟩
        have : j = 2 * q + 1 := by omega
        subst this
        rw [kf_at hy]; exact kle_refl _
    · rintro s₇ ⟨c, z, m', tz, hc, hz', hmin, ⟨n1, n2, n3, n4, n5, n6⟩, S⟩
      have hcl : c < hs.length := by have := (List.getElem?_eq_some_iff.mp hz').1; omega
      have hzm : z ∈ hs := hmem z (List.mem_of_getElem? hz')
      have hcn : ((c : Nat) : Int).toNat = c := Int.toNat_natCast c
      refine wpAny_execs_cons (wpAny_Assign_Subscript (Subscript_ (st_name S n1 (st_name S n6 (i_mut S mone_self (by omega) (by omega) (refs_get (by rw [hcn]; exact hz')) (st_name S n1 (st_name S n3
        (st_setItem hX S mone_self (by omega) (by rw [refs_size]; omega) (by omega) fun s₈ S => ?_))))))))
      rw [madd_mone, Int.toNat_natCast, refs_set] at S
      refine wpAny_execs_cons (wpAny_Assign_Name (st_name S n6 (st_store hX S fun s₉ S => ?_)))
      refine wpAny_execs_cons (wpAny_Assign_Name (wpAny_BinOp (wpAny_BinOp (c_int hX S fun _ _ S => st_name S upd_same (b_mul hX S (mul_ok (by decide) (by decide)) fun _ _ S => c_int hX S fun _ _ S => b_add hX S fun tc' _ S => st_store hX S fun s₆ S => wpAny_execs_nil ?_)))))
      refine ⟨hs.length - c, by omega, c, ks.set q z, _, _, _, rfl, by rw [List.length_set]; exact hlen, hcl, (perm_swap (by omega) hz' (by omega)).trans hperm, fun b hb => ?_, .step (by omega) ?_, ?_,
        ⟨upd_of (by decide) (upd_of (by decide) n1), upd_of (by decide) (upd_of (by decide) n2), upd_of (by decide) upd_same, upd_of (by decide) (upd_of (by decide) n4), upd_of (by decide) (upd_of (by decide) n5), upd_same⟩, S⟩
      · rcases mem_of_set hb with rfl | hb
        · exact hzm
        · exact hmem b hb
      · have : (c - 1) / 2 = q := by omega
        rw [this]; exact hDq
      · have := hHq.down hDq.le (by omega) hcl (by omega : (c - 1) / 2 = q) (by rw [kf_at hz']; exact hmin)
        rw [kf_at hz', ← kf_set (by omega)] at this
        exact this
  · rw [if_neg (by simpa using hlt)]
    refine wpAny_execs_cons (wpAny_Assign_Subscript (st_name S m4 (st_name S m1 (st_name S m3 (st_setItem hX S mone_self (by omega) (by rw [refs_size]; omega) (by omega) fun s₅ S => ?_)))))
    rw [madd_mone, Int.toNat_natCast, refs_set] at S
    obtain ⟨⟨n, e⟩, e1, e2, e3⟩ := S.mus a _ mone_self
    have hRn : Rws X s₅.heap tr a (ks.set q x) := (hR.st S gle.refl).sub fun b hb => hperm.mem_iff.mp hb
    have hln : (ks.set q x).length = hs.length := by rw [List.length_set]; exact hlen
    refine wpAny_execs_cons (wpAny_Expr (e_fn (i := 6) hX S.inv (by decide) rfl (a_cons (st_name S m1 (a_cons (st_name S m2 (a_cons (st_name S m3 (a_nil ⟨S.inv, ?_⟩)))))))))
    refine codeAny_mono (siftdown_ok (hs := ks.set q x) (x := x) (tr := tr) hX S.inv ⟨n, e⟩ e1 hRn (by rw [List.getElem?_set]; simp; omega) (by omega) hDq ?_ ?_ ?_ ?_) ?_
    · rw [hln, kf_set (by omega)]
      refine ⟨fun j h1 h2 h3 h4 h5 => ?_, fun j h1 h2 h3 h4 => ?_⟩
      · rw [fset_ne h4, fset_ne h5]; exact hHq.a j h1 h2 h3 h4 h5
      · rw [fset_ne (by omega), fset_ne (by omega)]; exact hHq.b j h1 h2 h3 h4
    · intro j h1 h2 h3; omega
    · show A.depth + 1 < _; omega
    · simp only [Around.deeper_units]; omega
    · rintro r s' ⟨hs', rfl, hp', hh', he', hk'⟩
      refine wpAny_execs_nil ?_
      rw [hln] at hh'
      refine ⟨hs', rfl, hp'.trans hperm, hh', he', hk'.1, fun b o hb hd e => hk'.2 b o hb hd ((S.kept gle.refl).2 b o hb (fun h => hd (mone_only h)) e)⟩
end
end Mine
end
section
open PySem PySem.W PyProof.Rows
set_option autoImplicit false
set_option maxRecDepth 100000
namespace Mine
open Builtin.Str

theorem lit_blank : Str.ofString " " = txt [32] := by decide +kernel
theorem lit_empty : Str.ofString "" = txt [] := by decide +kernel
theorem lit_dash : Str.ofString "-" = txt [45] := by decide +kernel
theorem lit_us : Str.ofString "_" = txt [95] := by decide +kernel
theorem lit_unk : Str.ofString "unknown" = txt unk := by decide +kernel
theorem lit_digs : Str.ofString "0123456789" = txt [48, 49, 50, 51, 52, 53, 54, 55, 56, 57] := by decide +kernel
theorem txt_beq (a b : List Nat) : (txt a == txt b) = decide (a = b) := by
  rw [Bool.eq_iff_iff, beq_iff_eq, decide_eq_true_eq]
  exact ⟨fun h => by have := congrArg (fun x : Str => x.cps.toList) h; simpa [txt_list] using this, fun h => h ▸ rfl⟩
theorem txt_len (a : List Nat) : (txt a).length = a.length := by simp [txt, Str.length]
theorem txt_append (a b : List Nat) : txt a ++ txt b = txt (a ++ b) := by
  apply txt_inj
  rw [Str.cps_append, Array.toList_append, txt_list, txt_list, txt_list]

/-- a list of texts: their signs, with what names them -/
def svals (sv : List (List Nat × Tok)) : Array Value := (sv.map fun p => Value.str (txt p.1) p.2).toArray
theorem svals_get {sv : List (List Nat × Tok)} {i : Nat} {p : List Nat × Tok} (h : sv[i]? = some p) : (svals sv)[i]? = some (.str (txt p.1) p.2) := by simp [svals, h]
theorem svals_size {sv : List (List Nat × Tok)} : (svals sv).size = sv.length := by simp [svals]

theorem tell_len (t p : List Nat) (hp : p.length ≤ 31) : (tell t p).length ≤ t.length + 31 := by
  unfold tell
  split
  · simp
  · split
    · simp; omega
    · split <;> simp
theorem foldl_tell_len : ∀ (ps : List (List Nat)) (t : List Nat), (∀ p ∈ ps, p.length ≤ 31) → (ps.foldl tell t).length ≤ t.length + 31 * ps.length
  | [], t, _ => by simp
  | p :: r, t, h => by
    have h1 := tell_len t p (h p List.mem_cons_self)
    have h2 := foldl_tell_len r (tell t p) fun q hq => h q (List.mem_cons_of_mem _ hq)
    rw [List.foldl_cons, List.length_cons]
    omega
theorem leaf_len {ps : List (List Nat)} (h : IsLeaf ps) : ps.length = 5 ∧ ∀ p ∈ ps, p.length ≤ 31 := by
  obtain ⟨a, b, d, c, e, rfl, ha, hb, hc, he, hd, hl⟩ := h
  have hs : ∀ p ∈ signs, p.length ≤ 31 := by decide
  refine ⟨rfl, fun p hp => ?_⟩
  simp at hp
  rcases hp with rfl | rfl | rfl | rfl | rfl
  · exact hs _ ha
  · exact hs _ hb
  · exact hl
  · exact hs _ hc
  · exact hs _ he
theorem wstep_len {t : List Nat} {n : List (List Nat)} (h : IsLeaf n) : (wstep t n).length ≤ t.length + 200 := by
  have hl := leaf_len h
  have h1 : (stripP n).length ≤ 5 := by
    unfold stripP
    rw [List.length_reverse]
    refine Nat.le_trans (List.dropWhile_sublist _).length_le ?_
    rw [List.length_reverse, ← hl.1]
    exact (List.dropWhile_sublist _).length_le
  have h2 : ∀ p ∈ stripP n, p.length ≤ 31 := fun p hp => hl.2 p (stripP_sub hp)
  unfold wstep
  split
  · have := foldl_tell_len ([45] :: stripP n) t (fun p hp => by rcases List.mem_cons.mp hp with rfl | hp; simp; exact h2 p hp)
    simp only [List.length_cons] at this
    omega
  · have := foldl_tell_len (stripP n) t h2
    omega

section
variable {prog : Program} {w : World} {A : Around} {s : Shared} {X : Cx} {Q : Value → Shared → Prop} {E : Value → Shared → Prop} {g : Stat} {mu : Mut} {L : Addr} {m : Loc} {env : Env}

/-- a new list of the call's own, kept as it is -/
theorem newL {xs : Array Value} (hX : X.Ok) (S : St X g mu L m s) (h : ∀ b g' s', gle g g' → g' b = some (lobj xs 0) → g b = none → X.n ≤ b → L < b → mu b = none → St X g' mu L m s' → Q (.ref b) s') {tk : Nat} :
    Q (.ref s.heap.objs.size) { s with heap := s.heap.push (lobj xs 0), toks := tk } :=
  h _ _ _ (gadd_le S.fresh.1) gadd_self S.fresh.1 S.fresh.2.2.2 S.ns.lt S.fresh.2.1 (S.newG hX rfl)

/-- xs[1:], xs[:-1] .. of a static list -/
theorem e_slice {value : Expr} {lower upper : Option Expr} {p pos : Pos} {a : Addr} {xs : Array Value} {n : Nat} {lo hi : Option Int} (hX : X.Ok)
    (h : wpAny (model prog w) A (eval value env) (fun o s₁ => wpAny (model prog w) A (evalPart lower env) (fun vl s₂ => wpAny (model prog w) A (evalPart upper env) (fun vu s₃ =>
      ∃ (g : Stat) (mu : Mut) (L : Addr) (m : Loc), o = .ref a ∧ (g a = some (lobj xs n) ∨ mu a = some xs) ∧ xs.size ≤ 16777216 ∧ IsPart vl lo ∧ IsPart vu hi ∧ St X g mu L m s₃ ∧
        (∀ b g' s', gle g g' → g' b = some (lobj (slicePick xs lo hi none) 0) → g b = none → X.n ≤ b → L < b → mu b = none → St X g' mu L m s' → Q (.ref b) s')) E s₂) E s₁) E s)
    (ht : ∀ o r, letTemporaryGo value o r = pure () := by intro _ _; rfl) :
    wpAny (model prog w) A (eval (.Subscript value (.Slice lower upper none p) pos) env) Q E s := by
  refine wpAny_Subscript_list_slice (wpAny_mono h (fun o s₁ h₁ => wpAny_mono h₁ (fun vl s₂ h₂ => wpAny_mono h₂ (fun vu s₃ h₃ => ?_) fun _ _ x => x) fun _ _ x => x) fun _ _ x => x) ht
  obtain ⟨g, mu, L, m, rfl, hg, hz, h1, h2, S, h⟩ := h₃
  refine ⟨a, xs, lo, hi, rfl, hg.elim S.isG S.isM, by rw [sizeLine_eq]; exact hz, h1, h2, ?_⟩
  have S1 := S.push hX (o := { cls := .type "slice", data := .fields #[vl, vu, .none] }) (tk := s₃.toks)
  have hsz : (s₃.heap.push { cls := .type "slice", data := .fields #[vl, vu, .none] }).objs.size = s₃.heap.objs.size + 1 := Heap.size_push ..
  have := newL hX S1 h (tk := s₃.toks) (xs := slicePick xs lo hi none)
  rw [hsz] at this
  exact this
/-- a list display -/
theorem e_list {elts : List Expr} {pos : Pos} (hX : X.Ok)
    (h : wpAny (model prog w) A (spliced (backTo pos (starEach elts env))) (fun vs s₁ => vs.length ≤ 16777216 ∧ ∃ (g : Stat) (mu : Mut) (L : Addr) (m : Loc), St X g mu L m s₁ ∧
      (∀ b g' s', gle g g' → g' b = some (lobj vs.toArray 0) → g b = none → X.n ≤ b → L < b → mu b = none → St X g' mu L m s' → Q (.ref b) s')) E s) :
    wpAny (model prog w) A (eval (.List elts pos) env) Q E s := by
  refine wpAny_List (wpAny_mono h (fun vs s₁ h₁ => ?_) fun _ _ x => x)
  obtain ⟨hz, g, mu, L, m, S, h⟩ := h₁
  exact ⟨by rw [sizeLine_eq]; exact hz, newL hX S h (tk := s₁.toks)⟩
/-- two lists put together -/
theorem b_addL {a b : Addr} {xs ys : Array Value} {n k : Nat} (hX : X.Ok) (S : St X g mu L m s) (ha : g a = some (lobj xs n)) (hb : g b = some (lobj ys k)) (hz : xs.size + ys.size ≤ 16777216)
    (h : ∀ c g' s', gle g g' → g' c = some (lobj (xs ++ ys) 0) → g c = none → X.n ≤ c → L < c → mu c = none → St X g' mu L m s' → Q (.ref c) s') : wpAny (model prog w) A (binaryOp .Add (.ref a) (.ref b)) Q E s :=
  PySem.P.add_list (n := n) (n2 := k) (S.keep a _ ha) (S.keep b _ hb) (newL hX S h (tk := s.toks)) (by rw [sizeLine_eq]; exact hz)
theorem i_last {a : Addr} {xs : Array Value} {n : Nat} {x : Value} {value slice : Expr} {u : Tok} (S : St X g mu L m s) (ha : g a = some (lobj xs n)) (hne : 0 < xs.size) (hx : xs[xs.size - 1]? = some x) (h : Q x s)
    (hs : subscripted slice false (.ref a) (.int (-1) u) = operate [.ref a, .int (-1) u] (getItem (.ref a) (.int (-1) u)) := by with_unfolding_all rfl) : wpAny (model prog w) A (subscriptTail value slice (.ref a) (.int (-1) u)) Q E s :=
  tail_any (S.isG ha).typeIs slot_list_getitem.lookup (wpAny_getItem_list_neg (S.isG ha) (by decide) (by omega) (by decide) (by
    have e : ((-1 : Int) + (xs.size : Nat)).toNat = xs.size - 1 := by omega
    rw [e]; exact hx) h) hs
theorem i_add {x y : List Nat} {t u : Tok} (hX : X.Ok) (S : St X g mu L m s) (hz : x.length + y.length ≤ 16777216) (h : ∀ t s', St X g mu L m s' → Q (.str (txt (x ++ y)) t) s') : wpAny (model prog w) A (inplaceOp .Add (.str (txt x) t) (.str (txt y) u)) Q E s :=
  PyProof.Rows.iadd_str (fun t' tk => by rw [txt_append]; exact h _ _ (S.toks hX)) (by rw [txt_len, txt_len, sizeLine_eq]; exact hz)
end
end Mine
end
section
open PySem PySem.W PyProof.Rows
set_option autoImplicit false
set_option maxRecDepth 100000
namespace Mine
section
variable {prog : Program} {w : World} {A : Around} {s : Shared} {X : Cx} {env : Env} {Q : Flow → Shared → Prop} {g : Stat} {mu : Mut} {L : Addr} {m : Loc}

theorem St.sz (S : St X g mu L m s) {b : Addr} {o : Obj} (h : g b = some o) : b < s.heap.objs.size := Heap.lt_size (S.keep b o h)
theorem St.szM (S : St X g mu L m s) {b : Addr} {xs : Array Value} (h : mu b = some xs) : b < s.heap.objs.size := let ⟨⟨_, e⟩, _⟩ := S.mus b xs h; Heap.lt_size e
theorem St.app (hX : X.Ok) (S : St X g mu L m s) {a : Addr} {xs : Array Value} {v : Value} {Q : Value → Shared → Prop} {E : Value → Shared → Prop} (ha : mu a = some xs) (hz : xs.size ≤ 1000000)
    (h : ∀ s', St X g (madd mu a (xs.push v)) L m s' → Q .none s') : wpAny (model prog w) A (call (.builtin "list.append") [.ref a, v]) Q E s := by
  obtain ⟨⟨n, e⟩, r⟩ := S.mus a xs ha
  refine wpAny_list_append_plain (items := xs) ⟨n, e⟩ (fun h' hp hs => ?_) (by rw [sizeLine_eq]; omega)
  obtain ⟨n', e'⟩ := hp
  exact h _ (S.mut (tk := s.toks) hX ha ⟨n', e'⟩ hs)

/-- the state with an iterator turned -/
theorem St.turned (hX : X.Ok) {I : Addr} {h' : Heap} {tk : Nat} (S : St X g mu L m s) (hg : g I = none) (hm : mu I = none) (hIL : I ≠ L) (hIn : X.n ≤ I) (hk : ∀ b o, b ∉ [I] → s.heap.get? b = some o → h'.get? b = some o) :
    St X (gopt g I (h'.get? I)) mu L m { s with heap := h', toks := tk } := by
  have S1 : St X g mu L m { s with heap := h', toks := tk } := S.mono hX (fun b o hb e => hk b o (fun hm' => by
    rw [List.mem_singleton] at hm'
    subst b
    rcases hb with hb | hb | hb | hb
    · exact absurd hb (Nat.not_lt.mpr hIn)
    · rw [hg] at hb; cases hb
    · rw [hm] at hb; cases hb
    · exact hIL hb) e) rfl S.inv.gens
  refine ⟨S1.inv, S1.ns, S1.low, fun b o e => ?_, fun b o e => ?_, ?_, fun a xs e => ?_⟩
  · unfold gopt at e; split at e
    · subst b; exact e
    · exact S1.keep b o e
  · unfold gopt at e; split at e
    · subst b; exact hIn
    · exact S1.gnew b o e
  · rw [gopt_ne (Ne.symm hIL)]; exact S1.gout
  · have q := S1.mus a xs e
    refine ⟨q.1, q.2.1, q.2.2.1, ?_⟩
    rw [gopt_ne (fun h => by rw [h, hm] at e; cases e)]
    exact q.2.2.2

/-- y = [elt for x in iter], the comprehension's own frame C, its list D -/
theorem assign_comp {x y : Str} {px py pos spos : Pos} {elt iter : Expr} {scope : Scope} {cl : List (Str × Addr)} (hX : X.Ok) (ht : 1 ≤ s.toks)
    (h : wpAny (model prog w) A (eval iter env) (fun xv s₁ => wpAny (model prog w) A (pyIter xv) (fun it s₂ =>
      ∃ I fp n P Sw, it = .ref I ∧ Walks prog w A I fp [I] n P Sw ∧ Sw 0 s₂.heap ∧ X.n ≤ I ∧ I < s₂.heap.objs.size ∧ n ≤ 1000 ∧
        ∃ (J : Nat → Stat → Array Value → Prop) (g₀ g : Stat) (mu : Mut) (m : Loc), (∀ i g ys, J i g ys → gle g₀ g) ∧ (∀ b ∈ fp, b = I ∨ (g₀ b).isSome) ∧ J 0 g #[] ∧ St X g mu env.locals m s₂ ∧ g I = none ∧ mu I = none ∧ I ≠ env.locals ∧
        (∀ i v g' gI ys muD C mC s₃, i < n → J i g' ys → P i v → gle g' gI → 1 ≤ s₃.toks → St X gI muD C (upd mC x v) s₃ →
          wpAny (model prog w) A (eval elt (compEnvC scope cl C env)) (fun z s₄ => ∃ gN g'' mC', J (i + 1) gN (ys.push z) ∧ gle gN g'' ∧ gle gI g'' ∧ (∀ b o, gN b = some o → g' b = some o ∨ C < b) ∧ St X g'' muD C mC' s₄) noE s₃) ∧
        (∀ D k g' ys s', J n g' ys → ys.size = n → g' D = none → X.n ≤ D → 1 ≤ s'.toks → St X (gadd g' D (lobj ys k)) mu env.locals (upd m y (.ref D)) s' → Q .next s')) noE s₁) noE s)
    (hsw : swapsWith (.ListComp elt [⟨.Name x px, iter, [], 0⟩] scope pos) (some (.Name y py)) spos.line env = pure true)
    (hclos : closureFor scope env = pure cl) (hcell : ∀ z ∈ scope.names, z.2 ≠ .cell) (hkind : scope.kind = .function)
    (hnames : ∀ z ∈ scope.names, z.2 = .local → scope.names.lookup z.1 = some .local) (hx : scope.names.lookup x = some .local)
    (hy : env.kindOf y = some .local) (hk : env.scope.kind = .function)
    (hs : ∀ x, foldedSetIterable iter env x = pure x := by intro _; rfl) :
    wpAny (model prog w) A (exec (.Assign [.Name y py] (.ListComp elt [⟨.Name x px, iter, [], 0⟩] scope pos) spos) env) Q noE s := by
  rw [exec_Assign_Name_used _ _ _ _ hsw]
  refine wpAny_bind (wpAny_standAt (wpAny_bind ?_))
  show wpAny _ A (do let _ ← comprehension (.ListComp elt [⟨.Name x px, iter, [], 0⟩] scope pos) scope env _ (newList []) false (eval iter env) (some (assign (.Name y py) env))) _ _ s
  refine wpAny_bind (wpAny_mono (wpAny_comprehension_free (use := some (assign (.Name y py) env)) (Q := fun _ s' => Q .next s') rfl hs hclos hkind hnames
    (wpAny_mono (wpAny_toks_of ht h) (fun xv s₁ h₁ => wpAny_mono (wpAny_toks_of h₁.1 h₁.2) (fun it s₂ h₂ => ?_) fun _ _ e => e.2) fun _ _ e => e.2)) (fun _ s' hq => wpAny_pure (wpAny_pure hq)) fun _ _ e => e)
  obtain ⟨htk, I, fp, n, P, Sw, rfl, W, hS0, hIn, hIlt, hn, J, g₀, g, mu, m, hJg, hfp, hJ0, S, hgI, hmI, hIL, turn, fin⟩ := h₂
  refine wpAny_newObj_type (wpAny_newFunctionEnv hcell (by intro y hy; simp at hy) (fun h₁ hns₁ hsb₁ => ?_) hkind)
  dsimp only at hns₁ hsb₁ ⊢
  generalize hH2 : s₂.heap.push { cls := .type "list", dict := none, data := .seq ([] : List Value).toArray } = H2 at hns₁ hsb₁ ⊢
  have hC : H2.objs.size = s₂.heap.objs.size + 1 := by rw [← hH2, Heap.size_push]
  have fr := S.fresh
  have hLlt : env.locals < s₂.heap.objs.size := S.ns.lt
  have hDC : s₂.heap.objs.size < H2.objs.size := by rw [hC]; exact Nat.lt_succ_self _
  have hLC : env.locals < H2.objs.size := Nat.lt_trans hLlt hDC
  have hIC : I < H2.objs.size := Nat.lt_trans hIlt hDC
  -- old objects are kept
  have old : ∀ b o, s₂.heap.get? b = some o → h₁.get? b = some o := fun b o e =>
    hsb₁.extBut b o (Nat.ne_of_lt (Nat.lt_trans (Heap.lt_size e) hDC)) (Heap.get?_push_of_some _ (hH2 ▸ Heap.get?_push_of_some _ e))
  have hD0 : h₁.get? s₂.heap.objs.size = some (lobj #[] 0) := hsb₁.extBut _ _ (Nat.ne_of_lt hDC) (Heap.get?_push_of_some _ (hH2 ▸ Heap.get?_push_size _ rfl))
  obtain ⟨oL, esL, epL, hoL, hoLr⟩ := id S.ns
  have hnC : X.n ≤ H2.objs.size := Nat.le_trans fr.2.2.2 (Nat.le_of_lt hDC)
  have gnone : ∀ b, s₂.heap.objs.size ≤ b → g b = none := fun b hb => by
    cases q : g b with
    | none => rfl
    | some o => exact absurd (S.sz q) (Nat.not_lt.mpr hb)
  have muC : mu H2.objs.size = none := by
    cases q : mu H2.objs.size with
    | none => rfl
    | some o => exact absurd (S.szM q) (Nat.not_lt.mpr (Nat.le_of_lt hDC))
  generalize hDe : s₂.heap.objs.size = D at *
  generalize hCe : H2.objs.size = C at *
  have S0 : St X (gopt g env.locals (some oL)) (madd mu D #[]) C (fun x => ([] : List (Str × Value)).reverse.lookup x) { s₂ with heap := h₁, toks := s₂.toks + ([] : List (Str × Value)).length } := by
    refine ⟨S.inv.mono hX (fun b o _ e => old b o e) rfl S.inv.gens (Nat.le_trans hnC (Nat.le_of_lt hns₁.lt)), hns₁, hnC, fun b o e => ?_, fun b o e => ?_, ?_, fun a xs e => ?_⟩
    · unfold gopt at e; split at e
      · subst b; cases e; exact old _ _ hoL
      · exact old _ _ (S.keep b o e)
    · unfold gopt at e; split at e
      · subst b; exact S.low
      · exact S.gnew b o e
    · rw [gopt_ne (Nat.ne_of_gt hLC)]; exact gnone _ (Nat.le_of_lt hDC)
    · unfold madd at e; split at e
      · cases e; subst a
        exact ⟨⟨0, hD0⟩, fr.2.2.2, Nat.ne_of_lt hDC, by rw [gopt_ne (Ne.symm fr.2.2.1)]; exact fr.1⟩
      · obtain ⟨⟨k, e1⟩, e2, e3, e4⟩ := S.mus a xs e
        exact ⟨⟨k, old _ _ e1⟩, e2, (fun h => by rw [h, muC] at e; cases e), by rw [gopt_ne e3]; exact e4⟩
  have hDI : D ≠ I := Nat.ne_of_gt hIlt
  have hCI : C ≠ I := Nat.ne_of_gt hIC
  have hLI : env.locals ≠ I := Ne.symm hIL
  have hkC : (compEnvC scope cl C env).scope.kind = .function := hkind
  have hlC : (compEnvC scope cl C env).kindOf x = some .local := lookup_relabel_local hx
  -- the loop
  have loop : codeAny (model prog w) A (.compLoop (.ListComp elt [⟨.Name x px, iter, [], 0⟩] scope pos) 0 (.ref I) (.ref D) (compEnvC scope cl C env))
      (compPost (model prog w) A noE (some (assign (.Name y py) env)) (fun _ s' => Q .next s') (.ref D) C) { s₂ with heap := h₁, toks := s₂.toks + ([] : List (Str × Value)).length } := by
    refine codeAny_compLoop_tests (fun k s' => ∃ i g' ys mC, i ≤ n ∧ k = n - i ∧ 1 ≤ s'.toks ∧ J i g' ys ∧ ys.size = i ∧ g' env.locals = none ∧ g' I = none ∧ g' C = none ∧ g' D = none ∧
      St X (gopt g' env.locals (some oL)) (madd mu D ys) C mC s' ∧ Sw i s'.heap) ?_ n ⟨0, g, #[], _, Nat.zero_le _, rfl, htk, hJ0, rfl, S.gout, hgI, gnone _ (Nat.le_of_lt hDC), fr.1, S0, W.frame _ _ _ hS0 fun b _ o e => old b o e⟩
    rintro k s₃ ⟨i, g', ys, mC, hi, rfl, ht₃, hJ, hys, hgL, hgI', hgC, hgD, S3, hSi⟩
    have hmuI : (madd mu D ys) I = none := by rw [madd_ne (Ne.symm hDI)]; exact hmI
    have hgoI : (gopt g' env.locals (some oL)) I = none := by rw [gopt_ne hIL]; exact hgI'
    by_cases hlt : i < n
    · refine wpAny_with_toks (Nat.le_refl s₃.toks) (W.item i s₃ _ _ hlt hSi fun v h' tk hP hS' hk' htk' => ?_)
      have S4 := S3.turned hX (tk := tk) hgoI hmuI (Ne.symm hCI) hIn hk'
      refine wpAny_assign_Name (wpAny_with_toks (n := 1) (by show 1 ≤ tk; have : s₃.toks ≤ tk := htk'; omega) (st_store (env := compEnvC scope cl C env) hX S4 (fun s₅ S5 ht₅ => ?_) hkC hlC))
      rw [List.forIn_nil]
      refine wpAny_pure ?_
      rw [if_pos rfl]
      have hle : gle g' (gopt (gopt g' env.locals (some oL)) I (h'.get? I)) := (gopt_le hgL).trans (gopt_le hgoI)
      have hgiL : (gopt (gopt g' env.locals (some oL)) I (h'.get? I)) env.locals = some oL := by rw [gopt_ne hLI, gopt_self]
      refine wpAny_with_toks (n := 1) ht₅ (wpAny_mono (turn i v g' _ ys _ C mC s₅ hlt hJ hP hle ht₅ S5) (fun z s₆ h₆ ht₆ => ?_) fun _ _ x => x.elim)
      obtain ⟨gN, g'', mC', hJ', hN1, hN2, hN3, S6⟩ := h₆
      have hC5 : C < s₅.heap.objs.size := S5.ns.lt
      have hno : ∀ b, b ≤ C → g' b = none → gN b = none := fun b hb hgb => by
        cases q : gN b with
        | none => rfl
        | some o =>
          rcases hN3 b o q with h | h
          · rw [hgb] at h; cases h
          · exact absurd h (Nat.not_lt.mpr hb)
      refine wpAny_with_toks (n := 1) ht₆ (S6.app hX madd_self (by omega) fun s₇ S7 ht₇ => ?_)
      rw [madd_madd] at S7
      refine ⟨n - (i + 1), by omega, i + 1, gN, ys.push z, mC', hlt, rfl, ht₇, hJ', by rw [Array.size_push, hys], hno _ (Nat.le_of_lt hLC) hgL, hno _ (Nat.le_of_lt hIC) hgI', hno _ (Nat.le_refl _) hgC, hno _ (Nat.le_of_lt hDC) hgD,
        S7.weak fun b o e => ?_, W.frame _ _ _ hS' fun b hb o e => ?_⟩
      · unfold gopt at e; split at e
        · subst b; cases e; exact hN2 _ _ hgiL
        · exact hN1 b o e
      · rcases hfp b hb with rfl | hb'
        · exact S7.keep b o (hN2 b o (gopt_self.trans e))
        · obtain ⟨o', ho'⟩ := Option.isSome_iff_exists.mp hb'
          have e1 : h'.get? b = some o' := S4.keep b o' (hle b o' (hJg i g' ys hJ b o' ho'))
          rw [e] at e1; cases e1
          exact S7.keep b _ (hN2 b _ (hle b _ (hJg i g' ys hJ b _ ho')))
    · have hin : i = n := Nat.le_antisymm hi (Nat.not_lt.mp hlt)
      subst hin
      refine wpAny_with_toks (Nat.le_refl s₃.toks) (W.done s₃ _ _ hSi fun h' tk hk' htk' => ?_)
      have S4 := S3.turned hX (tk := tk) hgoI hmuI (Ne.symm hCI) hIn hk'
      show wpAny _ A (assign (.Name y py) env (.ref D)) _ _ _
      have hLo : h'.get? env.locals = some oL := S4.keep _ _ (by rw [gopt_ne hLI, gopt_self])
      refine wpAny_assign_Name (wpAny_storeName_local hy ⟨oL, esL, epL, hLo, hoLr⟩ (fun h₂ hn₂ hs₂ => ?_) (by rw [hk]; rfl))
      refine ⟨_, S4.ns.sameBut hs₂ (Nat.ne_of_gt hLC), fun h₃ hs₃ => ?_⟩
      obtain ⟨⟨kD, eD⟩, _⟩ := S4.mus D ys madd_self
      have up : ∀ b o, b ≠ env.locals → b ≠ C → h'.get? b = some o → h₃.get? b = some o := fun b o h1 h2 e => (hs₃.2 b h2).trans ((hs₂.2 b h1).trans e)
      have hDL : D ≠ env.locals := Ne.symm fr.2.2.1
      have hn₃ := hn₂.sameBut hs₃ (Nat.ne_of_lt hLC)
      refine fin D kD g' ys _ hJ hys hgD fr.2.2.2 (by show 1 ≤ tk + 1; omega) ⟨S4.inv.mono hX (fun b o hb e => up b o (Nat.ne_of_lt (Nat.lt_of_lt_of_le hb S.low)) (Nat.ne_of_lt (Nat.lt_of_lt_of_le hb hnC)) e) rfl S4.inv.gens (Nat.le_trans S.low (Nat.le_of_lt hn₃.lt)), hn₃, S.low, fun b o e => ?_, fun b o e => ?_, ?_, fun a xs e => ?_⟩
      · unfold gadd at e; split at e
        · cases e; subst b; exact up _ _ hDL (Nat.ne_of_lt hDC) eD
        · refine up b o (fun h => by rw [h, hgL] at e; cases e) (fun h => by rw [h, hgC] at e; cases e) (S4.keep b o (((gopt_le hgL).trans (gopt_le hgoI)) b o e))
      · unfold gadd at e; split at e
        · subst b; exact fr.2.2.2
        · exact S4.gnew b o (((gopt_le hgL).trans (gopt_le hgoI)) b o e)
      · unfold gadd; rw [if_neg (Ne.symm hDL)]; exact hgL
      · have hne : a ≠ D := fun h => by rw [h, fr.2.1] at e; cases e
        have hneL : a ≠ env.locals := (S.mus a xs e).2.2.1
        have hneI : a ≠ I := fun h => by rw [h, hmI] at e; cases e
        obtain ⟨⟨k, e1⟩, e2, e3, e4⟩ := S4.mus a xs (by rw [madd_ne hne]; exact e)
        refine ⟨⟨k, up _ _ hneL e3 e1⟩, e2, hneL, ?_⟩
        unfold gadd; rw [if_neg hne]
        rw [gopt_ne hneI, gopt_ne hneL] at e4
        exact e4
  exact codeAny_compStart_list loop (W.self 0 _ _ _ (W.frame _ _ _ hS0 fun b _ o e => old b o e) loop)
end
end Mine
end
section
open PySem PySem.W PyProof.Rows
set_option autoImplicit false
set_option maxRecDepth 100000
namespace Mine

theorem refs_dropLast {hs : List Addr} (h : 0 < hs.length) : (refs hs).eraseIdxIfInBounds ((refs hs).size - 1) = refs hs.dropLast := by
  unfold refs Array.eraseIdxIfInBounds
  rw [dif_pos (by simp; omega)]
  apply Array.ext'
  have : hs.length - 1 = (hs.map Value.ref).length - 1 := by simp
  simp only [Array.toList_eraseIdx, List.map_dropLast, List.size_toArray, List.length_map]
  rw [this, List.eraseIdx_length_sub_one]

section
variable {prog : Program} {w : World} {A : Around} {s : Shared} {X : Cx} {Q : Value → Shared → Prop} {E : Value → Shared → Prop} {g : Stat} {mu : Mut} {L : Addr} {m : Loc} {env : Env}

theorem m_pop {a : Addr} {xs : Array Value} {y : Value} {pos : Pos} (hX : X.Ok) (S : St X g mu L m s) (ha : mu a = some xs) (hy : xs[xs.size - 1]? = some y) (hz : xs.size ≤ 1000000)
    (h : ∀ s', St X g (madd mu a (xs.eraseIdxIfInBounds (xs.size - 1))) L m s' → Q y s') : wpAny (model prog w) A (callWith pos (.builtin "list.pop") [.ref a] (backTo pos (starEach [] env)) []) Q E s := by
  obtain ⟨⟨n, e⟩, r⟩ := S.mus a xs ha
  refine P.pop_list (n := n) (items := xs) e hy (h _ (S.mut hX ha ⟨_, (Heap.get?_update_self _ e (by show (Obj.mapSeq _ (lobj xs n)).isFreed = false; rfl)).trans rfl⟩ (Heap.SameBut.update ..))) (by rw [sizeLine_eq]; omega)

theorem e_pop {o : Expr} {apos pos : Pos} (h : wpAny (model prog w) A (eval o env) (fun ov s₁ => s₁.TypeIs ov "list" ∧ (∀ a, ov = .ref a → ∃ ob, s₁.heap.get? a = some ob ∧ ob.dict = none) ∧
      wpAny (model prog w) A (callWith pos (.builtin "list.pop") [ov] (backTo pos (starEach [] env)) []) Q E s₁) E s)
    (hbase : attributeBase o "pop" env (eval o env) = eval o env := by rfl) (hline : (apos.endLine == pos.line) = true := by rfl) :
    wpAny (model prog w) A (eval (.Call (.Attribute o "pop" apos) [] [] pos) env) Q E s :=
  wpAny_Call_method hbase rfl hline F.plainAttrs_list F.slot_list_pop F.type_list_pop h

theorem St.listM (S : St X g mu L m s) {a : Addr} {xs : Array Value} (h : mu a = some xs) : s.TypeIs (.ref a) "list" ∧ ∀ b, Value.ref a = .ref b → ∃ ob, s.heap.get? b = some ob ∧ ob.dict = none := by
  obtain ⟨⟨n, e⟩, _⟩ := S.mus a xs h
  exact ⟨⟨_, e, rfl⟩, fun b q => by cases q; exact ⟨_, e, rfl⟩⟩

theorem truthy_mut {a : Addr} {xs : Array Value} {Q : Bool → Shared → Prop} (hX : X.Ok) (S : St X g mu L m s) (ha : mu a = some xs) (hz : xs.size ≤ 1000000) (h : ∀ s', St X g mu L m s' → Q (!xs.isEmpty) s') : wpAny (model prog w) A (truthy (.ref a)) Q E s :=
  wpAny_truthy_list (S.isM ha) (by omega) (h _ (S.toks hX))

set_option maxHeartbeats 1000000
theorem heappop_ok {a : Addr} {hs : List Addr} {tr : Addr → Int × Int × Str} (hX : X.Ok) (I : Inv X s) (ha : ∃ n, s.heap.get? a = some (lobj (refs hs) n)) (haX : X.n ≤ a)
    (hR : Rws X s.heap tr a hs) (h2 : 2 ≤ hs.length) (hz : hs.length ≤ 1000) (hH : HeapFrom hs.length 0 (kf (key tr) hs)) (hd : A.depth + 20 < recursionLimit) (hu : A.units + 50 < cLine) :
    codeAny (model prog w) A (.call (.ref (X.fa 3)) ⟨[.ref a], []⟩) (fun r s' => ∃ (x : Addr) (hs' : List Addr), hs[0]? = some x ∧ r = .ok (.ret (.ref x)) ∧ (x :: hs').Perm hs ∧ HeapFrom hs'.length 0 (kf (key tr) hs') ∧
      (∃ n, s'.heap.get? a = some (lobj (refs hs') n)) ∧ Kept X (· = a) s s') s := by
  refine call_fn hX I (by decide) (mone a (refs hs)) (mone_ok ha haX) (by omega) (binds := [("heap", .ref a)]) (fun _ _ _ => rfl) (locs rfl) (fun s₁ S => ?_) rfl rfl rfl (by decide)
  obtain ⟨m0, k1, S⟩ : ∃ m0 : Loc, m0 "heap" = some (.ref a) ∧ St X (hid X (mone a (refs hs)) s.heap) (mone a (refs hs)) s.heap.objs.size m0 s₁ := ⟨_, rfl, S⟩
  obtain ⟨ks, z, rfl⟩ : ∃ ks z, hs = ks ++ [z] := ⟨hs.dropLast, hs.getLast (by intro h; simp [h] at h2), (List.dropLast_concat_getLast _).symm⟩
  obtain ⟨x, ls, rfl⟩ : ∃ x ls, ks = x :: ls := by
    cases ks with
    | nil => simp at h2
    | cons x ls => exact ⟨x, ls, rfl⟩
  have hlast : (refs (x :: ls ++ [z]))[(refs (x :: ls ++ [z])).size - 1]? = some (.ref z) := by
    rw [refs_size]; exact refs_get (by simp)
  refine wpAny_execs_cons (wpAny_Assign_Name (e_pop (st_name S k1 ⟨(S.listM mone_self).1, (S.listM mone_self).2, m_pop hX S mone_self hlast (by rw [refs_size]; omega) fun s₂ S => st_store hX S fun s₃ S => ?_⟩)))
  rw [refs_dropLast (by omega), madd_mone, List.dropLast_concat] at S
  refine wpAny_execs_cons (wpAny_If (isTrue_plain (st_name S (upd_of (by decide) k1) (truthy_mut hX S mone_self (by rw [refs_size]; simp at hz ⊢; omega) fun s₄ S => ?_))))
  have hne : (!(refs (x :: ls)).isEmpty) = true := by simp [refs]
  rw [hne, if_pos rfl]
  refine wpAny_execs_cons (wpAny_Assign_Name (Subscript_ (st_name S (upd_of (by decide) k1) (c_int hX S fun _ _ S => i_mut S mone_self (by decide) (by decide) (refs_get (x := x) rfl) (st_store hX S fun s₅ S => ?_)))))
  refine wpAny_execs_cons (wpAny_Assign_Subscript (st_name S (upd_of (by decide) upd_same) (st_name S (upd_of (by decide) (upd_of (by decide) k1)) (c_int hX S fun _ _ S => st_setItem hX S mone_self (by decide) (by rw [refs_size]; simp) (by decide) fun s₆ S => ?_))))
  rw [madd_mone, refs_set] at S
  obtain ⟨⟨n, e⟩, e1, e2, e3⟩ := S.mus a _ mone_self
  have hsub : ∀ b ∈ (x :: ls).set (Int.toNat 0) z, b ∈ x :: ls ++ [z] := fun b hb => by
    rcases mem_of_set hb with rfl | hb
    · simp
    · exact List.mem_append_left _ hb
  have hln : ((x :: ls).set (Int.toNat 0) z).length = ls.length + 1 := by simp
  refine wpAny_execs_cons (wpAny_Expr (e_fn (i := 7) hX S.inv (by decide) rfl (a_cons (st_name S (upd_of (by decide) (upd_of (by decide) k1)) (a_cons (c_int hX S fun _ _ S' => a_nil ⟨S'.inv, ?_⟩))))))
  refine codeAny_mono (siftup_ok (p := 0) (hs := (x :: ls).set (Int.toNat 0) z) (x := z) (tr := tr) hX S'.inv ?_ e1 (hR.st S' gle.refl |>.sub hsub) rfl (by rw [hln]; simp at hz; omega) ?_ ?_ ?_) ?_
  · obtain ⟨q, _⟩ := S'.mus a _ mone_self; exact q
  · rw [hln]
    intro j h1 h2 h3
    have := hH j h1 (by simp; omega) (Nat.zero_le _)
    rw [kf_set (by simp)]
    rw [fset_ne (by show (j - 1) / 2 ≠ 0; omega), fset_ne (by show j ≠ 0; omega)]
    have ee : ∀ i, i < ls.length + 1 → kf (key tr) (x :: ls ++ [z]) i = kf (key tr) (x :: ls) i := fun i hi => by
      unfold kf; rw [List.getD_eq_getElem?_getD, List.getD_eq_getElem?_getD, List.getElem?_append_left (by simpa using hi)]
    rwa [ee _ (by omega), ee _ h2] at this
  · show A.depth + 1 + 10 < _; omega
  · simp only [Around.deeper_units]; omega
  · rintro r s' ⟨hs', rfl, hp', hh', he', hk'⟩
    have S := S'.after1 mone_self hk' he'
    rw [madd_mone] at S
    refine wpAny_execs_cons (wpAny_Return_some (st_name S upd_same ?_))
    refine ⟨x, hs', rfl, rfl, ?_, ?_, he', (S.kept gle.refl).mono fun b hb => mone_only hb⟩
    · refine (hp'.cons x).trans ?_
      show (x :: z :: ls).Perm (x :: ls ++ [z])
      refine List.Perm.cons x ?_
      exact (List.perm_append_comm (l₁ := [z]) (l₂ := ls))
    · rw [hp'.length_eq]; exact hh'

theorem heapreplace_ok {a y : Addr} {hs : List Addr} {tr : Addr → Int × Int × Str} (hX : X.Ok) (I : Inv X s) (ha : ∃ n, s.heap.get? a = some (lobj (refs hs) n)) (haX : X.n ≤ a)
    (hR : Rws X s.heap tr a (y :: hs)) (h1 : 1 ≤ hs.length) (hz : hs.length ≤ 1000) (hH : HeapFrom hs.length 0 (kf (key tr) hs)) (hd : A.depth + 20 < recursionLimit) (hu : A.units + 50 < cLine) :
    codeAny (model prog w) A (.call (.ref (X.fa 4)) ⟨[.ref a, .ref y], []⟩) (fun r s' => ∃ (x : Addr) (hs' : List Addr), hs[0]? = some x ∧ r = .ok (.ret (.ref x)) ∧ (x :: hs').Perm (y :: hs) ∧ HeapFrom hs'.length 0 (kf (key tr) hs') ∧
      (∃ n, s'.heap.get? a = some (lobj (refs hs') n)) ∧ Kept X (· = a) s s') s := by
  refine call_fn hX I (by decide) (mone a (refs hs)) (mone_ok ha haX) (by omega) (binds := [("heap", .ref a), ("item", .ref y)]) (fun _ _ _ => rfl) (locs rfl) (fun s₁ S => ?_) rfl rfl rfl (by decide)
  obtain ⟨m0, ⟨k1, k2⟩, S⟩ : ∃ m0 : Loc, (m0 "heap" = some (.ref a) ∧ m0 "item" = some (.ref y)) ∧ St X (hid X (mone a (refs hs)) s.heap) (mone a (refs hs)) s.heap.objs.size m0 s₁ := ⟨_, ⟨rfl, rfl⟩, S⟩
  obtain ⟨x, ls, rfl⟩ : ∃ x ls, hs = x :: ls := by
    cases hs with
    | nil => simp at h1
    | cons x ls => exact ⟨x, ls, rfl⟩
  refine wpAny_execs_cons (wpAny_Assign_Name (Subscript_ (st_name S k1 (c_int hX S fun _ _ S => i_mut S mone_self (by decide) (by decide) (refs_get (x := x) rfl) (st_store hX S fun s₅ S => ?_)))))
  refine wpAny_execs_cons (wpAny_Assign_Subscript (st_name S (upd_of (by decide) k2) (st_name S (upd_of (by decide) k1) (c_int hX S fun _ _ S => st_setItem hX S mone_self (by decide) (by rw [refs_size]; simp) (by decide) fun s₆ S => ?_))))
  rw [madd_mone, refs_set] at S
  obtain ⟨⟨n, e⟩, e1, e2, e3⟩ := S.mus a _ mone_self
  have hsub : ∀ b ∈ (x :: ls).set (Int.toNat 0) y, b ∈ y :: x :: ls := fun b hb => by
    rcases mem_of_set hb with rfl | hb
    · simp
    · exact List.mem_cons_of_mem _ hb
  have hln : ((x :: ls).set (Int.toNat 0) y).length = ls.length + 1 := by simp
  refine wpAny_execs_cons (wpAny_Expr (e_fn (i := 7) hX S.inv (by decide) rfl (a_cons (st_name S (upd_of (by decide) k1) (a_cons (c_int hX S fun _ _ S' => a_nil ⟨S'.inv, ?_⟩))))))
  refine codeAny_mono (siftup_ok (p := 0) (hs := (x :: ls).set (Int.toNat 0) y) (x := y) (tr := tr) hX S'.inv ?_ e1 (hR.st S' gle.refl |>.sub hsub) rfl (by rw [hln]; simp at hz; omega) ?_ ?_ ?_) ?_
  · obtain ⟨q, _⟩ := S'.mus a _ mone_self; exact q
  · rw [hln]
    intro j h1 h2 h3
    have := hH j h1 (by simpa using h2) (Nat.zero_le _)
    rw [kf_set (by simp)]
    rw [fset_ne (by show (j - 1) / 2 ≠ 0; omega), fset_ne (by show j ≠ 0; omega)]
    exact this
  · show A.depth + 1 + 10 < _; omega
  · simp only [Around.deeper_units]; omega
  · rintro r s' ⟨hs', rfl, hp', hh', he', hk'⟩
    have S := S'.after1 mone_self hk' he'
    rw [madd_mone] at S
    refine wpAny_execs_cons (wpAny_Return_some (st_name S upd_same ?_))
    refine ⟨x, hs', rfl, rfl, ?_, ?_, he', (S.kept gle.refl).mono fun b hb => mone_only hb⟩
    · refine (hp'.cons x).trans ?_
      show (x :: y :: ls).Perm (y :: x :: ls)
      exact List.Perm.swap ..
    · rw [hp'.length_eq]; exact hh'
end
end Mine
end
section
open PySem PySem.W PyProof.Rows
set_option autoImplicit false
set_option maxRecDepth 100000
namespace Mine
theorem sub_ri_reversed : isSubtype (.type "range_iterator") (.type "reversed") = pure false := by rw [isSubtype_type]; kernel_rfl
section
variable {prog : Program} {w : World} {A : Around} {s : Shared} {X : Cx} {Q : Value → Shared → Prop} {E : Value → Shared → Prop} {g : Stat} {mu : Mut} {L : Addr} {m : Loc} {env : Env}

theorem mone_none {a b : Addr} {xs ys : Array Value} (h : mone a xs b = none) : mone a ys b = none := by
  unfold mone at h ⊢; split at h
  · cases h
  · rename_i hne; rw [if_neg hne]
def riObj (x left step : Int) : Obj := { cls := .type "range_iterator", data := .fields #[rawInt x, rawInt left, rawInt step] }

theorem call_range_rev {r : Addr} {k : Int} {t u v : Tok} (hr : IsRange s.heap r 0 k 1 t u v) (h0 : 0 ≤ k) (hk : k ≤ 1000000)
    (h : Q (.ref s.heap.objs.size) { s with heap := s.heap.push (riObj (k - 1) k (-1)) }) : wpAny (model prog w) A (call (.builtin "range.__reversed__") [.ref r]) Q E s := by
  have hT : s.TypeIs (.ref r) "range" := ⟨_, hr, rfl⟩
  have hsz : Builtin.Range.rangeSize 0 k 1 = k := by unfold Builtin.Range.rangeSize; simp; omega
  refine wpAny_call_entry F.slot_range_reversed hT F.entry_range_reversed ?_ (F.args_range_reversed_1 _)
  unfold Builtin.«range.__reversed__»
  refine wpAny_bind (wpAny_of_eq (a := Value.ref r) rfl ?_)
  unfold Builtin.Range.rangeFields
  refine wpAny_bind (wpAny_bind (wpAny_field hr rfl (x := .int 0 t) rfl ?_))
  refine wpAny_bind (wpAny_of_eq (a := some 0) rfl ?_)
  refine wpAny_bind (wpAny_field hr rfl (x := .int k u) rfl ?_)
  refine wpAny_bind (wpAny_of_eq (a := some k) rfl ?_)
  refine wpAny_bind (wpAny_field hr rfl (x := .int 1 v) rfl ?_)
  refine wpAny_bind (wpAny_of_eq (a := some 1) rfl (wpAny_pure ?_))
  dsimp only
  rw [hsz]
  have hs : (Builtin.Range.rangeFitsLong 0 && Builtin.Range.rangeFitsLong k && Builtin.Range.rangeFitsLong 1 && Builtin.Range.rangeFitsLong (-1) && Builtin.Range.rangeFitsLong (0 - 1) && Builtin.Range.rangeFitsLong k) = true := by
    unfold Builtin.Range.rangeFitsLong; simp; omega
  rw [hs]
  simp only [Bool.not_true, Bool.false_eq_true, if_false, if_true]
  unfold newFields
  have e : (0 : Int) + (k - 1) * 1 = k - 1 := by omega
  rw [e]
  exact wpAny_bind (wpAny_newObj_type (wpAny_pure ⟨_, rfl, h⟩))

theorem call_reversed_range {r : Addr} {k : Int} {t u v : Tok} (hr : IsRange s.heap r 0 k 1 t u v) (h0 : 0 ≤ k) (hk : k ≤ 1000000)
    (h : Q (.ref s.heap.objs.size) { s with heap := s.heap.push (riObj (k - 1) k (-1)) }) : wpAny (model prog w) A (call (.type "reversed") [.ref r]) Q E s := by
  have hT : s.TypeIs (.ref r) "range" := ⟨_, hr, rfl⟩
  refine callType_other (U := "range_iterator") (Q₁ := fun obj s₁ => obj = .ref s.heap.objs.size ∧ s₁ = { s with heap := s.heap.push (riObj (k - 1) k (-1)) }) (by decide +kernel) F.create_reversed ⟨_, _, F.mro_reversed⟩ F.made_reversed sub_ri_reversed (F.typeCall_reversed_1 _) ?_ ?_
  · refine codeAny_of_tree ?_
    show wpAny _ A.in1.in1 (do checkBuiltinCall "reversed.__new__" ⟨[.type "reversed", .ref r], []⟩; again (.builtin "reversed.__new__" ⟨[.type "reversed", .ref r], []⟩)) _ _ s
    refine wpAny_bind (wpAny_of_eq (F.newCall_reversed_1 _) (wpAny_pure ⟨plainId_quiet F.plain_reversed_new _, codeAny_builtin F.entry_reversed_new ?_⟩))
    rw [Around.under_plainId F.plain_reversed_new _]
    unfold Builtin.«reversed.__new__»
    refine wpAny_bind (wpAny_of_eq (newClass_reversed _) ?_)
    refine wpAny_bind (wpAny_of_eq (a := ()) (by first | rfl | kernel_rfl) ?_)
    refine wpAny_bind (wpAny_of_eq (a := ()) (by first | rfl | kernel_rfl) ?_)
    refine wpAny_bind (wpAny_specialOf hT F.slot_range_reversed.lookup ?_)
    refine wpAny_bind (wpAny_of_eq (F.slot_range_reversed.bind _) ?_)
    show wpAny _ _ (if (Value.builtin "range.__reversed__" == Value.none) = true then _ else _) _ _ _
    rw [if_neg (show ¬ ((Value.builtin "range.__reversed__" == Value.none) = true) from Bool.false_ne_true)]
    refine wpAny_bind (wpAny_rule ?_)
    refine wpAny_bind (m := runValue (.call (.builtin "range.__reversed__") ⟨[.ref r], []⟩)) (show wpAny _ _ (call (.builtin "range.__reversed__") [.ref r]) _ _ _ from call_range_rev hr h0 hk ?_)
    first
    | exact wpAny_pure ⟨rfl, rfl⟩
    | exact wpAny_bind (wpAny_pure (wpAny_pure ⟨rfl, rfl⟩))
  · rintro obj s₁ ⟨rfl, rfl⟩
    exact ⟨⟨_, Heap.get?_push_size _ rfl, rfl⟩, h⟩

/-- a built-in class called upon its arguments -/
theorem e_type {f : Str} {T : String} {e1 : Expr} {rest : List Expr} {p pos : Pos} (hX : X.Ok) (I : Inv X s) (hm : f ∈ usedB) (hv : bootBuiltins f = some (.type T)) (hn : f ≠ "__name__")
    (h : wpAny (model prog w) A (spliced (backTo pos (starEach (e1 :: rest) env))) (fun vs s₁ => wpAny (model prog w) A (call (.type T) vs) Q E s₁) E s)
    (he : starEach (e1 :: rest) env = (false, eval e1 env) :: starEach rest env := by rfl) (hplain : (backTo pos (starEach rest env)).any (·.1) = false := by rfl)
    (hg : env.globals = mainGlobals := by rfl) (hb : env.builtins = builtinsNs := by rfl) (hk : env.scope.kind = .function := by rfl) (hl : env.kindOf f = some .globalImplicit := by rfl) (hd : (f == ("__debug__" : Str)) = false := by decide) :
    wpAny (model prog w) A (eval (.Call (.Name f p) (e1 :: rest) [] pos) env) Q E s :=
  wpAny_Call_Name_kw (st_built hX I hm hv hn (PyProof.Rows.callWith_type1 h he hplain) hg hb hk hl hd)

set_option maxHeartbeats 1000000
theorem heapify_ok {a : Addr} {hs : List Addr} {tr : Addr → Int × Int × Str} (hX : X.Ok) (I : Inv X s) (ha : ∃ n, s.heap.get? a = some (lobj (refs hs) n)) (haX : X.n ≤ a)
    (hR : Rws X s.heap tr a hs) (hz : hs.length ≤ 1000) (hh : A.handled = none) (htk : 1 ≤ s.toks) (hd : A.depth + 20 < recursionLimit) (hu : A.units + 50 < cLine) :
    codeAny (model prog w) A (.call (.ref (X.fa 5)) ⟨[.ref a], []⟩) (fun r s' => ∃ (hs' : List Addr), r = .ok (.ret .none) ∧ hs'.Perm hs ∧ HeapFrom hs'.length 0 (kf (key tr) hs') ∧
      (∃ n, s'.heap.get? a = some (lobj (refs hs') n)) ∧ Kept X (· = a) s s') s := by
  refine call_fnT hX I (by decide) (mone a (refs hs)) (mone_ok ha haX) (by omega) (binds := [("x", .ref a)]) (fun _ _ _ => rfl) (locs rfl) (fun s₁ S htk₁ => ?_) rfl rfl rfl (by decide)
  obtain ⟨m0, k1, S⟩ : ∃ m0 : Loc, m0 "x" = some (.ref a) ∧ St X (hid X (mone a (refs hs)) s.heap) (mone a (refs hs)) s.heap.objs.size m0 s₁ := ⟨_, rfl, S⟩
  refine seqT (fun s' => ∃ te, St X (hid X (mone a (refs hs)) s.heap) (mone a (refs hs)) s.heap.objs.size (upd m0 "n" (.int (hs.length : Nat) te)) s') (by omega) ?_ ?_
  · refine wpAny_Assign_Name (e_len hX S.inv (st_name S k1 (len_mut hX S mone_self (by rw [refs_size]; omega) fun te s₂ S => st_store hX S fun s₃ S => ⟨rfl, te, ?_⟩)))
    rw [refs_size] at S; exact S
  rintro s₂ ht₂ ⟨te, S⟩
  have hdiv : ((hs.length : Nat) : Int).fdiv 2 = ((hs.length / 2 : Nat) : Int) := by
    rw [Int.fdiv_eq_ediv_of_nonneg _ (by decide)]; omega
  refine wpAny_execs_cons (for_st hX ht₂ (e_type hX S.inv (by decide) (by boot_fast) (by decide) (a_cons (e_type hX S.inv (by decide) (by boot_fast) (by decide) (a_cons (wpAny_BinOp (st_name S upd_same (c_int hX S fun _ _ S => b_div hX S (by decide) (.inl (PyProof.noPylong_small (by decide))) fun td s₃ S => a_nil (call_range_1 (a_nil ?_))))))))))
  rw [hdiv]
  have hIr := IsRange.new s₃.heap 0 ((hs.length / 2 : Nat) : Int) 1 s₃.toks td (s₃.toks + 1)
  refine call_reversed_range hIr (by omega) (by omega) (wpAny_pyIter_rangeiter (x := ((hs.length / 2 : Nat) : Int) - 1) (left := ((hs.length / 2 : Nat) : Int)) (step := -1) (Heap.get?_push_size _ rfl) ?_)
  have S₁ := S.push hX (o := { cls := .type "range", data := .fields #[.int 0 s₃.toks, .int ((hs.length / 2 : Nat) : Int) td, .int 1 (s₃.toks + 1)] }) (tk := s₃.toks + 1 + 1)
  have fr := S₁.fresh
  have S₂ := S₁.push hX (o := riObj (((hs.length / 2 : Nat) : Int) - 1) ((hs.length / 2 : Nat) : Int) (-1)) (tk := s₃.toks + 1 + 1)
  refine ⟨_, _, hs.length / 2, _, _, rfl, Walks.range (show (A.deeper _).handled = none from hh) _ (((hs.length / 2 : Nat) : Int) - 1) (-1) (hs.length / 2), ?_, fr.2.2.2, ?_⟩
  · have := Heap.get?_push_size (h := (s₃.heap.push { cls := .type "range", data := .fields #[.int 0 s₃.toks, .int ((hs.length / 2 : Nat) : Int) td, .int 1 (s₃.toks + 1)] })) (o := riObj (((hs.length / 2 : Nat) : Int) - 1) ((hs.length / 2 : Nat) : Int) (-1)) rfl
    simpa [riObj] using this
  refine ⟨fun i g mu m => g = hid X (mone a (refs hs)) s.heap ∧ ∃ ks : List Addr, mu = mone a (refs ks) ∧ ks.Perm hs ∧ HeapFrom hs.length (hs.length / 2 - i) (kf (key tr) ks) ∧ m "x" = some (.ref a), hid X (mone a (refs hs)) s.heap, _, _, _, ?_, ?_,
    ⟨rfl, hs, rfl, .refl _, ?_, upd_of (by decide) k1⟩, S₂, fr.1, fr.2.1, Ne.symm fr.2.2.1, ?_, ?_⟩
  · rintro i g mu m ⟨rfl, _⟩; exact gle.refl
  · intro b hb; rw [List.mem_singleton] at hb; exact .inl hb
  · intro j h1 h2 h3; omega
  · rintro i v g mu m gI s₄ hi ⟨rfl, ks, rfl, hp, hH, mx⟩ ⟨tv, rfl⟩ hgI hmI hgg hgg' ht₄ S
    have hlen := hp.length_eq
    have hpp : ((hs.length / 2 : Nat) : Int) - 1 + (i : Int) * -1 = ((hs.length / 2 - 1 - i : Nat) : Int) := by omega
    rw [hpp] at S
    obtain ⟨y, hy⟩ : ∃ y, ks[hs.length / 2 - 1 - i]? = some y := ⟨_, List.getElem?_eq_getElem (by omega)⟩
    obtain ⟨q, e1, e2, e3⟩ := S.mus a _ mone_self
    refine wpAny_execs_cons (wpAny_Expr (e_fn (i := 7) hX S.inv (by decide) rfl (a_cons (st_name S (upd_of (by decide) mx) (a_cons (st_name S upd_same (a_nil ⟨S.inv, ?_⟩)))))))
    refine codeAny_mono (siftup_ok (p := hs.length / 2 - 1 - i) (hs := ks) (x := y) (tr := tr) hX S.inv q e1 ((hR.st S hgg).sub fun b hb => hp.mem_iff.mp hb) hy (by omega) ?_ ?_ ?_) ?_
    · rw [hlen]
      have : hs.length / 2 - 1 - i + 1 = hs.length / 2 - i := by omega
      rw [this]; exact hH
    · show A.depth + 1 + 10 < _; omega
    · simp only [Around.deeper_units]; omega
    · rintro r s' ⟨hs', rfl, hp', hh', he', hk'⟩
      have S := S.after1 mone_self hk' he'
      rw [madd_mone] at S
      refine wpAny_execs_nil ⟨gI, hid X (mone a (refs hs)) s.heap, _, _, ⟨rfl, hs', rfl, hp'.trans hp, ?_, upd_of (by decide) mx⟩, hgg, gle.refl, hgI, ?_, S⟩
      · rw [hlen] at hh'
        have : hs.length / 2 - 1 - i = hs.length / 2 - (i + 1) := by omega
        rw [← this]; exact hh'
      · exact mone_none hmI
  · rintro g mu m s₄ ⟨rfl, ks, rfl, hp, hH, mx⟩ S ht₄
    refine wpAny_execs_nil ⟨ks, rfl, hp, ?_, ?_, (S.kept gle.refl).mono fun b hb => mone_only hb⟩
    · rw [hp.length_eq]; rw [Nat.sub_self] at hH; exact hH
    · obtain ⟨q, _⟩ := S.mus a _ mone_self; exact q
end
end Mine
end
section
open PySem PySem.W PyProof.Rows
set_option autoImplicit false
set_option maxRecDepth 100000
namespace Mine
open Builtin.Str

theorem dropWhile_head {q : List (List Nat)} {p : List Nat} {r : List (List Nat)} (h : q = p :: r) (hp : p ≠ [32]) : q.dropWhile (· == [32]) = q := by
  subst h; rw [List.dropWhile_cons, if_neg (by simpa using hp)]
theorem digs_in {ps : List (List Nat)} (h : IsLeaf ps) : ∃ d ∈ ps, d ≠ [32] := by
  obtain ⟨a, b, d, c, e, rfl, ha, hb, hc, he, hd, _⟩ := h
  exact ⟨d, by simp, fun q => by have := hd.2 32 (by rw [q]; simp); omega⟩
theorem leaf_dw_ne {ps : List (List Nat)} (h : IsLeaf ps) : ps.dropWhile (· == [32]) ≠ [] := by
  obtain ⟨d, hd, hne⟩ := digs_in h
  exact List.ne_nil_of_mem (mem_dropWhile (by simpa using hne) hd)
theorem leaf_strip_ne {ps : List (List Nat)} (h : IsLeaf ps) : stripP ps ≠ [] := by
  obtain ⟨d, hd, hne⟩ := digs_in h
  exact List.ne_nil_of_mem (stripP_keep hd hne)
theorem good_ne {p : List Nat} (h : GoodP p) : p ≠ [] := by
  rcases h with h | h
  · simp only [signs, List.mem_cons, List.not_mem_nil, or_false] at h
    rcases h with rfl | rfl | rfl | rfl | rfl | rfl | rfl | rfl | rfl | rfl <;> decide
  · exact h.1
theorem svals_drop (sv : List (List Nat × Tok)) (k : Nat) : ((svals sv).toList.drop k).toArray = svals (sv.drop k) := by simp [svals, List.map_drop]
theorem svals_take (sv : List (List Nat × Tok)) (k : Nat) : ((svals sv).toList.take k).toArray = svals (sv.take k) := by simp [svals, List.map_take]
theorem svals_app (a b : List (List Nat × Tok)) : svals a ++ svals b = svals (a ++ b) := by simp [svals]
theorem rev_ind {α : Type} (l : List α) (h : l ≠ []) : ∃ r c, l = r ++ [c] := ⟨l.dropLast, l.getLast h, (List.dropLast_concat_getLast h).symm⟩
theorem found_digs (c : Nat) : (!(occurrences (txt [48, 49, 50, 51, 52, 53, 54, 55, 56, 57]) (txt [c]) 0 (txt [48, 49, 50, 51, 52, 53, 54, 55, 56, 57]).length 1).isEmpty) = isDig c := by
  have := StrLaws.found_one (txt [48, 49, 50, 51, 52, 53, 54, 55, 56, 57]) c
  rw [show (txt [c]) = (⟨#[c]⟩ : Str) from rfl, this, txt_list]
  unfold isDig
  rw [Bool.eq_iff_iff]
  simp
  omega

section
variable {prog : Program} {w : World} {A : Around} {s : Shared} {X : Cx} {Q : Value → Shared → Prop} {E : Value → Shared → Prop} {g : Stat} {mu : Mut} {L : Addr} {m : Loc} {env : Env}
def LeafAt (X : Cx) (h : Heap) (nf : Addr → List (List Nat)) (b : Addr) : Prop := X.n ≤ b ∧ IsLeaf (nf b) ∧ ∃ sv n, h.get? b = some (lobj (svals sv) n) ∧ sv.map (·.1) = nf b

set_option maxHeartbeats 2000000
theorem law_walk_ok {rA : Addr} {ls : List Addr} {nr : Nat} {nf : Addr → List (List Nat)} (hX : X.Ok) (I : Inv X s) (hrow : s.heap.get? rA = some (lobj (refs ls) nr)) (hrX : X.n ≤ rA) (hleaf : ∀ b ∈ ls, LeafAt X s.heap nf b)
    (hz : ls.length ≤ 1000) (hh : A.handled = none) (htk : 1 ≤ s.toks) (hd : A.depth < recursionLimit) :
    codeAny (model prog w) A (.call (.ref (X.fa 10)) ⟨[.ref rA], []⟩) (fun r s' => ∃ t, r = .ok (.ret (.str (txt (walkL (ls.map nf))) t)) ∧ Kept X (fun _ => False) s s') s := by
  refine call_fnT hX I (by decide) mnone (fun _ _ e => nomatch e) hd (binds := [("row", .ref rA)]) (fun _ _ _ => rfl) (locs rfl) (fun s₁ S htk₁ => ?_) rfl rfl rfl (by decide)
  have hgrow : hid X mnone s.heap rA = some (lobj (refs ls) nr) := hid_of hrX rfl hrow
  have hgleaf : ∀ b ∈ ls, ∃ sv n, hid X mnone s.heap b = some (lobj (svals sv) n) ∧ sv.map (·.1) = nf b := fun b hb => by
    obtain ⟨h1, _, sv, n, h2, h3⟩ := hleaf b hb
    exact ⟨sv, n, hid_of h1 rfl h2, h3⟩
  generalize hg0 : hid X mnone s.heap = g0 at S hgrow hgleaf
  obtain ⟨m0, k1, S⟩ : ∃ m0 : Loc, m0 "row" = some (.ref rA) ∧ St X g0 mnone s.heap.objs.size m0 s₁ := ⟨_, rfl, S⟩
  refine seqT (fun s' => ∃ t, St X g0 mnone s.heap.objs.size (upd m0 "told" (.str (txt []) t)) s') (by omega) (wpAny_Assign_Name (c_str hX S fun t _ S => st_store hX S fun s' S => ⟨rfl, t, S⟩)) ?_
  rintro s₂ ht₂ ⟨t0, S⟩
  refine seqT (fun s' => ∃ (m : Loc) (t : Tok), m "told" = some (.str (txt (walkRaw (ls.map nf))) t) ∧ (walkRaw (ls.map nf)).length ≤ 200 * ls.length ∧ St X g0 mnone s.heap.objs.size m s') ht₂ ?loop ?rest
  case rest =>
    rintro s₃ ht₃ ⟨m, t, mt, hlen, S⟩
    refine seqT (fun s' => ∃ (m : Loc) (t : Tok), m "told" = some (.str (txt (walkL (ls.map nf))) t) ∧ St X g0 mnone s.heap.objs.size m s') ht₃ ?_ ?_
    · refine wpAny_If (wpAny_isTrue_Compare1 (e_last hX (st_name S mt ⟨_, _, _, _, _, _, rfl, by rw [txt_len]; omega, S, fun tl s' S => c_str hX S fun tc s'' S => PyProof.Rows.eq_str (wpAny_truthy_bool ?_)⟩)))
      rw [txt_list, lit_dash, txt_beq]
      by_cases hl : (walkRaw (ls.map nf)).getLast? = some 45
      · rw [if_pos (by rw [hl]; rfl)]
        refine wpAny_execs_cons (wpAny_Assign_Name (e_butlast hX (st_name S mt ⟨_, _, _, _, _, _, rfl, by rw [txt_len]; omega, S, fun tl s' S => st_store hX S fun s4 S => wpAny_execs_nil ⟨rfl, _, tl, upd_same.trans ?_, S⟩⟩)))
        unfold walkL; rw [if_pos hl, txt_list]
      · rw [if_neg (by cases hg : (walkRaw (ls.map nf)).getLast? with
          | none => simp
          | some c => rw [hg] at hl; simp at hl ⊢; exact hl)]
        refine wpAny_execs_nil ⟨rfl, m, t, ?_, S⟩
        unfold walkL; rw [if_neg hl]; exact mt
    · rintro s₄ ht₄ ⟨m, t, mt, S⟩
      refine wpAny_execs_cons (wpAny_Return_some (st_name S mt ⟨t, rfl, ?_⟩))
      subst hg0
      exact (S.kept gle.refl).mono fun b hb => by cases hb
  case loop =>
    refine for_st hX ht₂ (st_name S (upd_of (by decide) k1) (wpAny_pyIter_list (S.isG hgrow) ?_))
    have fr := S.fresh
    have S₂ := S.push hX (o := { cls := .type "list_iterator", data := .fields #[.ref rA, .int 0 0] }) (tk := s₂.toks)
    have hneI : rA ≠ s₂.heap.objs.size := fun e => by rw [e, fr.1] at hgrow; cases hgrow
    refine ⟨_, _, (refs ls).size, _, _, rfl, Walks.list (show (A.deeper _).handled = none from hh) _ rA hneI (refs ls), ⟨⟨_, Heap.get?_push_size _ rfl, rfl, rfl⟩, S₂.isG hgrow⟩, fr.2.2.2, ?_⟩
    refine ⟨fun i g mu m => g = g0 ∧ mu = mnone ∧ ∃ t, m "told" = some (.str (txt (((ls.take i).map nf).foldl wstep [])) t) ∧ (((ls.take i).map nf).foldl wstep []).length ≤ 200 * i, g0, g0, mnone, _, ?_, ?_, ⟨rfl, rfl, t0, upd_same, by simp⟩, S₂, fr.1, rfl, Ne.symm fr.2.2.1, ?_, ?_⟩
    · rintro i g mu m ⟨rfl, _⟩; exact gle.refl
    · intro b hb
      simp at hb
      rcases hb with rfl | rfl
      · exact .inl rfl
      · exact .inr (by rw [hgrow]; rfl)
    · rintro i v g mu m gI s₄ hi ⟨rfl, rfl, tt, mt, hlen⟩ hv hgI hmI hgg hgg' ht₄ S
      rw [refs_size] at hi
      obtain ⟨b, hb⟩ : ∃ b, ls[i]? = some b := ⟨_, List.getElem?_eq_getElem hi⟩
      rw [refs_get hb] at hv
      cases hv
      have hbm := List.mem_of_getElem? hb
      obtain ⟨sv0, n0, hsv0, hsvm⟩ := hgleaf b hbm
      have hL := (hleaf b hbm).2.1
      generalize hT : ((ls.take i).map nf).foldl wstep [] = T at mt hlen
      -- inner = parts
      refine seqT (fun s' => ∃ m1 : Loc, m1 "inner" = some (.ref b) ∧ m1 "told" = some (.str (txt T) tt) ∧ St X gI mnone s.heap.objs.size m1 s') ht₄
        (wpAny_Assign_Name (st_name S upd_same (st_store hX S fun s' S => ⟨rfl, _, upd_same, upd_of (by decide) (upd_of (by decide) mt), S⟩))) ?_
      rintro s₅ ht₅ ⟨m1, mi, mt1, S⟩
      -- the blanks ahead
      refine seqT (fun s' => ∃ (g1 : Stat) (m1 : Loc) (ib : Addr) (sv : List (List Nat × Tok)) (n : Nat), gle gI g1 ∧ g1 ib = some (lobj (svals sv) n) ∧ sv.map (·.1) = (nf b).dropWhile (· == [32]) ∧ sv.length ≤ 5 ∧
        m1 "inner" = some (.ref ib) ∧ m1 "told" = some (.str (txt T) tt) ∧ St X g1 mnone s.heap.objs.size m1 s') ht₅ ?_ ?_
      · refine while_ (fun k s' => ∃ (g1 : Stat) (m1 : Loc) (ib : Addr) (sv : List (List Nat × Tok)) (n : Nat), k = sv.length ∧ gle gI g1 ∧ g1 ib = some (lobj (svals sv) n) ∧ (sv.map (·.1)).dropWhile (· == [32]) = (nf b).dropWhile (· == [32]) ∧ sv.length ≤ 5 ∧
          m1 "inner" = some (.ref ib) ∧ m1 "told" = some (.str (txt T) tt) ∧ St X g1 mnone s.heap.objs.size m1 s') ?_ sv0.length ⟨gI, m1, b, sv0, n0, rfl, gle.refl, hgg _ _ hsv0, by rw [hsvm], by rw [← List.length_map (f := (·.1)), hsvm, (leaf_len hL).1]; exact Nat.le_refl _, mi, mt1, S⟩
        rintro k s₆ ⟨g1, m1, ib, sv, n, rfl, hg1, hib, hdw, h5, mi, mt1, S⟩
        cases sv with
        | nil => exact absurd hdw.symm (leaf_dw_ne hL)
        | cons q r =>
          refine wpAny_isTrue_Compare1 (Subscript_ (st_name S mi (c_int hX S fun _ _ S => i_sta S hib (by decide) (by decide) (svals_get (p := q) rfl) (c_str hX S fun _ _ S => PyProof.Rows.eq_str (wpAny_truthy_bool ?_)))))
          rw [lit_blank, txt_beq]
          by_cases hq : q.1 = [32]
          · rw [if_pos (decide_eq_true hq)]
            refine wpAny_execs_cons (wpAny_Assign_Name (e_slice (lo := some 1) (hi := none) hX (st_name S mi (by
              rw [evalPart_some, evalPart_none]
              exact c_int hX S fun tc s₇ S => wpAny_pure ⟨g1, mnone, _, m1, rfl, .inl hib, by rw [svals_size]; omega, .int 1 tc, .none, S, fun c g' s' hg' hc _ _ _ _ S => st_store hX S fun s₈ S => wpAny_execs_nil
                ⟨r.length, by simp, g', _, c, r, 0, rfl, hg1.trans hg', by rw [hc]; congr 1; rw [show (1 : Int) = ((1 : Nat) : Int) from rfl, slicePick_from', svals_drop]; rfl, by rw [← hdw]; simp [hq], by simp at h5; omega, upd_same, upd_of (by decide) mt1, S⟩⟩))))
          · rw [if_neg (by simpa using hq)]
            exact ⟨rfl, g1, m1, ib, q :: r, n, hg1, hib, by rw [← hdw]; exact (dropWhile_head rfl hq).symm, h5, mi, mt1, S⟩
      rintro s₆ ht₆ ⟨g1, m1, ib, sv1, n1, hg1, hib, hsv1, h5, mi, mt1, S⟩
      -- the blanks behind
      refine seqT (fun s' => ∃ (g1 : Stat) (m1 : Loc) (ib : Addr) (sv : List (List Nat × Tok)) (n : Nat), gle gI g1 ∧ g1 ib = some (lobj (svals sv) n) ∧ sv.map (·.1) = stripP (nf b) ∧ sv.length ≤ 5 ∧
        m1 "inner" = some (.ref ib) ∧ m1 "told" = some (.str (txt T) tt) ∧ St X g1 mnone s.heap.objs.size m1 s') ht₆ ?_ ?_
      · refine while_ (fun k s' => ∃ (g1 : Stat) (m1 : Loc) (ib : Addr) (sv : List (List Nat × Tok)) (n : Nat), k = sv.length ∧ gle gI g1 ∧ g1 ib = some (lobj (svals sv) n) ∧ ((sv.map (·.1)).reverse.dropWhile (· == [32])).reverse = stripP (nf b) ∧ sv.length ≤ 5 ∧
          m1 "inner" = some (.ref ib) ∧ m1 "told" = some (.str (txt T) tt) ∧ St X g1 mnone s.heap.objs.size m1 s') ?_ sv1.length ⟨g1, m1, ib, sv1, n1, rfl, hg1, hib, by rw [hsv1]; rfl, h5, mi, mt1, S⟩
        rintro k s₇ ⟨g1, m1, ib, sv, n, rfl, hg1, hib, hdw, h5, mi, mt1, S⟩
        have hne : sv ≠ [] := fun e => by subst e; exact leaf_strip_ne hL hdw.symm
        obtain ⟨r, q, rfl⟩ := rev_ind sv hne
        have hlq : (svals (r ++ [q]))[(svals (r ++ [q])).size - 1]? = some (.str (txt q.1) q.2) := by rw [svals_size]; exact svals_get (by simp)
        refine wpAny_isTrue_Compare1 (Subscript_ (st_name S mi (wpAny_UnaryOp (c_int hX S fun _ _ S => PySem.P.neg_int (i_last (S.toks hX) hib (by rw [svals_size]; simp) hlq (c_str hX (S.toks hX) fun _ _ S => PyProof.Rows.eq_str (wpAny_truthy_bool ?_)))))))
        rw [lit_blank, txt_beq]
        by_cases hq : q.1 = [32]
        · rw [if_pos (decide_eq_true hq)]
          refine wpAny_execs_cons (wpAny_Assign_Name (e_slice (lo := none) (hi := some (-1)) hX (st_name S mi (by
            rw [evalPart_some, evalPart_none]
            exact wpAny_pure (wpAny_UnaryOp (c_int hX S fun tc s₇ S => PySem.P.neg_int ⟨g1, mnone, _, m1, rfl, .inl hib, by rw [svals_size]; omega, .none, .int (-1) _, S.toks hX, fun c g' s' hg' hc _ _ _ _ S => st_store hX S fun s₈ S => wpAny_execs_nil
              ⟨r.length, by simp, g', _, c, r, 0, rfl, hg1.trans hg', by
                rw [hc]; congr 1
                have := slicePick_butLast (svals (r ++ [q])) 1 (Nat.le_refl _)
                rw [show (-1 : Int) = -((1 : Nat) : Int) from rfl, this, svals_take, svals_size]; (try simp), by rw [← hdw]; simp [hq], by simp at h5; omega, upd_same, upd_of (by decide) mt1, S⟩⟩))))))
        · rw [if_neg (by simpa using hq)]
          refine ⟨rfl, g1, m1, ib, r ++ [q], n, hg1, hib, ?_, h5, mi, mt1, S⟩
          rw [← hdw]; simp [hq]
      rintro s₇ ht₇ ⟨g1, m1, ib, sv1, n1, hg1, hib, hsv1, h5, mi, mt1, S⟩
      -- a hyphen between two names
      refine seqT (fun s' => ∃ (g1 : Stat) (m1 : Loc) (ib : Addr) (sv : List (List Nat × Tok)) (n : Nat), gle gI g1 ∧ g1 ib = some (lobj (svals sv) n) ∧ sv.map (·.1) = (if T ≠ [] then [45] :: stripP (nf b) else stripP (nf b)) ∧ sv.length ≤ 6 ∧
        m1 "inner" = some (.ref ib) ∧ m1 "told" = some (.str (txt T) tt) ∧ St X g1 mnone s.heap.objs.size m1 s') ht₇ ?_ ?_
      · refine wpAny_If (wpAny_isTrue_Compare1 (st_name S mt1 (c_str hX S fun _ _ S => PyProof.Rows.ne_str (wpAny_truthy_bool ?_))))
        have e : (txt T != Str.ofString "") = decide (T ≠ []) := by
          rw [lit_empty]; unfold bne; rw [txt_beq]; simp
        rw [e]
        by_cases hTn : T ≠ []
        · rw [if_pos (decide_eq_true hTn)]
          refine wpAny_execs_cons (wpAny_Assign_Name (wpAny_BinOp (e_list hX (a_cons (c_str hX S fun tc _ S => a_nil ⟨by simp, g1, mnone, _, m1, S, fun c g2 s' hg2 hc _ _ _ _ S =>
            st_name S mi (b_addL (xs := svals [([45], tc)]) (n := 0) hX S (by rw [hc]; rfl) (hg2 _ _ hib) (by rw [svals_size, svals_size]; simp; omega) fun d g3 s'' hg3 hd3 _ _ _ _ S => st_store hX S fun s₈ S => wpAny_execs_nil
              ⟨rfl, g3, _, d, ([45], tc) :: sv1, 0, (hg1.trans hg2).trans hg3, by rw [hd3, svals_app]; rfl, by rw [if_pos hTn, List.map_cons, hsv1], by simp; omega, upd_same, upd_of (by decide) mt1, S⟩)⟩)))))
        · rw [if_neg (by simpa using hTn)]
          exact wpAny_execs_nil ⟨rfl, g1, m1, ib, sv1, n1, hg1, hib, by rw [if_neg hTn]; exact hsv1, by omega, mi, mt1, S⟩
      rintro s₈ ht₈ ⟨g2, m1, ib, sv2, n2, hg2, hib, hsv2, h6, mi, mt1, S⟩
      -- the pieces told
      have hgood : ∀ q ∈ sv2, GoodP q.1 ∧ q.1.length ≤ 31 := fun q hq => by
        have hq1 : q.1 ∈ sv2.map (·.1) := List.mem_map_of_mem hq
        rw [hsv2] at hq1
        have hstr : ∀ p ∈ stripP (nf b), GoodP p ∧ p.length ≤ 31 := fun p hp => ⟨hL.good p (stripP_sub hp), (leaf_len hL).2 p (stripP_sub hp)⟩
        split at hq1
        · rcases List.mem_cons.mp hq1 with e | e
          · rw [e]; exact ⟨good_dash, by simp⟩
          · exact hstr _ e
        · exact hstr _ hq1
      have hnext : ((ls.take (i + 1)).map nf).foldl wstep [] = (sv2.map (·.1)).foldl tell T := by
        rw [List.take_succ, hb, List.map_append, List.foldl_append, hT, hsv2]; rfl
      have hlenN : (((ls.take (i + 1)).map nf).foldl wstep []).length ≤ 200 * (i + 1) := by
        have h1 : ((ls.take (i + 1)).map nf).foldl wstep [] = wstep T (nf b) := by
          rw [List.take_succ, hb, List.map_append, List.foldl_append, hT]; rfl
        rw [h1]
        have := wstep_len (t := T) hL
        omega
      refine wpAny_execs_cons (for_st hX ht₈ (st_name S mi (wpAny_pyIter_list (S.isG hib) ?_)))
      have fr2 := S.fresh
      have S₃ := S.push hX (o := { cls := .type "list_iterator", data := .fields #[.ref ib, .int 0 0] }) (tk := s₈.toks)
      have hneI2 : ib ≠ s₈.heap.objs.size := fun e => by rw [e, fr2.1] at hib; cases hib
      refine ⟨_, _, (svals sv2).size, _, _, rfl, Walks.list (show (A.deeper _).handled = none from hh) _ ib hneI2 (svals sv2), ⟨⟨_, Heap.get?_push_size _ rfl, rfl, rfl⟩, S₃.isG hib⟩, fr2.2.2.2, ?_⟩
      refine ⟨fun j g mu m => g = g2 ∧ mu = mnone ∧ ∃ t, m "told" = some (.str (txt (((sv2.take j).map (·.1)).foldl tell T)) t) ∧ (((sv2.take j).map (·.1)).foldl tell T).length ≤ T.length + 31 * j, g2, g2, mnone, _, ?_, ?_, ⟨rfl, rfl, tt, mt1, by simp⟩, S₃, fr2.1, rfl, Ne.symm fr2.2.2.1, ?_, ?_⟩
      · rintro i g mu m ⟨rfl, _⟩; exact gle.refl
      · intro c hc
        simp at hc
        rcases hc with rfl | rfl
        · exact .inl rfl
        · exact .inr (by rw [hib]; rfl)
      · rintro j v g mu m gJ s₉ hj ⟨rfl, rfl, tj, mtj, hlj⟩ hv hgJ hmJ hggJ hggJ' ht₉ S
        rw [svals_size] at hj
        obtain ⟨q, hq⟩ : ∃ q, sv2[j]? = some q := ⟨_, List.getElem?_eq_getElem hj⟩
        rw [svals_get hq] at hv
        cases hv
        obtain ⟨hgq, hlq⟩ := hgood q (List.mem_of_getElem? hq)
        generalize hU : ((sv2.take j).map (·.1)).foldl tell T = U at mtj hlj
        have hnx : ((sv2.take (j + 1)).map (·.1)).foldl tell T = tell U q.1 := by
          rw [List.take_succ, hq, List.map_append, List.foldl_append, hU]; rfl
        have hlx : (((sv2.take (j + 1)).map (·.1)).foldl tell T).length ≤ T.length + 31 * (j + 1) := by
          rw [hnx]; have := tell_len U q.1 hlq; omega
        have mtj' : upd m "part" (.str (txt q.1) q.2) "told" = some (.str (txt U) tj) := upd_of (by decide) mtj
        -- the end of a turn
        have done : ∀ (U' : List Nat) (t' : Tok) (s' : Shared) (m' : Loc), U' = tell U q.1 → m' "told" = some (.str (txt U') t') → St X gJ mnone s.heap.objs.size m' s' →
            ForNext X s.heap.objs.size s₈.heap.objs.size gJ (fun g' mu m => g' = g ∧ mu = mnone ∧ ∃ t, m "told" = some (.str (txt (((sv2.take (j + 1)).map (·.1)).foldl tell T)) t) ∧ (((sv2.take (j + 1)).map (·.1)).foldl tell T).length ≤ T.length + 31 * (j + 1)) s' := by
          intro U' t' s' m' hU' hm' S'
          refine ⟨gJ, g, mnone, m', ⟨rfl, rfl, t', by rw [hnx, ← hU']; exact hm', hlx⟩, hggJ, gle.refl, hgJ, rfl, S'⟩
        have hzU : U.length + 31 ≤ 16777216 := by omega
        refine wpAny_execs_cons (wpAny_If (wpAny_isTrue_Compare1 (st_name S upd_same (c_str hX S fun _ _ S => PyProof.Rows.eq_str (wpAny_truthy_bool ?_)))))
        rw [lit_blank, txt_beq]
        by_cases h1 : q.1 = [32]
        · rw [if_pos (decide_eq_true h1)]
          refine wpAny_execs_cons (wpAny_AugAssign_Name (st_load S mtj' (c_str hX S fun _ _ S => ?_)))
          rw [lit_us]
          refine i_add hX S (by simp; omega) fun t' _ S => st_store hX S fun s' S => wpAny_execs_nil (wpAny_execs_nil ?_)
          exact done _ t' s' _ (by unfold tell; rw [if_pos h1]) upd_same S
        · rw [if_neg (by simpa using h1)]
          cases hq1 : q.1 with
          | nil => exact absurd hq1 (good_ne hgq)
          | cons c r =>
            refine wpAny_execs_cons (wpAny_If (wpAny_isTrue_Compare1 (e_firstc (l := r) (c := c) hX (st_name S upd_same ⟨_, _, _, _, _, _, rfl, by rw [txt_list]; exact hq1, S, fun _ _ S => c_str hX S fun _ _ S => PyProof.Rows.in_str (wpAny_truthy_bool ?_)⟩))))
            rw [lit_digs, found_digs]
            by_cases h2 : isDig c = true
            · rw [if_pos h2]
              refine wpAny_execs_cons (wpAny_AugAssign_Name (st_load S mtj' (st_name S upd_same (i_add hX S (by omega) fun t' _ S => st_store hX S fun s' S => wpAny_execs_nil (wpAny_execs_nil (wpAny_execs_nil ?_))))))
              exact done _ t' s' _ (by unfold tell; rw [if_neg h1, if_pos (by rw [hq1]; exact h2)]) upd_same S
            · rw [if_neg h2]
              have hne' : (txt q.1 != Str.ofString "unknown") = decide (q.1 ≠ unk) := by rw [lit_unk]; unfold bne; rw [txt_beq]; simp
              refine wpAny_execs_cons (wpAny_If (isTrue_and (wpAny_isTrue_Compare1 (st_name S upd_same (c_str hX S fun _ _ S => PyProof.Rows.ne_str (wpAny_truthy_bool ?_))))))
              rw [hne']
              by_cases h3 : q.1 ≠ unk
              · rw [if_pos (decide_eq_true h3)]
                refine isTrue_and (wpAny_isTrue_Compare1 (e_last hX (st_name S mtj' ⟨_, _, _, _, _, _, rfl, by rw [txt_len]; omega, S, fun tl s' S => c_str hX S fun tc s'' S => PyProof.Rows.ne_str (wpAny_truthy_bool ?_)⟩)))
                have e : (txt (txt U).cps.toList.getLast?.toList != Str.ofString "-") = decide (U.getLast? ≠ some 45) := by
                  rw [lit_dash, txt_list]; unfold bne; rw [txt_beq]
                  cases hg : U.getLast? with
                  | none => simp
                  | some d => simp
                rw [e]
                by_cases h4 : U.getLast? ≠ some 45
                · rw [if_pos (decide_eq_true h4)]
                  refine isTrue_and_nil ?_
                  refine wpAny_execs_cons (wpAny_AugAssign_Name (st_load S mtj' (c_str hX S fun _ _ S => ?_)))
                  rw [lit_dash]
                  refine i_add hX S (by simp; omega) fun t' _ S => st_store hX S fun s' S => wpAny_execs_nil (wpAny_execs_nil (wpAny_execs_nil (wpAny_execs_nil ?_)))
                  exact done _ t' s' _ (by unfold tell; rw [if_neg h1, if_neg (by rw [hq1]; exact h2), if_pos ⟨h3, h4⟩]) upd_same S
                · rw [if_neg (by simpa using h4)]
                  refine wpAny_execs_nil (wpAny_execs_nil (wpAny_execs_nil (wpAny_execs_nil ?_)))
                  exact done _ tj _ _ (by unfold tell; rw [if_neg h1, if_neg (by rw [hq1]; exact h2), if_neg (fun q => h4 q.2)]) mtj' S
              · rw [if_neg (by simpa using h3)]
                refine wpAny_execs_nil (wpAny_execs_nil (wpAny_execs_nil (wpAny_execs_nil ?_)))
                exact done _ tj _ _ (by unfold tell; rw [if_neg h1, if_neg (by rw [hq1]; exact h2), if_neg (fun q => h3 q.1)]) mtj' S
      · rintro g mu m s₉ ⟨rfl, rfl, t', mt', hl'⟩ S ht₉
        rw [svals_size, List.take_of_length_le (Nat.le_refl _), ← hnext] at mt'
        exact wpAny_execs_nil ⟨g, _, mnone, m, ⟨rfl, rfl, t', mt', hlenN⟩, hgg.trans hg2, hg2, hgI, rfl, S⟩
    · rintro g mu m s₄ ⟨rfl, rfl, t, mt, hlen⟩ S ht₄
      rw [refs_size, List.take_of_length_le (Nat.le_refl _)] at mt hlen
      exact ⟨rfl, m, t, mt, hlen, S⟩
end
end Mine
end
section
open PySem PySem.W PyProof.Rows
set_option autoImplicit false
set_option maxRecDepth 100000
namespace Mine

theorem digits_text {a : Int} (h0 : 0 ≤ a) (h1 : a.natAbs < 10 ^ 30) : IsDigs (Str.ofString (toString a)).cps.toList ∧ (Str.ofString (toString a)).cps.toList.length ≤ 31 := by
  have e : toString a = String.ofList (Nat.toDigits 10 a.toNat) := by
    rw [Int.toString_eq_repr, Int.repr_eq_if, if_pos h0]; rfl
  have e2 : (Str.ofString (toString a)).cps.toList = (Nat.toDigits 10 a.toNat).map Char.toNat := by
    rw [Str.ofString_eq_toList, e]; simp
  refine ⟨⟨?_, fun c hc => ?_⟩, ?_⟩
  · rw [e2]; simp [Nat.toDigits_ne_nil]
  · rw [e2] at hc
    obtain ⟨d, hd, rfl⟩ := List.mem_map.mp hc
    have := Nat.isDigit_of_mem_toDigits (by decide) (by decide) hd
    simp only [Char.isDigit, Bool.and_eq_true, decide_eq_true_eq] at this
    have h2 := this.1
    have h3 := this.2
    rw [ge_iff_le, UInt32.le_iff_toNat_le] at h2
    rw [UInt32.le_iff_toNat_le] at h3
    exact ⟨h2, h3⟩
  · have := PySem.int_text_length_le10 (a := a) (k := 30) (by decide) h1
    rw [← len_list, PySem.ofString_length]
    exact this

section
variable {prog : Program} {w : World} {A : Around} {s : Shared} {X : Cx} {Q : Value → Shared → Prop} {E : Value → Shared → Prop} {g : Stat} {mu : Mut} {L : Addr} {m : Loc} {env : Env} {R : Result → Shared → Prop}

/-- an object known in the heap made static -/
theorem St.addG (S : St X g mu L m s) {a : Addr} {o : Obj} (h : s.heap.get? a = some o) (hn : X.n ≤ a) (hL : a ≠ L) (hm : mu a = none) : St X (gadd g a o) mu L m s := by
  refine ⟨S.inv, S.ns, S.low, fun b ob e => ?_, fun b ob e => ?_, ?_, fun c xs e => ?_⟩
  · unfold gadd at e; split at e
    · cases e; subst b; exact h
    · exact S.keep b ob e
  · unfold gadd at e; split at e
    · subst b; exact hn
    · exact S.gnew b ob e
  · unfold gadd; rw [if_neg (Ne.symm hL)]; exact S.gout
  · have q := S.mus c xs e
    refine ⟨q.1, q.2.1, q.2.2.1, ?_⟩
    unfold gadd; rw [if_neg (fun h => by rw [h, hm] at e; cases e)]
    exact q.2.2.2
/-- a static object turned into another -/
theorem St.chg (hX : X.Ok) (S : St X g mu L m s) {a : Addr} {o o' : Obj} {h' : Heap} {tk : Nat} (hg : g a = some o) (ho : h'.get? a = some o') (hs : Heap.SameBut a s.heap h') : St X (gadd g a o') mu L m { s with heap := h', toks := tk } := by
  have hn := S.gnew a o hg
  have hL : a ≠ L := fun e => by rw [e, S.gout] at hg; cases hg
  have hnL := S.ns.sameBut hs (Ne.symm hL)
  refine ⟨S.inv.mono hX (fun b ob hb e => (hs.2 b (Nat.ne_of_lt (Nat.lt_of_lt_of_le hb hn))).trans e) rfl S.inv.gens (Nat.le_trans S.low (Nat.le_of_lt hnL.lt)), hnL, S.low, fun b ob e => ?_, fun b ob e => ?_, ?_, fun c xs e => ?_⟩
  · unfold gadd at e; split at e
    · cases e; subst b; exact ho
    · rename_i hb; exact (hs.2 b hb).trans (S.keep b ob e)
  · unfold gadd at e; split at e
    · subst b; exact hn
    · exact S.gnew b ob e
  · unfold gadd; rw [if_neg (Ne.symm hL)]; exact S.gout
  · obtain ⟨⟨n, e1⟩, e2, e3, e4⟩ := S.mus c xs e
    have hca : c ≠ a := fun h => by rw [h, hg] at e4; cases e4
    exact ⟨⟨n, (hs.2 c hca).trans e1⟩, e2, e3, by unfold gadd; rw [if_neg hca]; exact e4⟩

theorem st_nameC {x : Str} {p : Pos} {c : Addr} {o : Obj} {v : Value} {M : Model} (S : St X g mu L m s) (hg : g c = some o) (hd : o.data = .cell (some v)) (h : Q v s)
    (hc : env.cells.lookup x = some c := by rfl) (hk : env.scope.kind = .function := by rfl) (hl : env.kindOf x = some .cell := by rfl) (hdb : (x == ("__debug__" : Str)) = false := by decide) : wpAny M A (eval (.Name x p) env) Q E s :=
  wpAny_Name (wpAny_loadName_cell hk hl hc ⟨o, S.keep c o hg, hd⟩ h) hdb
theorem st_storeC {x : Str} {c : Addr} {o : Obj} {v₀ : Option Value} {v : Value} {M : Model} {Q : Unit → Shared → Prop} (hX : X.Ok) (S : St X g mu L m s) (hg : g c = some o) (hd : o.data = .cell v₀)
    (h : ∀ o' s', o'.data = .cell (some v) → St X (gadd g c o') mu L m s' → Q () s')
    (hc : env.cells.lookup x = some c) (hk : env.scope.kind = .function) (hl : env.kindOf x = some .cell) : wpAny M A (storeName env x v) Q E s :=
  wpAny_storeName_cell hk hl hc ⟨o, S.keep c o hg, hd⟩ fun h' hcell hs => by
    obtain ⟨o', ho', hd'⟩ := hcell
    exact h o' _ hd' (S.chg hX (tk := s.toks) hg ho' hs)

/-- a def with cells entered -/
theorem call_fnC {i : Nat} (hX : X.Ok) (I : Inv X s) (hi : i ∈ [1, 3, 4, 5, 6, 7, 9, 10, 11]) {args : List Value} {binds : List (Str × Value)}
    (hroom : A.depth < recursionLimit) (hbind : ∀ pm cd doc, bindArgs (Calls.docDef (nm i) (prm i) (bdy i) (scp i) pm cd doc) ⟨args, []⟩ = pure binds)
    (hkind : ∀ x ∈ binds, (scp i).names.lookup x.1 = some .local ∨ ((scp i).names.lookup x.1 = some .cell ∧ ((cellsFrom (s.heap.objs.size + 1) (scp i).names []).lookup x.1).isSome = true))
    (h : ∀ (pm doc : Value) s₁, InCallC s s.heap.objs.size (bindL (callEnvC (Calls.docDef (nm i) (prm i) (bdy i) (scp i) pm (X.cd i) doc) s.heap.objs.size (X.fa i)).kindOf binds fun _ => none)
        (cellsFrom (s.heap.objs.size + 1) (scp i).names []) (bindC (callEnvC (Calls.docDef (nm i) (prm i) (bdy i) (scp i) pm (X.cd i) doc) s.heap.objs.size (X.fa i)).kindOf binds fun _ => none) s₁ → s.toks ≤ s₁.toks →
      wpAny (model prog w) (A.deeper (callEnvC (Calls.docDef (nm i) (prm i) (bdy i) (scp i) pm (X.cd i) doc) s.heap.objs.size (X.fa i))) (execs (bdy i) (callEnvC (Calls.docDef (nm i) (prm i) (bdy i) (scp i) pm (X.cd i) doc) s.heap.objs.size (X.fa i)))
        (fun f s' => R (.ok (.ret (match f with | .ret v => v | _ => .none))) s') noE s₁)
    (hco : (scp i).isCoroutine = false) (hgen : (scp i).isGenerator = false) (hk : (scp i).kind = .function) :
    codeAny (model prog w) A (.call (.ref (X.fa i)) ⟨args, []⟩) R s := by
  obtain ⟨_, o, pm, doc, ho, hd, hcd⟩ := hX.fn i hi
  refine codeAny_call_function hroom (I.cls hX ho (by rw [hd]; nofun)) hd hco hgen rfl (I.codeRec hX hcd) ?_
  rw [hbind]
  refine wpAny_pure (wpAny_with_toks (Nat.le_refl s.toks) (wpAny_newFunctionEnv_cells hk hkind fun env he s' x htk => ?_))
  subst he
  exact ⟨(I.lim hX).keeps x.toInCall.keep, codeAny_func (wpAny_mono (h pm doc s' x htk) (fun _ _ z => z) fun _ _ z => z.elim)⟩

theorem St.enterC {m : Loc} {cs : List (Str × Addr)} {cm : Loc} {s₁ : Shared} (hX : X.Ok) (I : Inv X s) (x : InCallC s s.heap.objs.size m cs cm s₁) : St X (hid X mnone s.heap) mnone s.heap.objs.size m s₁ := by
  obtain ⟨h', tk, rfl⟩ := x.toInCall.same
  have F : Fr s.heap s.heap.objs.size h' m := ⟨x.toInCall.ns, x.toInCall.keep, x.toInCall.fresh⟩
  exact St.enter hX I (fun _ _ e => nomatch e) F

/-- the ten signs -/
theorem sgn_at {j : Nat} (h : j < 10) : ∃ p, signs[j]? = some p ∧ p ∈ signs := ⟨signs[j]'(by simpa [signs] using h), List.getElem?_eq_getElem _, List.getElem_mem _⟩

abbrev envP (pm cd doc : Value) (L fa : Addr) : Env := callEnvC (Calls.docDef (nm 9) (prm 9) (bdy 9) (scp 9) pm cd doc) L fa
theorem envP_N {pm cd doc : Value} {L fa : Addr} : (envP pm cd doc L fa).cells.lookup (Str.ofString "number") = some (L + 1) := rfl
theorem envP_S {pm cd doc : Value} {L fa : Addr} : (envP pm cd doc L fa).cells.lookup (Str.ofString "signs") = some (L + 1 + 1) := rfl

/-- range(n), range(a, n) of literals, asked for its iterator -/
theorem it_range1 {b : Int} {k : Nat} {p pk pos : Pos} (hX : X.Ok) (S : St X g mu L m s) (h0 : 0 ≤ b) (h1 : b ≤ 1000)
    (h : ∀ I s', St X g mu L m s' → g I = none → mu I = none → I ≠ L → X.n ≤ I → I < s'.heap.objs.size → IsRangeIter s'.heap I 0 b 1 → Q (.ref I) s')
    (hg : env.globals = mainGlobals := by rfl) (hb : env.builtins = builtinsNs := by rfl) (hk : env.scope.kind = .function := by rfl) (hl : env.kindOf "range" = some .globalImplicit := by rfl) :
    wpAny (model prog w) A (eval (.Call (.Name "range" p) [.Constant (.int b) k pk] [] pos) env) (fun xv s₁ => wpAny (model prog w) A (pyIter xv) Q E s₁) E s := by
  refine e_type hX S.inv (by decide) (by boot_fast) (by decide) (a_cons (c_int hX S fun td s₃ S => a_nil (call_range_1 ?_))) rfl rfl hg hb hk hl
  have hsz : Builtin.Range.rangeSize 0 b 1 = b := by unfold Builtin.Range.rangeSize; simp; omega
  refine wpAny_pyIter_range (IsRange.new s₃.heap 0 b 1 s₃.toks td (s₃.toks + 1)) (small_one (by omega) (by omega) (by omega) (by omega)) ?_
  rw [hsz]
  have S₁ := S.push hX (o := { cls := .type "range", data := .fields #[.int 0 s₃.toks, .int b td, .int 1 (s₃.toks + 1)] }) (tk := s₃.toks + 1 + 1)
  have fr := S₁.fresh
  have S₂ := S₁.push hX (o := { cls := .type "range_iterator", data := .fields #[rawInt 0, rawInt b, rawInt 1] }) (tk := s₃.toks + 1 + 1)
  exact h _ _ S₂ fr.1 fr.2.1 (Ne.symm fr.2.2.1) fr.2.2.2 (Heap.lt_size (Heap.get?_push_size _ rfl)) (Heap.get?_push_size _ rfl)

theorem starC {c : Const} {k : Nat} {p : Pos} {rest : List Expr} : starEach (.Constant c k p :: rest) env = (false, eval (.Constant c k p) env) :: starEach rest env := rfl
theorem a_str {x : Str} {k : Nat} {p pos : Pos} {rest : List Expr} {M : Model} {Q : List Value → Shared → Prop} (hX : X.Ok) (S : St X g mu L m s)
    (h : ∀ t s₁, St X g mu L m s₁ → wpAny M A (spliced (backTo pos (starEach rest env))) (fun vs s₂ => Q (.str x t :: vs) s₂) E s₁) : wpAny M A (spliced (backTo pos (starEach (.Constant (.str x) k p :: rest) env))) Q E s :=
  a_cons (c_str hX S h) starC
/-- a display of texts -/
inductive Lits : List Expr → List Str → Prop
  | nil : Lits [] []
  | cons {x : Str} {k : Nat} {p : Pos} {es : List Expr} {xs : List Str} (h : Lits es xs) : Lits (.Constant (.str x) k p :: es) (x :: xs)
inductive IsLits : List Str → List Value → Prop
  | nil : IsLits [] []
  | cons {x : Str} {t : Tok} {vs : List Value} {xs : List Str} (h : IsLits xs vs) : IsLits (x :: xs) (.str x t :: vs)
theorem IsLits.len {xs : List Str} {vs : List Value} (h : IsLits xs vs) : vs.length = xs.length := by
  induction h with
  | nil => rfl
  | cons _ ih => simp [ih]
theorem a_lits {M : Model} {pos : Pos} {es : List Expr} {xs : List Str} (hX : X.Ok) (hL : Lits es xs) : ∀ {s : Shared} {Q : List Value → Shared → Prop}, St X g mu L m s → (∀ vs s', IsLits xs vs → St X g mu L m s' → Q vs s') →
    wpAny M A (spliced (backTo pos (starEach es env))) Q E s := by
  induction hL with
  | nil => intro s Q S h; exact a_nil (h _ _ .nil S)
  | cons _ ih => intro s Q S h; exact a_str hX S fun t s₁ S => ih S fun vs s' hv S => h _ _ (.cons hv) S
theorem e_lits {pos : Pos} {es : List Expr} {xs : List Str} (hX : X.Ok) (S : St X g mu L m s) (hL : Lits es xs) (hz : xs.length ≤ 16777216)
    (h : ∀ vs b g' s', IsLits xs vs → gle g g' → g' b = some (lobj vs.toArray 0) → g b = none → X.n ≤ b → L < b → mu b = none → St X g' mu L m s' → Q (.ref b) s') :
    wpAny (model prog w) A (eval (.List es pos) env) Q E s :=
  e_list hX (a_lits hX hL S fun vs s' hv S => ⟨by rw [hv.len]; exact hz, _, _, _, _, S, fun b g' s' => h vs b g' s' hv⟩)
theorem parts_signs {pm cd doc : Value} {fa : Addr} {oS : Obj} (hX : X.Ok) (S : St X g mnone L m s) (hS : g (L + 1 + 1) = some oS) (hdS : oS.data = .cell none) {st : Stmt} {rest : List Stmt} (hst : bdy 9 = st :: rest) {Q : Flow → Shared → Prop}
    (h : ∀ (g2 : Stat) (oS' : Obj) (sg : Addr) (sv : List (List Nat × Tok)) s', (∀ b o, b ≠ L + 1 + 1 → g b = some o → g2 b = some o) → g2 (L + 1 + 1) = some oS' → oS'.data = .cell (some (.ref sg)) → g2 sg = some (lobj (svals sv) 0) → sv.map (·.1) = signs → St X g2 mnone L m s' → Q .next s') :
    wpAny (model prog w) A (exec st (envP pm cd doc L fa)) Q noE s := by
  obtain ⟨rfl, -⟩ := List.cons.inj hst
  refine wpAny_Assign_Name ?_ ?sw
  case sw => rfl
  refine e_lits hX S (.cons (.cons (.cons (.cons (.cons (.cons (.cons (.cons (.cons (.cons .nil)))))))))) (by simp) fun vs sg g1 s₂ hvs hg1 hsg hsgn hsX hsL hsm S => ?_
  have hsv : ∃ sv : List (List Nat × Tok), sv.map (·.1) = signs ∧ vs.toArray = svals sv := by
    cases hvs with | @cons _ t0 _ _ hvs => cases hvs with | @cons _ t1 _ _ hvs => cases hvs with | @cons _ t2 _ _ hvs => cases hvs with | @cons _ t3 _ _ hvs => cases hvs with | @cons _ t4 _ _ hvs =>
    cases hvs with | @cons _ t5 _ _ hvs => cases hvs with | @cons _ t6 _ _ hvs => cases hvs with | @cons _ t7 _ _ hvs => cases hvs with | @cons _ t8 _ _ hvs => cases hvs with | @cons _ t9 _ _ hvs => cases hvs with | nil =>
    exact ⟨[([45], t0), ([32], t1), ([47], t2), ([92], t3), ([58], t4), ([59], t5), ([34], t6), ([40], t7), ([41], t8), (unk, t9)], rfl, rfl⟩
  obtain ⟨sv, hsv1, hsv2⟩ := hsv
  rw [hsv2] at hsg
  have hne : sg ≠ L + 1 + 1 := fun e => by rw [e, hS] at hsgn; cases hsgn
  refine st_storeC (env := envP pm cd doc L fa) hX S (hg1 _ _ hS) hdS (fun oS' s₃ hd' S => ?_) envP_S rfl rfl
  refine h _ oS' sg sv s₃ (fun b o hb e => ?_) gadd_self hd' ?_ hsv1 S
  · unfold gadd; rw [if_neg hb]; exact hg1 _ _ e
  · unfold gadd; rw [if_neg hne]; exact hsg

theorem parts_picks {pm cd doc : Value} {fa : Addr} {oN oS : Obj} {z : Int} {tz : Tok} {sg : Addr} {sv : List (List Nat × Tok)} (hX : X.Ok) (hh : A.handled = none) (ht : 1 ≤ s.toks) (S : St X g mnone L m s) (hN : g (L + 1) = some oN) (hdN : oN.data = .cell (some (.int z tz)))
    (hS : g (L + 1 + 1) = some oS) (hdS : oS.data = .cell (some (.ref sg))) (hsg : g sg = some (lobj (svals sv) 0)) (hsv : sv.map (·.1) = signs) {s0 st : Stmt} {rest : List Stmt} (hst : bdy 9 = s0 :: st :: rest) {Q : Flow → Shared → Prop}
    (h : ∀ (D : Addr) (k : Nat) (pk : List (List Nat × Tok)) s', pk.length = 4 → (∀ p ∈ pk, p.1 ∈ signs) → g D = none → X.n ≤ D → 1 ≤ s'.toks → St X (gadd g D (lobj (svals pk) k)) mnone L (upd m "picks" (.ref D)) s' → Q .next s') :
    wpAny (model prog w) A (exec st (envP pm cd doc L fa)) Q noE s := by
  obtain ⟨rfl, -⟩ := List.cons.inj (List.cons.inj hst).2
  refine assign_comp hX ht (it_range1 hX S (by decide) (by decide) fun I s₂ S hgI hmI hIL hIX hIs hit => ?_) rfl rfl ?c1 rfl ?c2 rfl rfl rfl
  case c1 => intro z hz; revert z hz; decide
  case c2 => intro z hz; revert z hz; decide
  refine ⟨I, _, 4, _, _, rfl, Walks.range hh I 0 1 4, ?_, hIX, hIs, by decide, fun i g' ys => g' = g ∧ ∃ pk : List (List Nat × Tok), ys = svals pk ∧ pk.length = i ∧ ∀ p ∈ pk, p.1 ∈ signs, g, g, mnone, m, ?_, ?_, ⟨rfl, [], rfl, rfl, nofun⟩, S, hgI, hmI, hIL, ?_, ?_⟩
  · simpa using hit
  · rintro _ _ _ ⟨rfl, _⟩; exact gle.refl
  · intro b hb; rw [List.mem_singleton] at hb; exact .inl hb
  · rintro i v g' gI ys muD C mC s₃ hi ⟨rfl, pk, rfl, hl, hp⟩ ⟨tv, rfl⟩ hle ht₃ S
    have e10 : ((0 : Int) + (i : Nat) * 1) = (i : Int) := by omega
    rw [e10] at S
    have hpos : (0 : Int) < 10 ^ ((i : Int).toNat) := Int.pow_pos (by decide)
    have hb1 := Int.fmod_nonneg_of_pos (z.fdiv (10 ^ ((i : Int).toNat))) (show (0 : Int) < 10 by decide)
    have hb2 := Int.fmod_lt_of_pos (z.fdiv (10 ^ ((i : Int).toNat))) (show (0 : Int) < 10 by decide)
    have hsl : sv.length = 10 := by have := congrArg List.length hsv; simpa [signs] using this
    have hj : ((z.fdiv (10 ^ ((i : Int).toNat))).fmod 10).toNat < sv.length := by omega
    obtain ⟨q, hq⟩ : ∃ q, sv[((z.fdiv (10 ^ ((i : Int).toNat))).fmod 10).toNat]? = some q := ⟨_, List.getElem?_eq_getElem hj⟩
    have hqs : q.1 ∈ signs := by rw [← hsv]; exact List.mem_map.mpr ⟨q, List.mem_of_getElem? hq, rfl⟩
    refine Subscript_ (st_nameC S (hle _ _ hS) hdS ?_)
    refine wpAny_BinOp (wpAny_BinOp (st_nameC S (hle _ _ hN) hdN ?_))
    refine wpAny_BinOp (c_int hX S fun _ _ S => st_name S upd_same (b_pow hX S (by omega) (by omega) (by decide) fun _ _ S => ?_))
    refine b_div hX S (Int.ne_of_gt hpos) (.inl (PyProof.noPylong_small ?_)) fun _ _ S => c_int hX S fun _ _ S => b_mod hX S (by decide) fun _ _ S => i_sta S (hle _ _ hsg) hb1 (by omega) (svals_get hq) ?_
    · have hi' : i = 0 ∨ i = 1 ∨ i = 2 ∨ i = 3 := by omega
      rcases hi' with rfl | rfl | rfl | rfl <;> decide
    · exact ⟨g', gI, _, ⟨rfl, pk ++ [q], by simp [svals], by simp [hl], fun p hp' => by
        rcases List.mem_append.mp hp' with h | h
        · exact hp p h
        · rw [List.mem_singleton] at h; rw [h]; exact hqs⟩, hle, gle.refl, fun b o e => .inl e, S⟩
  · rintro D k g' ys s' ⟨rfl, pk, rfl, hl, hp⟩ hz hgD hXD ht' S
    exact h D k pk s' hl hp hgD hXD ht' S

theorem slice_upto {pk : List (List Nat × Tok)} (k : Nat) : slicePick (svals pk) none (some (k : Int)) none = svals (pk.take k) := by
  rw [slicePick_upto']; simp [svals, List.map_take]
theorem slice_from {pk : List (List Nat × Tok)} (k : Nat) : slicePick (svals pk) (some (k : Int)) none none = svals (pk.drop k) := by
  rw [slicePick_from']; simp [svals, List.map_drop]

theorem parts_ret {pm cd doc : Value} {fa : Addr} {oN : Obj} {z : Int} {tz : Tok} {D : Addr} {n : Nat} {pk : List (List Nat × Tok)} (hX : X.Ok) (S : St X g mnone L m s) (hN : g (L + 1) = some oN) (hdN : oN.data = .cell (some (.int z tz)))
    (hD : g D = some (lobj (svals pk) n)) (hm : m "picks" = some (.ref D)) (hl : pk.length = 4) (hp : ∀ p ∈ pk, p.1 ∈ signs) {s0 s1 st : Stmt} {rest : List Stmt} (hst : bdy 9 = s0 :: s1 :: st :: rest) {Q : Flow → Shared → Prop}
    (h : ∀ (b : Addr) (sv : List (List Nat × Tok)) g' s', IsLeaf (sv.map (·.1)) → gle g g' → g' b = some (lobj (svals sv) 0) → g b = none → X.n ≤ b → L < b → St X g' mnone L m s' → Q (.ret (.ref b)) s') :
    wpAny (model prog w) A (exec st (envP pm cd doc L fa)) Q noE s := by
  obtain ⟨rfl, -⟩ := List.cons.inj (List.cons.inj (List.cons.inj hst).2).2
  have hd0 : (0 : Int) ≤ ((if z.fdiv (10 ^ (4 : Int).toNat) < 0 then -(z.fdiv (10 ^ (4 : Int).toNat)) else z.fdiv (10 ^ (4 : Int).toNat)).fmod (10 ^ (30 : Int).toNat)) := Int.fmod_nonneg_of_pos _ (by decide)
  have hd1 : ((if z.fdiv (10 ^ (4 : Int).toNat) < 0 then -(z.fdiv (10 ^ (4 : Int).toNat)) else z.fdiv (10 ^ (4 : Int).toNat)).fmod (10 ^ (30 : Int).toNat)) < 10 ^ 30 := Int.fmod_lt_of_pos _ (by decide)
  refine wpAny_Return_some (wpAny_BinOp (wpAny_BinOp ?_))
  refine e_slice (a := D) (xs := svals pk) (n := n) (lo := none) (hi := some ((2 : Nat) : Int)) hX (st_name S hm ?_)
  rw [evalPart_some, evalPart_none]
  refine wpAny_pure (c_int hX S fun t2 s₂ S => ⟨g, mnone, L, m, rfl, .inl hD, by rw [svals_size]; omega, .none, .int 2 _, S, fun b1 g1 s₃ hg1 hb1 hb1n hb1X hb1L hb1m S => ?_⟩)
  rw [slice_upto] at hb1
  refine e_list hX (a_cons (e_type hX S.inv (by decide) (by boot_fast) (by decide) (a_cons (wpAny_BinOp (e_built1 hX S.inv (by decide) (by boot_fast) (by decide) ?_)))))
  refine wpAny_BinOp (st_nameC S (hg1 _ _ hN) hdN (wpAny_BinOp (c_int hX S fun _ _ S => c_int hX S fun _ _ S => b_pow hX S (by omega) (by omega) (by decide) fun _ _ S => ?_)))
  refine b_div hX S (by decide) (.inl (PyProof.noPylong_small (by decide))) fun _ _ S => call_abs_int fun _ _ => ?_
  refine wpAny_BinOp (c_int hX (S.toks hX) fun _ _ S => c_int hX S fun _ _ S => b_pow hX S (by omega) (by omega) (by decide) fun _ _ S => b_mod hX S (by decide) fun _ _ S => a_nil ?_)
  generalize ((if z.fdiv (10 ^ (4 : Int).toNat) < 0 then -(z.fdiv (10 ^ (4 : Int).toNat)) else z.fdiv (10 ^ (4 : Int).toNat)).fmod (10 ^ (30 : Int).toNat)) = dd at hd0 hd1 ⊢
  obtain ⟨hdig, hdl⟩ := digits_text hd0 (by omega)
  have hlog : dd.natAbs.log2 < 1920 := by
    have : dd.natAbs < 2 ^ 100 := Nat.lt_of_lt_of_le (m := 10 ^ 30) (by omega) (by decide)
    by_cases h0 : dd.natAbs = 0
    · rw [h0]; decide
    · have := (Nat.log2_lt h0).mpr this; omega
  refine PySem.P.str_of_int hlog (a_nil ⟨by simp, g1, mnone, L, m, S.toks hX, fun b2 g2 s₄ hg2 hb2 hb2n hb2X hb2L hb2m S => ?_⟩)
  have hb2' : g2 b2 = some (lobj (svals [((Str.ofString (toString dd)).cps.toList, _)]) 0) := hb2
  refine b_addL hX S (hg2 _ _ hb1) hb2' (by rw [svals_size, svals_size]; simp; omega) fun b3 g3 s₅ hg3 hb3 hb3n hb3X hb3L hb3m S => ?_
  refine e_slice (a := D) (xs := svals pk) (n := n) (lo := some ((2 : Nat) : Int)) (hi := none) hX (st_name S hm ?_)
  rw [evalPart_some, evalPart_none]
  refine c_int hX S fun t2 s₂ S => wpAny_pure ⟨g3, mnone, L, m, rfl, .inl (hg3 _ _ (hg2 _ _ (hg1 _ _ hD))), by rw [svals_size]; omega, .int 2 _, .none, S, fun b4 g4 s₆ hg4 hb4 hb4n hb4X hb4L hb4m S => ?_⟩
  rw [slice_from] at hb4
  rw [svals_app] at hb3
  refine b_addL hX S (hg4 _ _ hb3) hb4 (by rw [svals_size, svals_size]; simp; omega) fun b5 g5 s₇ hg5 hb5 hb5n hb5X hb5L hb5m S => ?_
  rw [svals_app] at hb5
  refine h b5 _ g5 s₇ ?_ (((hg1.trans hg2).trans (hg3.trans hg4)).trans hg5) hb5 ?_ hb5X hb5L S
  · match pk, hl, hp with
    | [p0, p1, p2, p3], _, hp =>
      exact ⟨p0.1, p1.1, (Str.ofString (toString dd)).cps.toList, p2.1, p3.1, rfl, hp _ (by simp), hp _ (by simp), hp _ (by simp), hp _ (by simp), hdig, hdl⟩
  · cases q : g b5 with
    | none => rfl
    | some o => rw [hg4 _ _ (hg3 _ _ (hg2 _ _ (hg1 _ _ q)))] at hb5n; cases hb5n

theorem parts_body {pm cd doc : Value} {fa : Addr} {oN oS : Obj} {z : Int} {tz : Tok} {tree : Sem Flow} (htree : execs (bdy 9) (envP pm cd doc L fa) = tree) (hX : X.Ok) (hh : A.handled = none) (ht : 1 ≤ s.toks) (S : St X g mnone L m s) (hN : g (L + 1) = some oN) (hdN : oN.data = .cell (some (.int z tz)))
    (hS : g (L + 1 + 1) = some oS) (hdS : oS.data = .cell none) {Q : Flow → Shared → Prop}
    (h : ∀ (b : Addr) (sv : List (List Nat × Tok)) g' m' s', IsLeaf (sv.map (·.1)) → (∀ b o, b ≠ L + 1 + 1 → g b = some o → g' b = some o) → g' b = some (lobj (svals sv) 0) → (b ≠ L + 1 + 1 → g b = none) → b ≠ L + 1 + 1 → X.n ≤ b → L < b → St X g' mnone L m' s' → Q (.ret (.ref b)) s') :
    wpAny (model prog w) A tree Q noE s := by
  subst htree
  have hNS : L + 1 ≠ L + 1 + 1 := Nat.ne_of_lt (Nat.lt_succ_self _)
  generalize hb9 : bdy 9 = body
  match body, hb9 with
  | [], hb9 => cases hb9
  | s0 :: r0, hb9 =>
    refine wpAny_execs_cons (wpAny_mono (wpAny_toks_of ht (parts_signs hX S hS hdS hb9 (Q := fun f s' => f = .next ∧ ∃ (g2 : Stat) (oS' : Obj) (sg : Addr) (sv : List (List Nat × Tok)), (∀ b o, b ≠ L + 1 + 1 → g b = some o → g2 b = some o) ∧ g2 (L + 1 + 1) = some oS' ∧ oS'.data = .cell (some (.ref sg)) ∧ g2 sg = some (lobj (svals sv) 0) ∧ sv.map (·.1) = signs ∧ St X g2 mnone L m s')
      fun g2 oS' sg sv s' h1 h2 h3 h4 h5 h6 => ⟨rfl, g2, oS', sg, sv, h1, h2, h3, h4, h5, h6⟩)) ?_ fun _ _ x => x.2)
    rintro f s₂ ⟨ht₂, rfl, g2, oS', sg, sv, h1, h2, h3, h4, h5, S⟩
    match r0, hb9 with
    | [], hb9 => cases hb9
    | s1 :: r1, hb9 =>
      refine wpAny_execs_cons (wpAny_mono (parts_picks hX hh ht₂ S (h1 _ _ hNS hN) hdN h2 h3 h4 h5 hb9 (Q := fun f s' => f = .next ∧ ∃ (D : Addr) (k : Nat) (pk : List (List Nat × Tok)), pk.length = 4 ∧ (∀ p ∈ pk, p.1 ∈ signs) ∧ g2 D = none ∧ St X (gadd g2 D (lobj (svals pk) k)) mnone L (upd m "picks" (.ref D)) s')
        fun D k pk s' i1 i2 i3 _ _ i6 => ⟨rfl, D, k, pk, i1, i2, i3, i6⟩) ?_ fun _ _ x => x)
      rintro f s₃ ⟨rfl, D, k, pk, i1, i2, i3, S⟩
      match r1, hb9 with
      | [], hb9 => cases hb9
      | s2 :: r2, hb9 =>
        refine wpAny_execs_cons (parts_ret hX S (gadd_le i3 _ _ (h1 _ _ hNS hN)) hdN gadd_self upd_same i1 i2 hb9 fun b sv g' s' j1 j2 j3 j4 j5 j6 S => ?_)
        have hbS : b ≠ L + 1 + 1 := fun e => by rw [e, gadd_le i3 _ _ h2] at j4; cases j4
        refine h b sv g' _ s' j1 (fun b o hb e => j2 _ _ (gadd_le i3 _ _ (h1 _ _ hb e))) j3 (fun hb => ?_) hbS j5 j6 S
        cases q : g b with
        | none => rfl
        | some o => rw [gadd_le i3 _ _ (h1 _ _ hb q)] at j4; cases j4

end
end Mine
end
section
open PySem PySem.W PyProof.Rows
set_option maxRecDepth 100000
namespace Mine
open PySem.SeqAt PySem.MeetsSeq PySem.MeetsSeq2 PySem.MeetsSeq3
open PySem.AutoSeq1 (wpAny_loadPart')
section
variable {prog : Program} {w : World} {A : Around} {s : Shared} {R : Result → Shared → Prop} {a b : Addr} {xs ys : Array Value} {n k : Nat} {X : Cx} {E : Value → Shared → Prop} {g : Stat} {mu : Mut} {L : Addr} {m : Loc} {env : Env}

theorem lt_call (ha : s.heap.get? a = some (lobj xs n)) (hb : s.heap.get? b = some (lobj ys k)) {Q : Value → Shared → Prop}
    (h : codeAny (model prog w) A (.builtin "list.__eq__.loop" ⟨[.ref a, .ref b, rawInt ((0 : Nat) : Int), rawInt 0], []⟩) (fun r s' => ∃ c, r = .ok (.ret (.bool c)) ∧ Q (.bool c) s') s) :
    wpAny (model prog w) A (call (.builtin "list.__lt__") [.ref a, .ref b]) Q E s := by
  have ha1 : s.TypeIs (.ref a) "list" := ⟨_, ha, rfl⟩
  refine wpAny_call (codeAny_call_builtin F.slot_list_lt.plain F.entry_list_lt (F.slot_list_lt.check _ _ _ _ _ _ _ _ ha1 (F.args_list_lt_2 _ _) ?_))
  obtain ⟨hp, g, d, tk, os⟩ := s
  have f3 := AutoSeq1.sub_list_list
  have ha' : hp.get? a = some { cls := .type "list", dict := none, data := .seq xs n, slots := #[] } := ha
  have hb' : hp.get? b = some { cls := .type "list", dict := none, data := .seq ys k, slots := #[] } := hb
  wp_walk using wpAny_loadPart' ha', wpAny_loadPart' hb'
  refine ⟨plainId_quiet plain_eq_loop _, codeAny_mono h ?_⟩
  rintro r s' ⟨c, rfl, hq⟩
  exact hq

theorem key_lt4 {l m l' m' : Int} {x x' : Str} {v v' : Value} {t1 t2 t3 u1 u2 u3 : Tok} {Q : Bool → Shared → Prop}
    (ha : s.heap.get? a = some (lobj #[.int l t1, .int m t2, .str x t3, v] n)) (hb : s.heap.get? b = some (lobj #[.int l' u1, .int m' u2, .str x' u3, v'] k))
    (hm : m ≠ m') (hu : A.units < cLine) (h : Q (decide (klt (l, m) (l', m'))) s) : wpAny (model prog w) A (keyLt' oneType' (.ref a) (.ref b)) Q E s := by
  rw [keyLt'_oneType, oneLt'_eq]
  simp only [if_true]
  refine wpAny_bind (wpAny_cRoomFor hu ?_)
  refine wpAny_bind (wpAny_callSpecialIfBound?_slot ⟨_, ha, rfl⟩ F.slot_list_lt (lt_call ha hb ?_))
  have fin : ∀ r : Bool, r = decide (klt (l, m) (l', m')) → wpAny (model prog w) A (truthOfDropped (.bool r)) Q E s := fun r e => wpAny_truthy_bool (e ▸ h)
  have lti : ∀ (p q : Int) (t u : Tok) (Q : Value → Shared → Prop) (E : Value → Shared → Prop), Q (.bool (decide (p < q))) s → wpAny (model prog w) A.in1 (richCompare .Lt (.int p t) (.int q u)) Q E s :=
    fun p q t u Q E hq => PyProof.Rows.lt_int hq
  by_cases hl : l = l'
  · refine lt_step ha hb rfl rfl (by have := EqAt.int_int (A := A.in1) (s := s) l t1 l' u1; rwa [beq_iff_eq.mpr hl] at this) ?_
    refine lt_stop (r := decide (m < m')) ha hb rfl rfl (by have := EqAt.int_int (A := A.in1) (s := s) m t2 m' u2; rwa [beq_eq_false_iff_ne.mpr hm] at this) (fun Q E hq => lti _ _ _ _ _ _ hq) ⟨_, rfl, ?_⟩
    exact fin _ (by congr 1; apply propext; unfold klt; dsimp only; omega)
  · refine lt_stop (r := decide (l < l')) ha hb rfl rfl (by have := EqAt.int_int (A := A.in1) (s := s) l t1 l' u1; rwa [beq_eq_false_iff_ne.mpr hl] at this) (fun Q E hq => lti _ _ _ _ _ _ hq) ⟨_, rfl, ?_⟩
    exact fin _ (by congr 1; apply propext; unfold klt; dsimp only; omega)

/-- a row of the law's -/
def RowAt (tr : Addr → Int × Int × Str × Addr) (h : Heap) (b : Addr) : Prop := ∃ n t1 t2 t3, h.get? b = some (lobj #[.int (tr b).1 t1, .int (tr b).2.1 t2, .str (tr b).2.2.1 t3, .ref (tr b).2.2.2] n)
def rkey (tr : Addr → Int × Int × Str × Addr) (b : Addr) : Int × Int := ((tr b).1, (tr b).2.1)

def h00 : Heap := default
theorem h00_none (b : Addr) : h00.get? b = none := Heap.get?_none_of_le (Nat.zero_le b)
/-- every object but the frame's -/
def newsOf (h : Heap) (L : Addr) : List (Addr × Obj) := (List.range h.objs.size).filterMap fun b => if b = L then none else (h.get? b).map fun o => (b, o)
theorem newsOf_mem {h : Heap} {L b : Addr} {o : Obj} (hb : b ≠ L) (e : h.get? b = some o) : (b, o) ∈ newsOf h L :=
  List.mem_filterMap.mpr ⟨b, List.mem_range.mpr (Heap.lt_size e), by rw [if_neg hb, e]; rfl⟩
theorem newsOf_ok (h : Heap) (L : Addr) : News h00 L h (newsOf h L) := fun p hp => by
  obtain ⟨b, _, e⟩ := List.mem_filterMap.mp hp
  split at e
  · cases e
  · rename_i hb
    obtain ⟨o, ho, rfl⟩ := Option.map_eq_some_iff.mp e
    exact ⟨ho, hb, h00_none _⟩

/-- the state where all but the frame is as it was -/
theorem St.others (hX : X.Ok) (S : St X g mu L m s) {h' : Heap} {tk : Nat} (hn : h'.Ns L m) (hk : ∀ b o, b ≠ L → s.heap.get? b = some o → h'.get? b = some o) : St X g mu L m { s with heap := h', toks := tk } := by
  have hne : ∀ b, b < X.n → b ≠ L := fun b hb => Nat.ne_of_lt (Nat.lt_of_lt_of_le hb S.low)
  refine ⟨S.inv.mono hX (fun b o hb e => hk b o (hne b hb) e) rfl S.inv.gens (Nat.le_trans S.low (Nat.le_of_lt hn.lt)), hn, S.low, fun b o e => hk b o (fun h => by rw [h, S.gout] at e; cases e) (S.keep b o e), S.gnew, S.gout, fun a xs e => ?_⟩
  obtain ⟨⟨n, h1⟩, r⟩ := S.mus a xs e
  exact ⟨⟨n, hk _ _ r.2.1 h1⟩, r⟩

/-- sorted(rows) -/
theorem sorted_rows {l : Addr} {rs : List Addr} {tr : Addr → Int × Int × Str × Addr} {Q : Value → Shared → Prop} (hX : X.Ok) (S : St X g mu L m s) (hl : s.heap.IsList l (refs rs)) (h2 : 2 ≤ rs.length) (h60 : rs.length < 60)
    (hrow : ∀ b ∈ rs, b ≠ L ∧ X.n ≤ b ∧ RowAt tr s.heap b) (hnd : (rs.map fun b => (tr b).2.1).Nodup) (hu : A.units + 10 < cLine)
    (h : ∀ D c g' rs' s', gle g g' → g' D = some (lobj (refs rs') c) → g D = none → X.n ≤ D → D ≠ L → mu D = none → rs'.Perm rs → rs'.Pairwise (fun x y => kle (rkey tr x) (rkey tr y)) → St X g' mu L m s' → s'.toks = s.toks → Q (.ref D) s') :
    wpAny (model prog w) A (call (.builtin "sorted") [.ref l]) Q E s := by
  have hlen : (rs.map Value.ref).length = rs.length := List.length_map ..
  have hF : Fr h00 L s.heap m := ⟨S.ns, (fun b o e => by rw [h00_none] at e; cases e), Nat.zero_le _⟩
  refine kas_sorted (T := .type "list") (vs := rs.map Value.ref) hF (newsOf_ok s.heap L) hl (by omega) (by omega) (fun h' F' N' v hv => ?_) (by decide) fun D e1 h' F' N' hD => ?_
  · obtain ⟨b, hb, rfl⟩ := List.mem_map.mp hv
    obtain ⟨hbL, _, n, t1, t2, t3, e⟩ := hrow b hb
    have e' := (N' _ (newsOf_mem hbL e)).1
    intro A' Q' E' s' hk hq
    exact wpAny_typeOf (T := "list") ⟨_, hk _ _ e', rfl⟩ hq
  · have old : ∀ b o, b ≠ L → s.heap.get? b = some o → h'.get? b = some o := fun b o hb e => (N' _ (List.mem_cons_of_mem _ (newsOf_mem hb e))).1
    rw [hlen]
    have hget : ∀ i, i < rs.length → (rs.map Value.ref).getD i Value.none = .ref (rs.getD i 0) := fun i hi => by
      rw [List.getD_eq_getElem?_getD, List.getD_eq_getElem?_getD, List.getElem?_map, List.getElem?_eq_getElem hi]; rfl
    have hmem : ∀ i, i < rs.length → rs.getD i 0 ∈ rs := fun i hi => by
      rw [List.getD_eq_getElem?_getD, List.getElem?_eq_getElem hi]; exact List.getElem_mem hi
    have hdist : ∀ i j, i < rs.length → j < rs.length → (tr (rs.getD i 0)).2.1 = (tr (rs.getD j 0)).2.1 → i = j := fun i j hi hj e => by
      have hw := List.pairwise_iff_getElem.mp hnd
      have e1 : ∀ q (hq : q < rs.length), rs.getD q 0 = rs[q] := fun q hq => by rw [List.getD_eq_getElem?_getD, List.getElem?_eq_getElem hq]; rfl
      rw [e1 i hi, e1 j hj] at e
      rcases Nat.lt_trichotomy i j with h1 | h1 | h1
      · have q := hw i j (by simpa using hi) (by simpa using hj) h1
        rw [List.getElem_map, List.getElem_map] at q
        exact absurd e q
      · exact h1
      · have q := hw j i (by simpa using hj) (by simpa using hi) h1
        rw [List.getElem_map, List.getElem_map] at q
        exact absurd e.symm q
    refine sort_wp (N := rs.length) (r := fun i => rkey tr (rs.getD i 0)) ⟨fun i j hi hj e => hdist i j hi hj (congrArg Prod.snd e)⟩ (fun i j K hi hj hij hK => ?_) (by omega) fun p hp ha => ?_
    · unfold kas_ask
      rw [hget i hi, hget j hj]
      obtain ⟨hbL, _, n, t1, t2, t3, e⟩ := hrow _ (hmem i hi)
      obtain ⟨hbL', _, n', t1', t2', t3', e'⟩ := hrow _ (hmem j hj)
      exact key_lt4 (old _ _ hbL e) (old _ _ hbL' e') (fun q => hij (hdist i j hi hj q)) (by show A.units + 1 + 1 < cLine; omega) hK
    · have hDs : D ∉ (newsOf s.heap L).map (·.1) := fun hm => by
        obtain ⟨q, hq, e⟩ := List.mem_map.mp hm
        have := hD q hq
        rw [e] at this; exact absurd this (Nat.lt_irrefl _)
      have hDL : D ≠ L := (N' _ List.mem_cons_self).2.1
      have nD : ∀ o, s.heap.get? D ≠ some o := fun o e => hDs (List.mem_map.mpr ⟨_, newsOf_mem hDL e, rfl⟩)
      have gD : g D = none := by
        cases q : g D with
        | none => rfl
        | some o => exact absurd (S.keep _ _ q) (nD o)
      have mD : mu D = none := by
        cases q : mu D with
        | none => rfl
        | some o => obtain ⟨⟨n, e⟩, _⟩ := S.mus _ _ q; exact absurd e (nD _)
      refine KasFin.intro F' N' (.head fun q hq e => hDs (List.mem_map.mpr ⟨q, hq, e⟩)) fun h'' c F'' N'' => ?_
      have S' : St X g mu L m { s with heap := h'', toks := s.toks } := S.others hX F''.ns fun b o hb e => (N'' _ (List.mem_cons_of_mem _ (newsOf_mem hb e))).1
      have hXD : X.n ≤ D := by
        obtain ⟨hbL, hbn, n, t1, t2, t3, e⟩ := hrow _ (hmem 0 (by omega))
        exact Nat.le_trans hbn (Nat.le_of_lt (hD _ (newsOf_mem hbL e)))
      have hdo := (N'' _ List.mem_cons_self).1
      have hL : D ≠ L := hDL
      have hout : (p.toList.map fun i => (rs.map Value.ref).getD i Value.none) = (p.toList.map fun i => rs.getD i 0).map Value.ref := by
        rw [List.map_map]
        refine List.map_congr_left fun i hi => ?_
        exact hget i (List.mem_range.mp (hp.mem_iff.mp hi))
      rw [hout] at hdo
      refine h D c (gadd g D _) (p.toList.map fun i => rs.getD i 0) _ (gadd_le gD) gadd_self gD hXD hL mD ?_ ?_ (S'.addG hdo hXD hL mD) rfl
      · have := hp.map (fun i => rs.getD i 0)
        refine this.trans (List.Perm.of_eq ?_)
        apply List.ext_getElem?
        intro i
        by_cases hi : i < rs.length
        · rw [List.getElem?_map, List.getElem?_range hi, List.getElem?_eq_getElem hi]
          simp [List.getD_eq_getElem?_getD, List.getElem?_eq_getElem hi]
        · rw [List.getElem?_eq_none (by simpa using Nat.le_of_not_lt hi), List.getElem?_eq_none (Nat.le_of_not_lt hi)]
      · rw [List.pairwise_map, List.pairwise_iff_getElem]
        intro i j hi hj hij
        have hi' : i < p.size := by simpa using hi
        have hj' : j < p.size := by simpa using hj
        have := ha i j (Nat.le_of_lt hij) (hp.size ▸ hj')
        rw [getD_at hi', getD_at hj'] at this
        exact this
end
end Mine
end
section
open PySem PySem.W PyProof.Rows
set_option autoImplicit false
set_option maxRecDepth 100000
namespace Mine
-- facts on the class filter, after the kit's facts on other classes
theorem owner_filter : Manifest.owners.lookup (String.ofList ['r', 'e', 't', 'l', 'i', 'f'].reverse) = some Manifest.sig_filter := by kernel_rfl
theorem slot_filter_next : Slot "filter" "__next__" "filter.__next__" :=
  .of (owner := "filter") (n := "__next__") (by rw [typeLookup_type, builtinLookup_eq_fast]; kernel_rfl) (by decide +kernel) (by decide +kernel) (by decide +kernel)
    (by first | exact .inl (by decide +kernel) | exact .inr (by decide +kernel)) (by rw [isSubtype_type]; kernel_rfl)
theorem slot_filter_iter : Slot "filter" "__iter__" "filter.__iter__" :=
  .of (owner := "filter") (n := "__iter__") (by rw [typeLookup_type, builtinLookup_eq_fast]; kernel_rfl) (by decide +kernel) (by decide +kernel) (by decide +kernel)
    (by first | exact .inl (by decide +kernel) | exact .inr (by decide +kernel)) (by rw [isSubtype_type]; kernel_rfl)
theorem slot_filter_init : Slot "filter" "__init__" "object.__init__" :=
  .of (owner := "object") (n := "__init__") (by rw [typeLookup_type, builtinLookup_eq_fast]; kernel_rfl) (by decide +kernel) (by decide +kernel) (by decide +kernel)
    (by first | exact .inl (by decide +kernel) | exact .inr (by decide +kernel)) (by rw [isSubtype_type]; kernel_rfl)
theorem entry_filter_next : entryFor table "filter.__next__" = some Builtin.«filter.__next__» := entryFor_of_tree (by kernel_rfl)
theorem entry_filter_iter : entryFor table "filter.__iter__" = some Builtin.«dict_keyiterator.__iter__» :=
  entryFor_alias (id' := "dict_keyiterator.__iter__") (by kernel_rfl) (by first | rfl | decide +kernel | (unfold String.splitOn; simp +decide [String.splitOnAux])) (by decide +kernel) (by kernel_rfl)
theorem args_filter_next_1 (a : Value) : argsOk "filter.__next__" ⟨[a], []⟩ := by
  unfold argsOk; rw [signature?_of (id := "filter.__next__") (n := ['_', '_', 't', 'x', 'e', 'n', '_', '_']) (o := ['r', 'e', 't', 'l', 'i', 'f']) (by kernel_rfl) owner_filter]; kernel_rfl
theorem args_filter_iter_1 (a : Value) : argsOk "filter.__iter__" ⟨[a], []⟩ := by
  unfold argsOk; rw [signature?_of (id := "filter.__iter__") (n := ['_', '_', 'r', 'e', 't', 'i', '_', '_']) (o := ['r', 'e', 't', 'l', 'i', 'f']) (by kernel_rfl) owner_filter]; kernel_rfl
theorem mro_filter : mroOf (.type "filter") = pure [.type "filter", .type "object"] := by rw [mroOf_type]; kernel_rfl
theorem lookup_filter_new : typeLookup (.type "filter") "__new__" = pure (some (.builtin "filter.__new__")) := by rw [typeLookup_type, builtinLookup_eq_fast]; kernel_rfl
theorem called_filter : TypeCalled "filter" "filter.__new__" "object.__init__" :=
  ⟨by decide +kernel, by decide +kernel, ⟨_, _, mro_filter⟩, madeBy_type mro_filter lookup_filter_new (by decide +kernel), by decide +kernel, by rw [isSubtype_type]; kernel_rfl, slot_filter_init⟩
theorem typeCall_filter_2 (a b : Value) : checkTypeCall "filter" ⟨[a, b], []⟩ = pure () := by kernel_rfl
theorem newCall_filter_2 (a b : Value) : checkBuiltinCall "filter.__new__" ⟨[.type "filter", a, b], []⟩ = pure () := by kernel_rfl
theorem entry_filter_new : entryFor table "filter.__new__" = some Builtin.«filter.__new__» := entryFor_of_tree (by kernel_rfl)
theorem sub_filter : isSubtype (.type "filter") (.type "filter") = pure true := by rw [isSubtype_type]; kernel_rfl
theorem plain_filter_next : plainId "filter.__next__" = true := by decide +kernel

section
variable {prog : Program} {w : World} {A : Around} {E : Value → Shared → Prop} {s : Shared}
def tvals (as : List (Str × Tok)) : Array Value := (as.map fun p => Value.str p.1 p.2).toArray
theorem tvals_get {as : List (Str × Tok)} {i : Nat} : (tvals as)[i]? = (as[i]?).map fun p => Value.str p.1 p.2 := by simp [tvals]
def ne0 (p : Str × Tok) : Bool := p.1.length != 0

theorem cs_tuple_item {it t : Addr} {i : Nat} {items : Array Value} {x : Value} {Q : Option Value → Shared → Prop} (hit : s.heap.IsTupleIter it t i) (ht : s.heap.IsTuple t items) (hx : items[i]? = some x)
    (hQ : ∀ h', h'.IsTupleIter it t (i + 1) → Heap.SameBut it s.heap h' → Q (some x) { s with heap := h' }) :
    wpAny (model prog w) A (callSpecial? (.ref it) "__next__") Q E s := by
  obtain ⟨o, ho, hc, hd⟩ := id hit
  obtain ⟨ol, hol, _, nl, hdl⟩ := ht
  refine wpAny_callSpecial?_slot (name := Str.ofString "__next__") hit.typeIs F.slot_tuple_iterator_next
    (wpAny_call_entry F.slot_tuple_iterator_next hit.typeIs F.entry_tuple_iterator_next ?_ (F.args_tuple_iterator_next_1 _))
  show wpAny _ _ (field (.ref it) 0 >>= _) _ _ s
  refine wpAny_bind (wpAny_field ho hd (x := .ref t) rfl ?_)
  show wpAny _ _ (if (Value.ref t == Value.none) = true then _ else _) _ _ s
  rw [if_neg (show ¬ ((Value.ref t == Value.none) = true) from Bool.false_ne_true)]
  show wpAny _ _ (field (.ref it) 1 >>= _) _ _ s
  refine wpAny_bind (wpAny_field ho hd (x := .int i 0) rfl ?_)
  show wpAny _ _ (seqItems? (.ref t) >>= _) _ _ s
  refine wpAny_bind (wpAny_seqItems hol hdl ?_)
  simp only [Int.toNat_natCast, hx]
  refine wpAny_bind (wpAny_setField ho hd (by simp) (wpAny_pure ⟨x, rfl, (hQ _ ?_ (Heap.SameBut.update ..))⟩))
  exact ⟨_, Heap.get?_update_self _ ho (Obj.isFreed_of_fields (Obj.data_mapFields hd _)), (Obj.cls_mapFields ..).trans hc, by
    rw [Obj.data_mapFields hd]; simp [rawInt]⟩
theorem cs_tuple_end {it t : Addr} {i : Nat} {items : Array Value} {Q : Option Value → Shared → Prop} (hh : A.handled = none) (hit : s.heap.IsTupleIter it t i) (ht : s.heap.IsTuple t items) (hx : items[i]? = none)
    (hE : ∀ h' e, Heap.ExtBut it s.heap h' → (∃ o, h'.get? e = some o ∧ o.cls = .type "StopIteration") → E (.ref e) { s with heap := h' }) :
    wpAny (model prog w) A (callSpecial? (.ref it) "__next__") Q E s := by
  obtain ⟨o, ho, hc, hd⟩ := id hit
  obtain ⟨ol, hol, _, nl, hdl⟩ := ht
  refine wpAny_callSpecial?_slot (name := Str.ofString "__next__") hit.typeIs F.slot_tuple_iterator_next
    (wpAny_call_entry F.slot_tuple_iterator_next hit.typeIs F.entry_tuple_iterator_next ?_ (F.args_tuple_iterator_next_1 _))
  show wpAny _ _ (field (.ref it) 0 >>= _) _ _ s
  refine wpAny_bind (wpAny_field ho hd (x := .ref t) rfl ?_)
  show wpAny _ _ (if (Value.ref t == Value.none) = true then _ else _) _ _ s
  rw [if_neg (show ¬ ((Value.ref t == Value.none) = true) from Bool.false_ne_true)]
  show wpAny _ _ (field (.ref it) 1 >>= _) _ _ s
  refine wpAny_bind (wpAny_field ho hd (x := .int i 0) rfl ?_)
  show wpAny _ _ (seqItems? (.ref t) >>= _) _ _ s
  refine wpAny_bind (wpAny_seqItems hol hdl ?_)
  simp only [Int.toNat_natCast, hx]
  refine wpAny_bind (wpAny_rule (wpAny_bind (wpAny_setField ho hd (by simp) ?_)))
  show wpAny _ _ (newExc (.type "StopIteration") [] >>= _) _ _ _
  refine wpAny_bind ?_
  simp only [newExc, newTuple]
  refine wpAny_bind (wpAny_newObj_type ?_ (by size_fits))
  refine wpAny_bind (m := firstArgMember _ _) (wpAny_of_eq (a := Value.none) (by first | rfl | (simp only [firstArgMember]; rfl)) ?_)
  refine wpAny_newObj_type ?_ (by size_fits)
  simp only [raiseNew]
  refine wpAny_bind (wpAny_handled ?_)
  first | rw [show A.in1.handled = none from hh] | rw [hh]
  refine wpAny_bind (wpAny_pure (wpAny_throw ?_))
  exact hE _ _ (((Heap.SameBut.update ..).extBut.push _).push _) ⟨_, Heap.get?_push_size _ rfl, rfl⟩

def IsFilter (h : Heap) (f it : Addr) : Prop := h.get? f = some { cls := .type "filter", data := .fields #[.builtin "len", .ref it] }
structure FSt (f it t : Addr) (as : List (Str × Tok)) (j : Nat) (h : Heap) : Prop where
  f : IsFilter h f it
  it : h.IsTupleIter it t j
  t : h.IsTuple t (tvals as)

end
end Mine
end
section
open PySem PySem.W PyProof.Rows
set_option autoImplicit false
set_option maxRecDepth 100000
namespace Mine
section
variable {prog : Program} {w : World} {A : Around} {E : Value → Shared → Prop} {s : Shared}
theorem filter_body {f it t : Addr} {as : List (Str × Tok)} {R : Result → Shared → Prop} (hh : A.handled = none) (hfi : f ≠ it) (hti : t ≠ it) (hz : ∀ p ∈ as, p.1.length ≤ 1000000) : ∀ (n j : Nat) (s : Shared), as.length - j = n → FSt f it t as j s.heap →
    (∀ p ps j' h' tk, (as.drop j).filter ne0 = p :: ps → (as.drop j').filter ne0 = ps → FSt f it t as j' h' → Heap.SameBut it s.heap h' → R (.ok (.ret (.str p.1 p.2))) { s with heap := h', toks := tk }) →
    (∀ h' e tk, (as.drop j).filter ne0 = [] → Heap.ExtBut it s.heap h' → (∃ o, h'.get? e = some o ∧ o.cls = .type "StopIteration") → R (.error (.ref e)) { s with heap := h', toks := tk }) →
    wpAny (model prog w) A.in1 (Builtin.«filter.__next__» ⟨[.ref f], []⟩) (fun fin s' => match fin with | .done f => R (.ok f) s' | .again c' => c'.quiet = true ∧ codeAny (model prog w) A c' R s') (fun e s' => R (.error e) s') s := by
  intro n
  induction n with
  | zero =>
    intro j s hn S hi he
    have hj : as.length ≤ j := by omega
    show wpAny _ _ (field (.ref f) 0 >>= _) _ _ s
    refine wpAny_bind (wpAny_field S.f rfl (x := .builtin "len") rfl ?_)
    show wpAny _ _ (field (.ref f) 1 >>= _) _ _ s
    refine wpAny_bind (wpAny_field S.f rfl (x := .ref it) rfl ?_)
    refine wpAny_bind (cs_tuple_end hh S.it S.t (by rw [tvals_get, List.getElem?_eq_none hj]; rfl) fun h' e k1 k2 => he h' e s.toks (by rw [List.drop_eq_nil_of_le hj]; rfl) k1 k2)
  | succ n ih =>
    intro j s hn S hi he
    have hj : j < as.length := by omega
    have hx : (tvals as)[j]? = some (.str as[j].1 as[j].2) := by rw [tvals_get, List.getElem?_eq_getElem hj]; rfl
    have hdr : as.drop j = as[j] :: as.drop (j + 1) := List.drop_eq_getElem_cons hj
    have hl := hz _ (List.getElem_mem hj)
    show wpAny _ _ (field (.ref f) 0 >>= _) _ _ s
    refine wpAny_bind (wpAny_field S.f rfl (x := .builtin "len") rfl ?_)
    show wpAny _ _ (field (.ref f) 1 >>= _) _ _ s
    refine wpAny_bind (wpAny_field S.f rfl (x := .ref it) rfl ?_)
    refine wpAny_bind (cs_tuple_item S.it S.t hx fun h' hit' hs' => ?_)
    have S' : FSt f it t as (j + 1) h' := ⟨(hs'.2 f hfi).trans S.f, hit', S.t.extBut hs'.extBut hti⟩
    refine wpAny_bind (wpAny_holding ?_)
    show wpAny _ _ (call (.builtin "len") [.str as[j].1 as[j].2] >>= _) _ _ _
    refine wpAny_bind (PySem.P.len_str (by omega) (wpAny_holding (PyProof.Rows.truthy_int ?_)))
    by_cases h0 : as[j].1.length = 0
    · have hb : (((as[j].1.length : Nat) : Int) != 0) = false := by rw [h0]; rfl
      rw [hb]
      have hd' : (as.drop j).filter ne0 = (as.drop (j + 1)).filter ne0 := by
        rw [hdr, List.filter_cons_of_neg]; simp [ne0, h0]
      refine wpAny_pure ⟨plainId_quiet plain_filter_next _, codeAny_builtin entry_filter_next ?_⟩
      rw [Around.under_plainId plain_filter_next _]
      refine ih (j + 1) _ (by omega) S' (fun p ps j' h'' tk a b c d => hi p ps j' h'' tk (hd'.trans a) b c (hs'.trans d)) fun h'' e tk a b c => he h'' e tk (hd'.trans a) (hs'.extBut.trans b) c
    · have hb : (((as[j].1.length : Nat) : Int) != 0) = true := by
        rw [bne_iff_ne]; omega
      rw [hb]
      exact wpAny_pure (hi _ _ (j + 1) h' _ (by rw [hdr, List.filter_cons_of_pos]; simp [ne0, h0]) rfl S' hs')

theorem filter_call {f it t : Addr} {as : List (Str × Tok)} {j : Nat} {R : Result → Shared → Prop} (hh : A.handled = none) (hfi : f ≠ it) (hti : t ≠ it) (hz : ∀ p ∈ as, p.1.length ≤ 1000000) (S : FSt f it t as j s.heap)
    (hi : ∀ p ps j' h' tk, (as.drop j).filter ne0 = p :: ps → (as.drop j').filter ne0 = ps → FSt f it t as j' h' → Heap.SameBut it s.heap h' → R (.ok (.ret (.str p.1 p.2))) { s with heap := h', toks := tk })
    (he : ∀ h' e tk, (as.drop j).filter ne0 = [] → Heap.ExtBut it s.heap h' → (∃ o, h'.get? e = some o ∧ o.cls = .type "StopIteration") → R (.error (.ref e)) { s with heap := h', toks := tk }) :
    codeAny (model prog w) A (.call (.builtin "filter.__next__") ⟨[.ref f], []⟩) R s :=
  codeAny_call_builtin (R := R) slot_filter_next.plain entry_filter_next (slot_filter_next.check _ _ _ _ _ _ _ _ ⟨_, S.f, rfl⟩ (args_filter_next_1 _) (filter_body (R := R) hh hfi hti hz _ j s rfl S hi he))

theorem filter_next {f it t : Addr} {as : List (Str × Tok)} {j : Nat} {Q : Option Value → Shared → Prop} (hh : A.handled = none) (hfi : f ≠ it) (hti : t ≠ it) (hz : ∀ p ∈ as, p.1.length ≤ 1000000) (S : FSt f it t as j s.heap)
    (hi : ∀ p ps j' h' tk, (as.drop j).filter ne0 = p :: ps → (as.drop j').filter ne0 = ps → FSt f it t as j' h' → Heap.SameBut it s.heap h' → Q (some (.str p.1 p.2)) { s with heap := h', toks := tk })
    (he : ∀ h' tk, (as.drop j).filter ne0 = [] → Heap.ExtBut it s.heap h' → Q none { s with heap := h', toks := tk }) :
    wpAny (model prog w) A (pyNext (.ref f)) Q E s := by
  have hT : s.TypeIs (.ref f) "filter" := ⟨_, S.f, rfl⟩
  unfold pyNext
  refine wpAny_bind (wpAny_attempt (wpAny_callSpecial?_slot (name := Str.ofString "__next__") hT slot_filter_next
    (wpAny_call (filter_call hh hfi hti hz S ?_ ?_))))
  · intro p ps j' h' tk a b c d
    exact wpAny_pure (hi p ps j' h' tk a b c d)
  · intro h' e tk a b ⟨o, ho, hc⟩
    refine wpAny_bind (wpAny_isInstance (T := "StopIteration") (b := true) ⟨o, ho, hc⟩ isSubtype_stop ?_)
    exact wpAny_pure (he h' tk a b)

theorem Walks.filterLen {f it t : Addr} {as : List (Str × Tok)} (hh : A.handled = none) (hfi : f ≠ it) (hti : t ≠ it) (hz : ∀ p ∈ as, p.1.length ≤ 1000000) :
    Walks prog w A f [f, it, t] [it] (as.filter ne0).length (fun i v => ∃ p, (as.filter ne0)[i]? = some p ∧ v = .str p.1 p.2) (fun i h => ∃ j, (as.drop j).filter ne0 = (as.filter ne0).drop i ∧ FSt f it t as j h) where
  sub := fun b hb => by simp at hb; simp [hb]
  frame := fun _ _ _ ⟨j, hj, st⟩ hk => ⟨j, hj, hk f (by simp) _ st.f, st.it.at fun o e => hk it (by simp) o e, st.t.at fun o e => hk t (by simp) o e⟩
  item := fun i s Q E hlt ⟨j, hj, st⟩ hQ => by
    refine filter_next hh hfi hti hz st (fun p ps j' h' tk a b c d => ?_) (fun h' tk a b => ?_)
    · rw [hj] at a
      have e := List.drop_eq_getElem_cons hlt
      rw [e] at a
      obtain ⟨a1, a2⟩ := List.cons.inj a
      refine hQ _ h' tk ⟨p, by rw [List.getElem?_eq_getElem hlt, a1], rfl⟩ ⟨j', b.trans a2.symm, c⟩ fun b o hb e => d.extBut b o (fun h => hb (by simp [h])) e
    · rw [hj, List.drop_eq_getElem_cons hlt] at a; cases a
  done := fun s Q E ⟨j, hj, st⟩ hQ => by
    rw [List.drop_length] at hj
    refine filter_next hh hfi hti hz st (fun p ps j' h' tk a b c d => ?_) (fun h' tk a b => hQ h' tk fun b' o hb e => b b' o (fun h => hb (by simp [h])) e)
    rw [hj] at a; cases a
  self := fun i s Q E ⟨j, hj, st⟩ hQ => by
    have hT : s.TypeIs (.ref f) "filter" := ⟨_, st.f, rfl⟩
    refine wpAny_pyIter_slot hT slot_filter_iter (wpAny_call_entry slot_filter_iter hT entry_filter_iter ?_ (args_filter_iter_1 _))
    show wpAny _ _ (ret (.ref f)) _ _ s
    exact wpAny_pure ⟨_, rfl, "filter", _, hT, slot_filter_next.lookup, hQ⟩

theorem meets_filter_new (t : Addr) (xs : Array Value) :
    Meets (Builtin.«filter.__new__» ⟨[.type "filter", .builtin "len", .ref t], []⟩) (fun _ R s => s.heap.IsTuple t xs ∧
      R (.ok (.ret (.ref (s.heap.push { cls := .type "tuple_iterator", data := .fields #[.ref t, .int 0 0] }).objs.size)))
        { s with heap := (s.heap.push { cls := .type "tuple_iterator", data := .fields #[.ref t, .int 0 0] }).push { cls := .type "filter", data := .fields #[.builtin "len", .ref s.heap.objs.size] } }) :=
  .of_wp fun prog w A R s h => by
    obtain ⟨hp, g, d, tk, os⟩ := s; obtain ⟨hl1, h⟩ := h
    have hsub := sub_filter
    have hL1 : Heap.IsTuple (Shared.heap ⟨hp, g, d, tk, os⟩) t xs := hl1
    wp_walk using wpAny_pyIter_tuple hL1
    exact ⟨_, rfl, h⟩

theorem call_filter {t : Addr} {as : List (Str × Tok)} {Q : Value → Shared → Prop} (ht : s.heap.IsTuple t (tvals as))
    (h : FSt (s.heap.objs.size + 1) s.heap.objs.size t as 0 ((s.heap.push { cls := .type "tuple_iterator", data := .fields #[.ref t, .int 0 0] }).push { cls := .type "filter", data := .fields #[.builtin "len", .ref s.heap.objs.size] }) →
      Q (.ref (s.heap.objs.size + 1)) { s with heap := (s.heap.push { cls := .type "tuple_iterator", data := .fields #[.ref t, .int 0 0] }).push { cls := .type "filter", data := .fields #[.builtin "len", .ref s.heap.objs.size] } }) :
    wpAny (model prog w) A (call (.type "filter") [.builtin "len", .ref t]) Q E s := by
  refine callType_new called_filter (by decide) (typeCall_filter_2 _ _) (newCall_filter_2 _ _) (fun obj => F.args_object_init_3 obj _ _) entry_filter_new (meets_filter_new t (tvals as)) ⟨ht, ?_⟩
  have z1 : (s.heap.push { cls := .type "tuple_iterator", data := .fields #[.ref t, .int 0 0] }).objs.size = s.heap.objs.size + 1 := Heap.size_push ..
  have g1 : ((s.heap.push { cls := .type "tuple_iterator", data := .fields #[.ref t, .int 0 0] }).push { cls := .type "filter", data := .fields #[.builtin "len", .ref s.heap.objs.size] }).get? (s.heap.push { cls := .type "tuple_iterator", data := .fields #[.ref t, .int 0 0] }).objs.size = some _ := Heap.get?_push_size _ rfl
  show _ ∧ _
  rw [z1] at g1 ⊢
  exact ⟨⟨_, g1, rfl⟩, h ⟨g1, ⟨_, Heap.get?_push_of_some _ (Heap.get?_push_size _ rfl), rfl, rfl⟩, (ht.push _).push _⟩⟩
end
end Mine
end
section
open PySem PySem.W PyProof.Rows
set_option autoImplicit false
set_option maxRecDepth 100000
namespace Mine
section
variable {prog : Program} {w : World} {A : Around} {s : Shared} {X : Cx} {Q : Value → Shared → Prop} {E : Value → Shared → Prop} {g : Stat} {mu : Mut} {L : Addr} {m : Loc} {env : Env}

theorem ExtBut.size {P : Addr} {h h' : Heap} (hs : Heap.ExtBut P h h') {b : Addr} {o : Obj} (hb : b ≠ P) (e : h.get? b = some o) : b < h'.objs.size := Heap.lt_size (hs b o hb e)

/-- the table of code objects grown -/
theorem St.table (hX : X.Ok) (S : St X g mu L m s) {h' : Heap} {tk : Nat} (hs : Heap.ExtBut X.P s.heap h') (ht : ∃ ps, h'.TableAt X.c X.P ps ∧ h'.IsCode X.c X.P ps) : St X g mu L m { s with heap := h', toks := tk } := by
  have lP := (Inv.lt hX).2
  have ne : ∀ b, X.n ≤ b → b ≠ X.P := fun b hb e => absurd lP (Nat.not_lt.mpr (e ▸ hb))
  have hns : h'.Ns L m := by
    obtain ⟨o, es, ep, h1, r⟩ := S.ns
    exact ⟨o, es, ep, hs _ _ (ne L S.low) h1, r⟩
  refine ⟨⟨fun b o hb e => hs b o hb (S.inv.ext b o hb e), ht, S.inv.os, S.inv.gens, Nat.le_trans S.low (Nat.le_of_lt hns.lt)⟩, hns, S.low, fun b o e => hs b o (ne b (S.gnew b o e)) (S.keep b o e), S.gnew, S.gout, fun a xs e => ?_⟩
  obtain ⟨⟨n, e1⟩, e2, r⟩ := S.mus a xs e
  exact ⟨⟨n, hs _ _ (ne a e2) e1⟩, e2, r⟩

theorem gen_code {pos : Pos} {q : Str} {scope : Scope} {M : Model} (hX : X.Ok) (S : St X g mu L m s) (hc : env.code = .ref X.c)
    (h : ∀ code h' tk, Heap.ExtBut X.P s.heap h' → St X g mu L m { s with heap := h', toks := tk } → Q code { s with heap := h', toks := tk }) :
    wpAny M A (genexprCode env pos q scope) Q E s := by
  obtain ⟨ps, ht, hk⟩ := S.inv.tab
  cases hf : codeAmong pos ps.toList with
  | some c' => exact wpAny_genexprCode_hit hc hk hf (h c' s.heap s.toks (Heap.ExtBut.refl _ _) S)
  | none => exact wpAny_genexprCodeX hc hk ht hf fun c' h' tk hs _ _ h3 _ h5 _ => h _ h' tk hs (S.table hX hs ⟨_, h5, h3⟩)

theorem built_for {running : Addr} {M : Model} {Q : Addr → Shared → Prop} (hX : X.Ok) (I : Inv X s) (h : Q builtinsNs s) : wpAny M A (builtinsFor mainGlobals running) Q E s := by
  obtain ⟨bm, ob, h1, h2, h3, h4, h5, h6⟩ := hX.bmain
  exact wpAny_builtinsFor (I.ns hX hX.g) h1 h2 (I.cls hX h3 (by rw [h6]; nofun)) h4 h5 h6 h
end
end Mine
end
section
open PySem PySem.W PyProof.Rows
set_option autoImplicit false
set_option maxRecDepth 100000
namespace Mine

theorem coll_len_eq : ∀ l : List Nat, (coll l).length = l.length → coll l = l
  | [], _ => rfl
  | c :: r, h => by
    have h1 := coll_len r
    rw [coll_cons] at h ⊢
    unfold cs at h ⊢
    split at h
    · rw [List.length_cons] at h; omega
    · rename_i hn
      have ih := coll_len_eq r (by simpa using h)
      rw [if_neg hn, ih]
/-- a turn of the loop over two hyphens: the text stays, or it is shorter -/
theorem two_turn (l : List Nat) : coll (repL [45, 45] [45] l) = coll l ∧ (repL [45, 45] [45] l = l → coll l = l) ∧ (repL [45, 45] [45] l ≠ l → (repL [45, 45] [45] l).length < l.length) := by
  obtain ⟨h1, h2, h3⟩ := rep2 l.length l (Nat.le_refl _)
  refine ⟨h1, fun e => h3 (by rw [e]), fun hne => ?_⟩
  rcases Nat.lt_or_eq_of_le h2 with h | h
  · exact h
  · have h4 := h3 h
    refine absurd ?_ hne
    have h5 : coll (repL [45, 45] [45] l) = l := h1.trans h4
    have h6 := coll_len_eq (repL [45, 45] [45] l) (by rw [h5, h])
    rw [← h6]; exact h5
theorem cm_all (l : List Nat) : repL [41] [45] (repL [40] [45] (repL [34] [45] (repL [59] [45] (repL [58] [45] (repL [92] [45] (repL [47] [45] (repL [32] [95] l))))))) = l.map cm := by
  simp only [repL_one, List.map_map]
  congr 1
  funext k
  simp only [Function.comp_apply]
  unfold cm
  by_cases h1 : k = 32
  · subst h1; rfl
  by_cases h2 : k = 47
  · subst h2; rfl
  by_cases h3 : k = 92
  · subst h3; rfl
  by_cases h4 : k = 58
  · subst h4; rfl
  by_cases h5 : k = 59
  · subst h5; rfl
  by_cases h6 : k = 34
  · subst h6; rfl
  by_cases h7 : k = 40
  · subst h7; rfl
  by_cases h8 : k = 41
  · subst h8; rfl
  simp [h1, h2, h3, h4, h5, h6, h7, h8]
theorem rep_len {y z : List Nat} (hz : z.length ≤ y.length) : ∀ (n : Nat) (l : List Nat), (rep y z n l).length ≤ l.length
  | 0, l => by cases l <;> simp [rep]
  | n + 1, [] => by simp [rep]
  | n + 1, c :: r => by
    unfold rep
    split
    · rename_i hp
      have h1 := rep_len hz n ((c :: r).drop y.length)
      have h2 : y.length ≤ (c :: r).length := by
        have := hp
        simp only [List.isPrefixOf_iff_prefix] at this
        exact this.length_le
      rw [List.length_append]
      rw [List.length_drop] at h1
      omega
    · have h1 := rep_len hz n r
      simp; omega
theorem repL_len {y z : List Nat} (hz : z.length ≤ y.length) (l : List Nat) : (repL y z l).length ≤ l.length := rep_len hz _ l

section
variable {prog : Program} {w : World} {A : Around} {s : Shared} {X : Cx} {Q : Value → Shared → Prop} {E : Value → Shared → Prop} {g : Stat} {mu : Mut} {L : Addr} {m : Loc} {env : Env}

theorem c_strT {x : Str} {k : Nat} {pos : Pos} {M : Model} (hX : X.Ok) (S : St X g mu L m s) (h : ∀ s', s'.toks = s.toks + 1 → St X g mu L m s' → Q (.str x s.toks) s') : wpAny M A (eval (.Constant (.str x) k pos) env) Q E s :=
  Calls.Constant_str (h _ rfl (S.toks hX))

/-- y = x.replace("..", "..") -/
theorem st_replace {n x : Str} {y z : Str} {l : List Nat} {t : Tok} {k1 k2 : Nat} {p1 p2 p3 p4 p5 p6 p7 : Pos} {Q : Flow → Shared → Prop} (hX : X.Ok) (S : St X g mu env.locals m s) (ht : 1 ≤ s.toks) (hm : m x = some (.str (txt l) t))
    (hy : 1 ≤ y.length) (hyz : (y == z) = false) (hz : z.length ≤ 14) (hl : l.length ≤ 1000000)
    (h : ∀ t' s', St X g mu env.locals (upd m n (.str (txt (repL y.cps.toList z.cps.toList l)) t')) s' → Q .next s')
    (hsw : swapsWith (.Call (.Attribute (.Name x p2) "replace" p3) [.Constant (.str y) k1 p4, .Constant (.str z) k2 p5] [] p6) (some (.Name n p1)) p7.line env = pure false := by rfl)
    (hline : (p3.endLine == p6.line) = true := by rfl)
    (hbase : attributeBase (.Name x p2) "replace" env (eval (.Name x p2) env) = eval (.Name x p2) env := by rfl)
    (hk : env.scope.kind = .function := by rfl) (hkl : env.kindOf x = some .local := by rfl) (hd : (x == ("__debug__" : Str)) = false := by decide) (hnl : env.kindOf n = some .local := by rfl) :
    wpAny (model prog w) A (exec (.Assign [.Name n p1] (.Call (.Attribute (.Name x p2) "replace" p3) [.Constant (.str y) k1 p4, .Constant (.str z) k2 p5] [] p6) p7) env) Q noE s := by
  refine wpAny_Assign_Name ?_ hsw
  refine wpAny_Call_method hbase rfl hline F.plainAttrs_str F.slot_str_replace F.type_str_replace (st_name S hm ⟨typeIs_str _ _ _, nofun, ?_⟩ hk hkl hd)
  refine Calls.callWith_builtin rfl (Calls.evalArgs_plain (a_cons (c_strT hX S fun s₁ e1 S => a_cons (c_strT hX S fun s₂ e2 S => a_nil ?_))))
  refine SC.replaceW (Nat.ne_of_gt ht) (by rw [e1]; exact Nat.succ_ne_zero _) (by rw [e1]; exact Nat.ne_of_lt (Nat.lt_succ_self _)) hyz (by rw [txt_len]; exact Nat.le_trans hl (by decide)) hz fun t' k => ?_
  have e : Txt.replace (txt l) y z = txt (repL y.cps.toList z.cps.toList l) := by
    apply txt_inj
    rw [replace_repL _ _ _ hy, txt_list, txt_list]
  rw [e]
  exact st_store hX (S.toks hX) (fun s' S => h t' s' S) hk hnl
end
end Mine
end
section
open PySem PySem.W PyProof.Rows
set_option autoImplicit false
set_option maxRecDepth 100000
namespace Mine
section
variable {prog : Program} {w : World} {A : Around} {s : Shared} {X : Cx} {Q : Value → Shared → Prop} {E : Value → Shared → Prop} {g : Stat} {mu : Mut} {L : Addr} {m : Loc} {env : Env} {R : Result → Shared → Prop}

theorem Inv.push (hX : X.Ok) (I : Inv X s) {o : Obj} {tk : Nat} : Inv X { s with heap := s.heap.push o, toks := tk } :=
  I.mono hX (fun _ _ _ e => Heap.get?_push_of_some _ e) rfl I.gens (by rw [Heap.size_push]; exact Nat.le_succ_of_le I.size)

theorem bind_star (vs : List Value) (pm cd doc : Value) : bindArgs (Calls.docDef (nm 1) (prm 1) (bdy 1) (scp 1) pm cd doc) ⟨vs, []⟩ = (newTuple vs >>= fun t => pure [(Str.ofString "args", t)]) := by
  have hp : prm 1 = { posonlyargs := [], args := [], vararg := some { arg := Str.ofString "args", annotation := none, pos := ⟨2, 15, 2, 19⟩ }, kwonlyargs := [], kw_defaults := [], kwarg := none, defaults := [] } := rfl
  have h1 : (seqItems? Value.none) = pure none := rfl
  unfold bindArgs
  simp [Calls.docDef, hp, h1]

/-- _platform entered: its arguments are a tuple of texts -/
theorem call_star {as : List (Str × Tok)} (hX : X.Ok) (I : Inv X s) (hroom : A.depth < recursionLimit) (hn : as.length ≤ 1000)
    (h : ∀ s₁ T L g, X.n ≤ T → g T = some { cls := .type "tuple", data := .seq (tvals as) } → St X g mnone L (fun x => [(Str.ofString "args", Value.ref T)].reverse.lookup x) s₁ → s.toks ≤ s₁.toks →
      (∀ b o, X.n ≤ b → s.heap.get? b = some o → g b = some o) →
      wpAny (model prog w) (A.deeper (envOf (nm 1) (scp 1) L (X.fa 1) (X.cd 1))) (execs (bdy 1) (envOf (nm 1) (scp 1) L (X.fa 1) (X.cd 1)))
        (fun f s' => R (.ok (.ret (match f with | .ret v => v | _ => .none))) s') noE s₁) :
    codeAny (model prog w) A (.call (.ref (X.fa 1)) ⟨as.map fun p => Value.str p.1 p.2, []⟩) R s := by
  obtain ⟨_, o, pm, doc, ho, hd, hcd⟩ := hX.fn 1 (by decide)
  refine codeAny_call_function hroom (I.cls hX ho (by rw [hd]; nofun)) hd rfl rfl rfl (I.codeRec hX hcd) ?_
  rw [bind_star]
  refine wpAny_bind (wpAny_newObj_type (wpAny_pure ?_) ?_)
  · have I1 : Inv X { s with heap := s.heap.push { cls := .type "tuple", data := .seq (tvals as) } } := I.push hX (tk := s.toks)
    refine wpAny_newFunctionEnv (show ∀ x ∈ (scp 1).names, x.2 ≠ .cell by decide) (locs rfl) (fun h₁ hns hsb => ?_) rfl
    have F : Fr (s.heap.push { cls := .type "tuple", data := .seq (tvals as) }) (s.heap.push { cls := .type "tuple", data := .seq (tvals as) }).objs.size h₁ _ := ⟨hns, fun b o e => hsb.extBut b o (Nat.ne_of_lt (Heap.lt_size e)) (Heap.get?_push_of_some _ e), Nat.le_refl _⟩
    refine ⟨(I1.lim hX).fresh _ hsb, ?_⟩
    show codeAny _ _ (.func (bdy 1) (envOf (nm 1) (scp 1) _ (X.fa 1) (X.cd 1))) _ _
    refine codeAny_func (wpAny_mono (h _ s.heap.objs.size _ _ I.size (hid_of I.size rfl (Heap.get?_push_size _ rfl)) (St.enter hX I1 (mu := mnone) (fun _ _ e => nomatch e) F) (Nat.le_add_right ..) fun b o hb e => hid_of hb rfl (Heap.get?_push_of_some _ e)) (fun _ _ z => z) fun _ _ z => z.elim)
  · show sizeOk (.seq (as.map fun p => Value.str p.1 p.2).toArray)
    simp [sizeOk, sizeLine]
    omega
end
end Mine
end
section
open PySem PySem.W PyProof.Rows
set_option autoImplicit false
set_option maxRecDepth 100000
namespace Mine
section
variable {prog : Program} {w : World} {A : Around} {s : Shared} {X : Cx} {Q : Value → Shared → Prop} {E : Value → Shared → Prop} {g : Stat} {mu : Mut} {L : Addr} {m : Loc} {env : Env} {R : Result → Shared → Prop}

theorem passing_all (n : Nat) : passing (fun _ => true) n 0 = List.range n := by
  unfold passing; simp

/-- the texts of a walk, in order -/
theorem items_texts {bs : List (Str × Tok)} {f : Str → Str} {l : List (Str × Tok)} {n₀ : Nat} (hn : n₀ = bs.length)
    (h : ItemsOf (fun j y => ∃ i, (passing (fun _ => true) n₀ 0)[j]? = some i ∧ ∃ p t, bs[i]? = some p ∧ y = Value.str (f p.1) t) (strValues l).toArray (passing (fun _ => true) n₀ 0).length) :
    l.map (·.1) = bs.map fun p => f p.1 := by
  subst hn
  rw [passing_all] at h
  have hsz : l.length = bs.length := by simpa [strValues] using h.1
  apply List.ext_getElem?
  intro j
  by_cases hj : j < bs.length
  · have hj' : j < l.length := hsz ▸ hj
    obtain ⟨i, hi, p, t, hp, hy⟩ := h.2 j (.str l[j].1 l[j].2) (by simp [strValues, List.getElem?_eq_getElem hj'])
    rw [List.getElem?_range hj] at hi
    cases hi
    injection hy with h1 _
    rw [List.getElem?_map, List.getElem?_map, List.getElem?_eq_getElem hj', hp]
    simp [h1]
  · rw [List.getElem?_eq_none (by simpa [hsz] using Nat.le_of_not_lt hj), List.getElem?_eq_none (by simpa using Nat.le_of_not_lt hj)]

theorem strip_len (x : Str) : (Txt.strip x).length ≤ x.length := by
  rw [len_list, len_list, strip_trimL]
  unfold trimL
  rw [List.length_reverse]
  refine Nat.le_trans (List.dropWhile_sublist _).length_le ?_
  rw [List.length_reverse]
  exact (List.dropWhile_sublist _).length_le

theorem sum_small {l : List Nat} {k : Nat} (h : ∀ x ∈ l, x ≤ k) : l.sum ≤ l.length * k := by
  induction l with
  | nil => simp
  | cons a r ih =>
    have h1 := h a List.mem_cons_self
    have h2 := ih fun x hx => h x (List.mem_cons_of_mem _ hx)
    rw [List.sum_cons, List.length_cons, Nat.succ_mul]
    omega

/-- a method of a built-in class called upon one value -/
theorem e_meth1 {o e1 : Expr} {name : Str} {id T : String} {apos pos : Pos} (pa : PlainAttrs T) (slot : Slot T name id) (hty : typeOf (.builtin id) = pure (.type "method_descriptor"))
    (h : wpAny (model prog w) A (eval o env) (fun ov s₁ => s₁.TypeIs ov T ∧ (∀ a, ov = .ref a → ∃ ob, s₁.heap.get? a = some ob ∧ ob.dict = none) ∧
      wpAny (model prog w) A (eval e1 env) (fun v s₂ => wpAny (model prog w) A (call (.builtin id) [ov, v]) Q E s₂) E s₁) E s)
    (he : starEach [e1] env = [(false, eval e1 env)] := by rfl)
    (hbase : attributeBase o name env (eval o env) = eval o env := by rfl) (hline : (apos.endLine == pos.line) = true := by rfl) :
    wpAny (model prog w) A (eval (.Call (.Attribute o name apos) [e1] [] pos) env) Q E s := by
  refine wpAny_Call_method hbase (by rw [he]; rfl) hline pa slot hty (wpAny_mono h (fun ov s₁ h₁ => ⟨h₁.1, h₁.2.1, ?_⟩) fun _ _ x => x)
  rw [he]
  exact Calls.callWith_builtin rfl (Calls.evalArgs_plain (Calls.spliced_cons (wpAny_mono h₁.2.2 (fun v s₂ h₂ => Calls.spliced_nil h₂) fun _ _ x => x)))

abbrev envF (L : Addr) (X : Cx) : Env := envOf (nm 1) (scp 1) L (X.fa 1) (X.cd 1)

theorem plat_join {as : List (Str × Tok)} {T : Addr} {st : Stmt} {rest : List Stmt} {Q : Flow → Shared → Prop} (hX : X.Ok) (hh : A.handled = none) (hroom : A.depth < recursionLimit) (S : St X g mnone L m s) (hT : g T = some { cls := .type "tuple", data := .seq (tvals as) })
    (hm : m "args" = some (.ref T)) (hn : as.length ≤ 10) (hz : ∀ p ∈ as, p.1.length ≤ 20000) (hst : bdy 1 = st :: rest)
    (h : ∀ t s', St X g mnone L (upd m "platform" (.str (Txt.join (txt [45]) ((as.filter ne0).map fun p => Txt.strip p.1)) t)) s' → Q .next s') :
    wpAny (model prog w) A (exec st (envF L X)) Q noE s := by
  obtain ⟨rfl, -⟩ := List.cons.inj hst
  refine wpAny_Assign_Name ?_
  refine e_meth1 F.plainAttrs_str F.slot_str_join F.type_str_join (c_str hX S fun tj s₁ S => ⟨typeIs_str _ _ _, nofun, ?_⟩)
  refine wpAny_GeneratorExp_walksQ hh rfl rfl (by decide) rfl rfl rfl hroom ?_ (by intro _; rfl)
  refine e_type hX S.inv (by decide) (by boot_fast) (by decide) (a_cons (st_built hX S.inv (by decide) (by boot_fast) (by decide) (a_cons (st_name S hm (a_nil (call_filter ⟨_, S.keep _ _ hT, rfl, _, rfl⟩ fun hF => ?_))))))
  have fr := S.fresh
  have S2 := (S.push hX (o := { cls := .type "tuple_iterator", data := .fields #[.ref T, .int 0 0] }) (tk := s₁.toks)).push hX (o := { cls := .type "filter", data := .fields #[.builtin "len", .ref s₁.heap.objs.size] }) (tk := s₁.toks)
  have hXit : X.n ≤ s₁.heap.objs.size := fr.2.2.2
  have ltP : X.P < X.n := (Inv.lt hX).2
  have hXT : X.n ≤ T := S.gnew _ _ hT
  have hTit : T < s₁.heap.objs.size := S.sz hT
  have hW : ∀ A' : Around, A'.handled = none → Walks prog w A' (s₁.heap.objs.size + 1) _ _ _ _ _ := fun A' hA => Walks.filterLen (prog := prog) (w := w) (A := A') (it := s₁.heap.objs.size) (t := T) (as := as) hA (Nat.succ_ne_self _) (Nat.ne_of_lt hTit) fun p hp => Nat.le_trans (hz p hp) (by decide)
  refine (hW A hh).self 0 _ _ _ ⟨0, rfl, hF⟩ ⟨S2.inv.lim hX, gen_code hX S2 hX.cd1 fun code h' tk hext S3 => built_for hX S3.inv ?_⟩
  have np : ∀ b, X.n ≤ b → b ≠ X.P := fun b hb e => absurd ltP (Nat.not_lt.mpr (e ▸ hb))
  have hF' : FSt (s₁.heap.objs.size + 1) s₁.heap.objs.size T as 0 h' := ⟨hext _ _ (np _ (Nat.le_succ_of_le hXit)) hF.f, hF.it.at fun o e => hext _ _ (np _ hXit) e, hF.t.extBut hext (np _ hXT)⟩
  obtain ⟨_, hcs, _⟩ := hX.lim
  have hcs := hcs.lt
  have hin : s₁.heap.objs.size + 1 < h'.objs.size := Heap.lt_size hF'.f
  refine ⟨_, _, _, _, _, _, fun _ => true, fun i y => ∃ p t, (as.filter ne0)[i]? = some p ∧ y = Value.str (Txt.strip p.1) t, rfl, hW, ⟨0, rfl, hF'⟩, fun b hb => ?_, S3.inv.lim hX, ?_, fun href hhref => ⟨?_, ?_⟩, fun a h₅ tk₅ gs hb hlt hsz hk W hat => ?_⟩
  · show b < h'.objs.size
    simp only [List.mem_cons, List.not_mem_nil, or_false] at hb
    rcases hb with rfl | rfl | rfl
    · exact hin
    · exact Nat.lt_trans (Nat.lt_succ_self _) hin
    · exact Nat.lt_trans hTit (Nat.lt_trans (Nat.lt_succ_self _) hin)
  · intro hm'
    rw [List.mem_singleton] at hm'
    exact absurd (hm' ▸ hcs) (Nat.not_lt.mpr hXit)
  · intro A' E' i v s₂ m₂ _ _ _ _ _
    exact wpAny_pure ⟨rfl, s₂.heap, s₂.toks, rfl, fun _ _ e => e⟩
  · rintro A' E' i v s₂ m₂ hA ⟨p, hp, rfl⟩ _ hns hv _
    refine wpAny_Call_method_lateS (by rfl) rfl (by rfl) (wpAny_Name (wpAny_loadName_local rfl rfl hns hv (SB.strip (fun t' k => ⟨⟨p, t', hp, rfl⟩, s₂.heap, k, rfl, fun _ _ e => e⟩) ?_)) (by decide))
    have := hz p (List.mem_filter.mp (List.mem_of_getElem? hp)).1
    rw [sizeLine_eq]; omega
  · have S4 := S3.mono hX (s' := { s₁ with heap := h₅, gens := s₁.gens.push gs, toks := tk₅ }) (fun b o _ e => hk b o e) rfl (S3.inv.gens.push hb)
    have hlt' : h'.objs.size < a := hlt
    refine SC.joinGen W.in4_2 (fun i s' st => st.1.typeIs) hat ?_ List.mem_cons_self (fun i v hv => let ⟨_, _, p, t, _, e⟩ := hv; ⟨_, t, e⟩) (fun s' lt hmv hacc => ?_) ?_
    · intro b hb
      show b < h₅.objs.size
      rw [hsz]
      rcases List.mem_cons.mp hb with rfl | hb
      · exact Nat.lt_succ_self _
      · rcases List.mem_cons.mp hb with rfl | hb
        · exact Nat.lt_succ_of_lt hlt
        · exact Nat.lt_succ_of_lt (Nat.lt_trans (List.mem_range.mp hb) hlt)
    · have S5 : St X g mnone L m s' := S4.mono hX (fun b o hb e => hmv.heap b o (fun hm' => by
        have hb1 : b < s₁.heap.objs.size := by
          rcases hb with hb | hb | hb | hb
          · omega
          · obtain ⟨o', ho'⟩ := Option.isSome_iff_exists.mp hb
            exact S.sz ho'
          · cases hb
          · subst b; exact S.ns.lt
        simp only [List.mem_cons, List.not_mem_nil, or_false] at hm'
        rcases hm' with rfl | rfl
        · have : h'.objs.size < s₁.heap.objs.size := hb1
          omega
        · omega) e) hmv.os (hmv.gens.bare S4.inv.gens)
      rw [items_texts (f := Txt.strip) rfl hacc]
      refine ⟨joinOk_of ?_, fun t' k => st_store hX (S5.toks hX) fun s'' S => h t' s'' S⟩
      have hl : (as.filter ne0).length ≤ 10 := Nat.le_trans (List.length_filter_le _ _) hn
      have hs := sum_small (l := ((as.filter ne0).map fun p => Txt.strip p.1).map (·.length)) (k := 20000) (fun x hx => by
        simp only [List.mem_map] at hx
        obtain ⟨_, ⟨p, hp, rfl⟩, rfl⟩ := hx
        exact Nat.le_trans (strip_len _) (hz p (List.mem_filter.mp hp).1))
      rw [List.length_map, List.length_map] at hs
      rw [List.length_map, lit_dash, txt_len]
      have : (as.filter ne0).length * 20000 ≤ 10 * 20000 := Nat.mul_le_mul_right _ hl
      simp only [List.length_cons, List.length_nil]
      omega
    · rw [passing_all, List.length_range, sizeLine_eq]
      exact Nat.le_trans (List.length_filter_le _ _) (Nat.le_trans hn (by decide))
end
end Mine
end
section
open PySem PySem.W PyProof.Rows
set_option autoImplicit false
set_option maxRecDepth 100000
namespace Mine
theorem lit_slash : (Str.ofString "/").cps.toList = [47] := by decide +kernel
theorem lit_back : (Str.ofString "\\").cps.toList = [92] := by decide +kernel
theorem lit_colon : (Str.ofString ":").cps.toList = [58] := by decide +kernel
theorem lit_semi : (Str.ofString ";").cps.toList = [59] := by decide +kernel
theorem lit_quot : (Str.ofString "\"").cps.toList = [34] := by decide +kernel
theorem lit_open : (Str.ofString "(").cps.toList = [40] := by decide +kernel
theorem lit_close : (Str.ofString ")").cps.toList = [41] := by decide +kernel
theorem lit_two : (Str.ofString "--").cps.toList = [45, 45] := by decide +kernel
theorem lit_blank' : (Str.ofString " ").cps.toList = [32] := by decide +kernel
theorem lit_us' : (Str.ofString "_").cps.toList = [95] := by decide +kernel
theorem lit_dash' : (Str.ofString "-").cps.toList = [45] := by decide +kernel
theorem lit_unk' : (Str.ofString "unknown").cps.toList = unk := by decide +kernel
theorem lit_empty' : (Str.ofString "").cps.toList = [] := by decide +kernel
section
variable {prog : Program} {w : World} {A : Around} {s : Shared} {X : Cx} {Q : Value → Shared → Prop} {E : Value → Shared → Prop} {g : Stat} {mu : Mut} {L : Addr} {m : Loc} {env : Env} {R : Result → Shared → Prop}

/-- the frame's name platform holds the text -/
def PSt (X : Cx) (g : Stat) (L : Addr) (l : List Nat) (s : Shared) : Prop := ∃ (m : Loc) (t : Tok), m "platform" = some (.str (txt l) t) ∧ St X g mnone L m s

theorem plat_rep {y z : Str} {l yl zl : List Nat} {k1 k2 : Nat} {p1 p2 p3 p4 p5 p6 p7 : Pos} {rest : List Stmt} {Q : Flow → Shared → Prop} (hX : X.Ok) (ht : 1 ≤ s.toks) (S : PSt X g L l s) (ey : y.cps.toList = yl) (ez : z.cps.toList = zl)
    (hy : 1 ≤ yl.length) (hyz : (y == z) = false) (hz : zl.length ≤ yl.length) (hz2 : zl.length ≤ 14) (hl : l.length ≤ 1000000)
    (h : ∀ s', 1 ≤ s'.toks → (repL yl zl l).length ≤ 1000000 → PSt X g L (repL yl zl l) s' → wpAny (model prog w) A (execs rest (envF L X)) Q noE s')
    (hline : (p3.endLine == p6.line) = true := by rfl)
    (hsw : swapsWith (.Call (.Attribute (.Name "platform" p2) "replace" p3) [.Constant (.str y) k1 p4, .Constant (.str z) k2 p5] [] p6) (some (.Name "platform" p1)) p7.line (envF L X) = pure false := by rfl) :
    wpAny (model prog w) A (execs (.Assign [.Name "platform" p1] (.Call (.Attribute (.Name "platform" p2) "replace" p3) [.Constant (.str y) k1 p4, .Constant (.str z) k2 p5] [] p6) p7 :: rest) (envF L X)) Q noE s := by
  obtain ⟨m, t, hm, S⟩ := S
  subst ey ez
  refine seqT (fun s' => PSt X g L (repL y.cps.toList z.cps.toList l) s') ht (st_replace hX S ht hm (by rw [len_list]; exact hy) hyz (by rw [len_list]; exact hz2) hl (fun t' s' S => ⟨rfl, _, t', upd_same, S⟩) hsw hline) fun s' ht' S => h s' ht' (Nat.le_trans (repL_len hz l) hl) S

/-- the loop over two hyphens -/
theorem plat_two_loop {l : List Nat} {p1 p2 p3 p4 p5 p6 p7 p8 p9 p10 p11 p12 p13 p14 p15 p16 p17 : Pos} {k1 k2 k3 : Nat} {Q : Flow → Shared → Prop} (hX : X.Ok) (ht : 1 ≤ s.toks) (S : PSt X g L l s) (hl : l.length ≤ 1000000)
    (h : ∀ s', PSt X g L (coll l) s' → Q .next s')
    (hline : (p3.endLine == p6.line) = true := by rfl)
    (hsw : swapsWith (.Call (.Attribute (.Name "platform" p2) "replace" p3) [.Constant (.str "--") k1 p4, .Constant (.str "-") k2 p5] [] p6) (some (.Name "cleaned" p1)) p7.line (envF L X) = pure false := by rfl)
    : wpAny (model prog w) A (exec (.While (.Constant (.bool true) k3 p15)
        [.Assign [.Name "cleaned" p1] (.Call (.Attribute (.Name "platform" p2) "replace" p3) [.Constant (.str "--") k1 p4, .Constant (.str "-") k2 p5] [] p6) p7,
         .If (.Compare (.Name "cleaned" p8) [.Eq] [.Name "platform" p9] p10) [.Break p11] [] p12,
         .Assign [.Name "platform" p13] (.Name "cleaned" p14) p17] [] p16) (envF L X)) Q noE s := by
  refine while_ (fun n s' => ∃ l' : List Nat, n = l'.length ∧ l'.length ≤ 1000000 ∧ coll l' = coll l ∧ 1 ≤ s'.toks ∧ PSt X g L l' s') ?_ l.length ⟨l, rfl, hl, rfl, ht, S⟩
  rintro n s₁ ⟨l', rfl, hl', hc, ht₁, m, t, hm, S⟩
  refine wpAny_isTrue_value (wpAny_Constant_bool (wpAny_truthy_bool ?_))
  rw [if_pos rfl]
  obtain ⟨h1, h2, h3⟩ := two_turn l'
  refine wpAny_with_toks (n := 1) ht₁ (wpAny_mono (E := noE) ?_ (fun _ _ h => h) fun _ _ x => x.elim)
  refine seqT (fun s' => ∃ (m : Loc) (t t' : Tok), m "platform" = some (.str (txt l') t) ∧ m "cleaned" = some (.str (txt (repL [45, 45] [45] l')) t') ∧ St X g mnone L m s') ht₁ (st_replace hX S ht₁ hm (by decide) (by decide) (by decide) hl' (fun t' s' S => ⟨rfl, _, t, t', upd_of (by decide) hm, by rw [← lit_two, ← lit_dash']; exact upd_same, S⟩) hsw hline) ?_
  rintro s₂ ht₂ ⟨m, t, t', mp, mc, S⟩
  refine wpAny_execs_cons (wpAny_If (wpAny_isTrue_Compare1 (st_name S mc (st_name S mp (PyProof.Rows.eq_str (wpAny_truthy_bool ?_))))))
  rw [txt_beq]
  by_cases he : repL [45, 45] [45] l' = l'
  · rw [if_pos (decide_eq_true he)]
    refine wpAny_execs_cons (wpAny_Break fun _ => h _ ⟨m, t, ?_, S⟩)
    rw [← hc, h2 he]; exact mp
  · rw [if_neg (by simpa using he)]
    refine wpAny_execs_nil (wpAny_execs_cons (wpAny_Assign_Name (st_name S mc (st_store hX S fun s' S => wpAny_execs_nil fun ht' => ?_))))
    exact ⟨_, h3 he, _, rfl, Nat.le_trans (repL_len (by simp) l') hl', h1.trans hc, ht', _, t', upd_same, S⟩

/-- the loop over hyphens at the end -/
theorem plat_end_loop {l : List Nat} {p1 p2 p3 p4 p5 p6 p7 p8 p9 p10 p11 p12 p13 p14 p15 p16 : Pos} {k1 k2 k3 : Nat} {Q : Flow → Shared → Prop} (hX : X.Ok) (S : PSt X g L l s) (hl : l.length ≤ 1000000)
    (h : ∀ s', PSt X g L (rs l) s' → Q .next s') :
    wpAny (model prog w) A (exec (.While (.BoolOp .And [.Name "platform" p1, .Compare (.Subscript (.Name "platform" p2) (.UnaryOp .USub (.Constant (.int 1) k1 p3) p4) p5) [.Eq] [.Constant (.str "-") k2 p6] p7] p8)
        [.Assign [.Name "platform" p9] (.Subscript (.Name "platform" p10) (.Slice none (some (.UnaryOp .USub (.Constant (.int 1) k3 p11) p12)) none p13) p14) p15] [] p16) (envF L X)) Q noE s := by
  refine while_ (fun n s' => ∃ l' : List Nat, n = l'.length ∧ l'.length ≤ 1000000 ∧ rs l' = rs l ∧ PSt X g L l' s') ?_ l.length ⟨l, rfl, hl, rfl, S⟩
  rintro n s₁ ⟨l', rfl, hl', hc, m, t, hm, S⟩
  refine isTrue_and (isTrue_plain (st_name S hm (PySem.P.truthy_str (by rw [txt_len]; omega) ?_)))
  have S := S.toks hX (tk := s₁.toks + 1 + 1)
  rw [txt_len]
  by_cases hn : l' = []
  · subst hn
    rw [if_neg (by decide)]
    rw [if_neg (by decide)]
    exact h _ ⟨m, t, by rw [← hc]; exact hm, S⟩
  · rw [if_pos (by rw [bne_iff_ne]; intro e; exact hn (List.length_eq_zero_iff.mp (by omega)))]
    obtain ⟨r, c, rfl⟩ : ∃ r c, l' = r ++ [c] := ⟨l'.dropLast, l'.getLast hn, (List.dropLast_concat_getLast hn).symm⟩
    simp only [List.length_append, List.length_cons, List.length_nil] at hl'
    refine isTrue_and (wpAny_isTrue_Compare1 (e_lastc (l := r) (c := c) hX (st_name S hm ⟨_, _, _, _, _, _, rfl, txt_list _, by omega, S, fun tl s' S => c_str hX S fun tc s'' S => PyProof.Rows.eq_str (wpAny_truthy_bool ?_)⟩)))
    rw [lit_dash, txt_beq]
    by_cases h1 : c = 45
    · subst h1
      rw [if_pos (by decide)]
      refine isTrue_and_nil ?_
      rw [if_pos rfl]
      refine wpAny_execs_cons (wpAny_Assign_Name (e_butlast hX (st_name S hm ⟨_, _, _, _, _, _, rfl, by rw [txt_len]; simp; omega, S, fun tl s' S => st_store hX S fun s4 S => wpAny_execs_nil ?_⟩)))
      refine ⟨r.length, by simp, r, rfl, by omega, by rw [← hc, rs_snoc_dash], _, tl, ?_, S⟩
      rw [txt_list, List.dropLast_concat] at S ⊢
      exact upd_same
    · rw [if_neg (by simpa using h1)]
      rw [if_neg (by decide)]
      exact h _ ⟨m, t, by rw [← hc, rs_snoc_ne h1]; exact hm, S⟩
end
end Mine
end
section
open PySem PySem.W PyProof.Rows
set_option autoImplicit false
set_option maxRecDepth 100000
namespace Mine
open Builtin.Str PySem.StrLaws
section
variable {prog : Program} {w : World} {A : Around} {s : Shared} {X : Cx} {Q : Value → Shared → Prop} {E : Value → Shared → Prop} {g : Stat} {mu : Mut} {L : Addr} {m : Loc} {env : Env} {R : Result → Shared → Prop}

theorem join_len (xs : List Str) : (Txt.join (txt [45]) xs).length ≤ (xs.map (·.length)).sum + xs.length := by
  unfold Txt.join
  rw [glued_eq_join]
  have := StrLaws.join_length_le (txt [45]) xs
  rw [txt_len] at this
  simpa using this

theorem filter_texts (as : List (Str × Tok)) : ((as.map (·.1)).filter fun x => x.length != 0).map Txt.strip = (as.filter ne0).map fun p => Txt.strip p.1 := by
  rw [List.filter_map, List.map_map]
  rfl

theorem plat_body {as : List (Str × Tok)} {T : Addr} {Q : Flow → Shared → Prop} (hX : X.Ok) (hh : A.handled = none) (hroom : A.depth < recursionLimit) (ht : 1 ≤ s.toks) (S : St X g mnone L m s) (hT : g T = some { cls := .type "tuple", data := .seq (tvals as) })
    (hm : m "args" = some (.ref T)) (hn : as.length ≤ 10) (hz : ∀ p ∈ as, p.1.length ≤ 20000) {st : Stmt} {rest : List Stmt} (hst : bdy 1 = st :: rest)
    (h : ∀ t m' s', St X g mnone L m' s' → Q (.ret (.str (platF (as.map (·.1))) t)) s') :
    wpAny (model prog w) A (execs (st :: rest) (envF L X)) Q noE s := by
  have hJ : (Txt.join (txt [45]) ((as.filter ne0).map fun p => Txt.strip p.1)).cps.toList.length ≤ 1000000 := by
    rw [← len_list]
    refine Nat.le_trans (join_len _) ?_
    have hl : (as.filter ne0).length ≤ 10 := Nat.le_trans (List.length_filter_le _ _) hn
    have hs := sum_small (l := ((as.filter ne0).map fun p => Txt.strip p.1).map (·.length)) (k := 20000) (fun x hx => by
      simp only [List.mem_map] at hx
      obtain ⟨_, ⟨p, hp, rfl⟩, rfl⟩ := hx
      exact Nat.le_trans (strip_len _) (hz p (List.mem_filter.mp hp).1))
    rw [List.length_map, List.length_map] at hs
    rw [List.length_map]
    have : (as.filter ne0).length * 20000 ≤ 10 * 20000 := Nat.mul_le_mul_right _ hl
    omega
  refine seqT (fun s' => PSt X g L (Txt.join (txt [45]) ((as.filter ne0).map fun p => Txt.strip p.1)).cps.toList s') ht (plat_join hX hh hroom S hT hm hn hz hst fun t s' S => ⟨rfl, _, t, by rw [txt_of]; exact upd_same, S⟩) ?_
  unfold platF platP at h
  rw [filter_texts] at h
  generalize (Txt.join (txt [45]) ((as.filter ne0).map fun p => Txt.strip p.1)).cps.toList = J at hJ h ⊢
  intro s₁ ht₁ S
  obtain ⟨-, rfl⟩ := List.cons.inj hst
  refine plat_rep hX ht₁ S lit_blank' lit_us' (by decide) (by decide +kernel) (by decide) (by decide) hJ fun s₂ ht₂ hl S => ?_
  refine plat_rep hX ht₂ S lit_slash lit_dash' (by decide) (by decide +kernel) (by decide) (by decide) hl fun s₃ ht₃ hl S => ?_
  refine plat_rep hX ht₃ S lit_back lit_dash' (by decide) (by decide +kernel) (by decide) (by decide) hl fun s₃ ht₃ hl S => ?_
  refine plat_rep hX ht₃ S lit_colon lit_dash' (by decide) (by decide +kernel) (by decide) (by decide) hl fun s₃ ht₃ hl S => ?_
  refine plat_rep hX ht₃ S lit_semi lit_dash' (by decide) (by decide +kernel) (by decide) (by decide) hl fun s₃ ht₃ hl S => ?_
  refine plat_rep hX ht₃ S lit_quot lit_dash' (by decide) (by decide +kernel) (by decide) (by decide) hl fun s₃ ht₃ hl S => ?_
  refine plat_rep hX ht₃ S lit_open lit_dash' (by decide) (by decide +kernel) (by decide) (by decide) hl fun s₃ ht₃ hl S => ?_
  refine plat_rep hX ht₃ S lit_close lit_dash' (by decide) (by decide +kernel) (by decide) (by decide) hl fun s₃ ht₃ hl S => ?_
  refine plat_rep hX ht₃ S lit_unk' lit_empty' (by decide) (by decide +kernel) (by decide) (by decide) hl fun s₃ ht₃ hl S => ?_
  rw [cm_all] at hl S
  refine seqT (fun s' => PSt X g L (coll (repL unk [] (J.map cm))) s') ht₃ (plat_two_loop hX ht₃ S hl fun s' S => ⟨rfl, S⟩) ?_
  intro s₄ ht₄ S
  refine seqT (fun s' => PSt X g L (rs (coll (repL unk [] (J.map cm)))) s') ht₄ (plat_end_loop hX S (Nat.le_trans (coll_len _) hl) fun s' S => ⟨rfl, S⟩) ?_
  rintro s₅ ht₅ ⟨m', t, hm', S⟩
  exact wpAny_execs_cons (wpAny_Return_some (st_name S hm' (h t _ _ S)))

theorem platform_ok {as : List (Str × Tok)} (hX : X.Ok) (I : Inv X s) (hh : A.handled = none) (htk : 1 ≤ s.toks) (hd : A.depth + 20 < recursionLimit) (hn : as.length ≤ 10) (hz : ∀ p ∈ as, p.1.length ≤ 20000) :
    codeAny (model prog w) A (.call (.ref (X.fa 1)) ⟨as.map fun p => Value.str p.1 p.2, []⟩) (fun r s' => ∃ t, r = .ok (.ret (.str (platF (as.map (·.1))) t)) ∧ Kept X (fun _ => False) s s') s := by
  refine call_star hX I (by omega) (by omega) fun s₁ T L g hXT hT S htk₁ hkeep => ?_
  cases hb : bdy 1 with
  | nil => unfold bdy at hb; cases hb
  | cons st rest =>
    refine plat_body hX (show (A.deeper _).handled = none from hh) (show (A.deeper _).depth < recursionLimit from ?_) (Nat.le_trans htk htk₁) S hT rfl hn hz hb fun t m' s' S => ⟨t, rfl, S.inv, fun b o hb _ e => S.keep b o (hkeep b o hb e)⟩
    show A.depth + 1 < recursionLimit
    omega
end
end Mine
end
section
open PySem PySem.W PyProof.Rows
set_option autoImplicit false
set_option maxRecDepth 100000
namespace Mine
section
variable {prog : Program} {w : World} {A : Around} {s : Shared} {X : Cx} {Q : Value → Shared → Prop} {E : Value → Shared → Prop} {g : Stat} {mu : Mut} {L : Addr} {m : Loc} {env : Env} {R : Result → Shared → Prop}
theorem law_parts_ok {z : Int} {t : Tok} (hX : X.Ok) (I : Inv X s) (hh : A.handled = none) (htk : 1 ≤ s.toks) (hd : A.depth < recursionLimit) :
    codeAny (model prog w) A (.call (.ref (X.fa 9)) ⟨[.int z t], []⟩) (fun r s' => ∃ (b : Addr) (sv : List (List Nat × Tok)) (n : Nat), r = .ok (.ret (.ref b)) ∧ s.heap.get? b = none ∧ X.n ≤ b ∧ s.heap.objs.size ≤ b ∧ s'.heap.get? b = some (lobj (svals sv) n) ∧ IsLeaf (sv.map (·.1)) ∧ Kept X (fun _ => False) s s') s := by
  refine call_fnC hX I (by decide) hd (binds := [("number", .int z t)]) (fun _ _ _ => rfl) ?_ (fun pm doc s₁ x htk₁ => ?_) rfl rfl rfl
  · intro y hy
    rw [List.mem_singleton] at hy
    subst hy
    exact .inr ⟨rfl, rfl⟩
  have S := St.enterC hX I x
  obtain ⟨oN, hoN, hdN⟩ := x.cell _ _ (show (cellsFrom (s.heap.objs.size + 1) (scp 9).names []).lookup (Str.ofString "number") = some (s.heap.objs.size + 1) from rfl)
  obtain ⟨oS, hoS, hdS⟩ := x.cell _ _ (show (cellsFrom (s.heap.objs.size + 1) (scp 9).names []).lookup (Str.ofString "signs") = some (s.heap.objs.size + 1 + 1) from rfl)
  have hle : X.n ≤ s.heap.objs.size := I.size
  have hN1 : X.n ≤ s.heap.objs.size + 1 := Nat.le_trans hle (Nat.le_succ _)
  have hN2 : X.n ≤ s.heap.objs.size + 1 + 1 := Nat.le_trans hN1 (Nat.le_succ _)
  have hnone : ∀ b, s.heap.objs.size ≤ b → hid X mnone s.heap b = none := fun b hb => by
    unfold hid; split
    · cases q : s.heap.get? b with
      | none => rfl
      | some o => exact absurd (Heap.lt_size q) (Nat.not_lt.mpr hb)
    · rfl
  have hL1 : s.heap.objs.size + 1 ≠ s.heap.objs.size := Nat.succ_ne_self _
  have hL2 : s.heap.objs.size + 1 + 1 ≠ s.heap.objs.size := Nat.ne_of_gt (Nat.lt_trans (Nat.lt_succ_self _) (Nat.lt_succ_self _))
  have hNS : s.heap.objs.size + 1 ≠ s.heap.objs.size + 1 + 1 := Nat.ne_of_lt (Nat.lt_succ_self _)
  have S := (S.addG hoN hN1 hL1 rfl).addG hoS hN2 hL2 rfl
  generalize htree : execs (bdy 9) (callEnvC (Calls.docDef (nm 9) (prm 9) (bdy 9) (scp 9) pm (X.cd 9) doc) s.heap.objs.size (X.fa 9)) = tree
  refine parts_body htree hX (show (A.deeper _).handled = none from hh) (by omega) S (oN := oN) (by unfold gadd; rw [if_neg hNS, if_pos rfl]) hdN gadd_self hdS fun b sv g' m' s' h1 h2 h3 h4 h5 h6 h7 S => ?_
  have hgle : gle (hid X mnone s.heap) g' := fun b o e => by
    have hb : b < s.heap.objs.size := by
      rcases Nat.lt_or_ge b s.heap.objs.size with h | h
      · exact h
      · rw [hnone b h] at e; cases e
    have hb1 : b ≠ s.heap.objs.size + 1 := Nat.ne_of_lt (Nat.lt_trans hb (Nat.lt_succ_self _))
    have hb2 : b ≠ s.heap.objs.size + 1 + 1 := Nat.ne_of_lt (Nat.lt_trans (Nat.lt_trans hb (Nat.lt_succ_self _)) (Nat.lt_succ_self _))
    refine h2 b o hb2 ?_
    unfold gadd; rw [if_neg hb2, if_neg hb1]; exact e
  refine ⟨b, sv, 0, rfl, ?_, h6, Nat.le_of_lt h7, S.keep b _ h3, h1, (S.kept hgle).mono fun b hb => by simp [mnone] at hb⟩
  cases q : s.heap.get? b with
  | none => rfl
  | some o =>
    have e := h4 h5
    have hb : b < s.heap.objs.size := Heap.lt_size q
    have hb1 : b ≠ s.heap.objs.size + 1 := Nat.ne_of_lt (Nat.lt_trans hb (Nat.lt_succ_self _))
    unfold gadd at e; rw [if_neg h5, if_neg hb1, hid_of h6 rfl q] at e
    cases e
end
end Mine
end
section
open PySem PySem.W PyProof.Rows
set_option autoImplicit false
set_option maxRecDepth 100000
namespace Mine
section
variable {prog : Program} {w : World} {A : Around} {s : Shared} {X : Cx} {Q : Value → Shared → Prop} {E : Value → Shared → Prop} {g : Stat} {mu : Mut} {L : Addr} {m : Loc} {env : Env} {R : Result → Shared → Prop}

def mdel (mu : Mut) (a : Addr) : Mut := fun b => if b = a then none else mu b
theorem mdel_ne {mu : Mut} {a b : Addr} (h : b ≠ a) : mdel mu a b = mu b := if_neg h
theorem mdel_self {mu : Mut} {a : Addr} : mdel mu a a = none := if_pos rfl
/-- a mutable list made static -/
theorem St.freeze (S : St X g mu L m s) {a : Addr} {xs : Array Value} (ha : mu a = some xs) : ∃ n, St X (gadd g a (lobj xs n)) (mdel mu a) L m s ∧ g a = none ∧ X.n ≤ a ∧ a ≠ L := by
  obtain ⟨⟨n, e⟩, h1, h2, h3⟩ := S.mus a xs ha
  have S1 : St X g (mdel mu a) L m s := S.weakM fun b ys e => by
    unfold mdel at e; split at e
    · cases e
    · exact e
  exact ⟨n, S1.addG e h1 h2 mdel_self, h3, h1, h2⟩

/-- l[i:j:k] of a list of ints, all of them in the list -/
theorem e_slice3 {value : Expr} {lower upper : Option Expr} {st : Expr} {p pos : Pos} {a : Addr} {xs : Array Value} {lo hi sp : Option Int} (hX : X.Ok)
    (h : wpAny (model prog w) A (eval value env) (fun o s₁ => wpAny (model prog w) A (evalPart lower env) (fun vl s₂ => wpAny (model prog w) A (evalPart upper env) (fun vu s₃ => wpAny (model prog w) A (evalPart (some st) env) (fun vs s₄ =>
      ∃ (g : Stat) (mu : Mut) (L : Addr) (m : Loc), o = .ref a ∧ s₄.heap.IsList a xs ∧ xs.size ≤ 16777216 ∧ IsPart vl lo ∧ IsPart vu hi ∧ IsPart vs sp ∧ sp ≠ some 0 ∧ St X g mu L m s₄ ∧
        (∀ b s', s'.heap.IsList b (slicePick xs lo hi sp) → St X g mu L m s' → Q (.ref b) s')) E s₃) E s₂) E s₁) E s)
    (ht : ∀ o r, letTemporaryGo value o r = pure () := by intro _ _; rfl) :
    wpAny (model prog w) A (eval (.Subscript value (.Slice lower upper (some st) p) pos) env) Q E s := by
  refine wpAny_Subscript_Slice_step (T := "list") list_getitem_lookup (wpAny_mono h (fun o s₁ h₁ => wpAny_Slice (wpAny_mono h₁ (fun vl s₂ h₂ => wpAny_mono h₂ (fun vu s₃ h₃ => wpAny_mono h₃ (fun vs s₄ h₄ => ?_) fun _ _ e => e) fun _ _ e => e) fun _ _ e => e)) fun _ _ e => e) ht
  obtain ⟨g, mu, L, m, rfl, hl, hz, h1, h2, h3, h0, S, h⟩ := h₄
  refine ⟨(hl.push _).typeIs, wpAny_getItem_list_slice (hl.push _) (Heap.IsSliceOf.new ..) h1 h2 h3 h0 ?_ (by rw [sizeLine_eq]; exact hz)⟩
  exact h _ _ ⟨_, Heap.get?_push_size _ rfl, rfl, _, rfl⟩ ((S.push hX (tk := s₄.toks)).push hX (tk := s₄.toks))

theorem pick_ints {xs : Array Value} (hi : AllInts xs) (lo h sp : Option Int) : AllInts (slicePick xs lo h sp) := fun v hv => by
  unfold slicePick at hv
  rw [List.mem_toArray] at hv
  obtain ⟨i, _, e⟩ := List.mem_filterMap.mp hv
  exact hi v (Array.mem_of_getElem? e)

/-- sum(..) of a list of ints -/
theorem sum_st {a : Addr} {xs : Array Value} (hX : X.Ok) (hh : A.handled = none) (S : St X g mu L m s) (hl : s.heap.IsList a xs) (hi : AllInts xs) (h : ∀ z t s', St X g mu L m s' → Q (.int z t) s') :
    wpAny (model prog w) A (call (.builtin "sum") [.ref a]) Q E s := by
  obtain ⟨ys, rfl⟩ := hi.items
  exact sum_intListG hh hl fun h' tk t' hk => h _ _ _ (S.keeps hX hk)

/-- "".join of a static list of texts -/
theorem join_st {a : Addr} {sv : List (List Nat × Tok)} {n : Nat} {t : Tok} (hX : X.Ok) (S : St X g mu L m s) (hl : g a = some (lobj (svals sv) n)) (hz : (sv.map (·.1.length)).sum ≤ 1000000)
    (h : ∀ t' s', St X g mu L m s' → Q (.str (txt (sv.map (·.1)).flatten) t') s') : wpAny (model prog w) A (call (.builtin "str.join") [.str (Str.ofString "") t, .ref a]) Q E s := by
  have e1 : svals sv = (strValues (sv.map fun p => (txt p.1, p.2))).toArray := by unfold svals strValues; rw [List.map_map]; rfl
  have e2 : (sv.map fun p => (txt p.1, p.2)).map (·.1) = sv.map fun p => txt p.1 := by rw [List.map_map]; rfl
  refine SC.join (l := sv.map fun p => (txt p.1, p.2)) (texts := sv.map fun p => txt p.1) (by rw [← e1]; exact S.isG hl) e2 (joinOk_of ?_) fun t' k => ?_
  · have e : (sv.map fun p => txt p.1).map (·.length) = sv.map (·.1.length) := by rw [List.map_map]; exact List.map_congr_left fun p _ => txt_len p.1
    rw [e]
    have : (Str.ofString "").length = 0 := by rw [lit_empty, txt_len]; rfl
    rw [this]; omega
  · have e : Txt.join (Str.ofString "") (sv.map fun p => txt p.1) = txt (sv.map (·.1)).flatten := by
      rw [lit_empty]
      unfold Txt.join
      rw [StrLaws.glued_eq_join]
      apply txt_inj
      rw [txt_list]
      clear e1 e2 hl hz h
      induction sv with
      | nil => rfl
      | cons p r ih =>
        cases r with
        | nil => show (txt p.1).cps.toList = _; rw [txt_list]; simp
        | cons q r' =>
          show (txt p.1 ++ txt [] ++ Str.join (txt []) (txt q.1 :: r'.map fun p => txt p.1)).cps.toList = _
          have ih' : (Str.join (txt []) (txt q.1 :: r'.map fun p => txt p.1)).cps.toList = _ := ih
          rw [Str.cps_append, Str.cps_append, Array.toList_append, Array.toList_append, ih', txt_list, txt_list]
          simp
    rw [e]
    exact h _ _ (S.toks hX)

/-- a list's items handed on by a star -/
theorem e_star {i : Nat} {f x : Str} {p p1 p2 pos : Pos} {a : Addr} {as : List (Str × Tok)} {n : Nat} (hX : X.Ok) (S : St X g mu env.locals m s) (hi : i ∈ [1, 3, 4, 5, 6, 7, 9, 10, 11]) (hf : nm i = f) (hm : m x = some (.ref a)) (hg : g a = some (lobj (tvals as) n)) (hz : as.length ≤ 1000)
    (h : ∀ s₁, s₁.toks = s.toks → St X g mu env.locals m s₁ → codeAny (model prog w) A (.call (.ref (X.fa i)) ⟨as.map fun p => Value.str p.1 p.2, []⟩)
      (fun r s' => match r with | .ok (.ret v) => Q v s' | .ok _ => False | .error e => E e s') s₁)
    (he : starEach [.Starred (.Name x p1) p2] env = [(true, eval (.Name x p1) env)] := by rfl)
    (hgl : env.globals = mainGlobals := by rfl) (hk : env.scope.kind = .function := by rfl) (hl : env.kindOf f = some .globalImplicit := by rfl) (hd : (f == ("__debug__" : Str)) = false := by decide) (hl2 : env.kindOf x = some .local := by rfl) (hd2 : (x == ("__debug__" : Str)) = false := by decide) :
    wpAny (model prog w) A (eval (.Call (.Name f p) [.Starred (.Name x p1) p2] [] pos) env) Q E s := by
  obtain ⟨hv, o, pm, doc, ho, hdt, _⟩ := hX.fn i hi
  refine wpAny_Call_Name_kw (st_glob hX S.inv (hf ▸ hv) ?_ hgl hk hl hd)
  refine Calls.callWith_function (o := o) (fd := Calls.docDef (nm i) (prm i) (bdy i) (scp i) pm (X.cd i) doc) ?_
  rw [he]
  refine ks_lone (st_name S hm ?_ hk hl2 hd2)
  have S0 := S
  have hT : s.TypeIs (.ref a) "list" := ⟨_, S.keep a _ hg, rfl⟩
  refine wpAny_bind (wpAny_specialOf hT F.slot_list_iter.lookup (wpAny_pure ⟨rfl, ?_⟩))
  refine wpAny_collect_seq a (.inl rfl) (S.keep a _ hg) rfl rfl (fun h' hk' => ?_) (by show (tvals as).size ≤ _; unfold tvals; rw [sizeLine_eq]; simp; omega)
  have S' : St X g mu env.locals m { s with heap := h', toks := s.toks } := S.keeps hX hk'
  refine ⟨⟨S'.inv.cls hX ho (by rw [hdt]; nofun), hdt⟩, wpAny_call ?_⟩
  have e : (tvals as).toList = as.map fun p => Value.str p.1 p.2 := by unfold tvals; simp
  show codeAny _ _ (.call (.ref (X.fa i)) ⟨[] ++ (tvals as).toList, []⟩) _ _
  rw [e]
  exact h _ rfl S'

open PySem.SeqAt in
/-- two rows' first three places asked whether they part: they don't -/
theorem ne_rows {a b : Addr} {l k : Int} {x : Str} {t1 t2 t3 u1 u2 u3 : Tok} {n n' : Nat} (ha : s.heap.get? a = some (lobj #[.int l t1, .int k t2, .str x t3] n)) (hb : s.heap.get? b = some (lobj #[.int l u1, .int k u2, .str x u3] n')) (hx : PyData.strOk x = true) (hu : A.units + 10 < cLine)
    (h : Q (.bool false) s) : wpAny (model prog w) A (compareOp .NotEq (.ref a) (.ref b)) Q E s := by
  have r : ∀ {c : Addr} {v1 v2 v3 : Tok} {n : Nat}, s.heap.get? c = some (lobj #[.int l v1, .int k v2, .str x v3] n) → Reads s.heap (.ref c) (.list [.int l, .int k, .str x]) [c] := fun e =>
    .list e rfl rfl (.cons (.int _ _) (.cons (.int _ _) (.cons (.str _ _) .nil)))
  refine compareNe_reads (r ha) (r hb) (by simp [PyData.canLay0, PyData.canLayAll0, hx]) (by simp [PyData.canLay0, PyData.canLayAll0, hx]) ?_ ?_
  · have : min (PyData.list [.int l, .int k, .str x]).depth (PyData.list [.int l, .int k, .str x]).depth ≤ 5 := by
      rw [Nat.min_self]; simp [PyData.depth, PyData.depthAll]
    omega
  · have e : PyData.eqv (.list [.int l, .int k, .str x]) (.list [.int l, .int k, .str x]) = true := by simp [PyData.eqv, PyData.eqvAll]
    rw [e]; exact h
open PySem.SeqAt in
theorem eq_heaps {a b a' b' : Addr} {l k : Int} {x : Str} {t1 t2 t3 u1 u2 u3 : Tok} {n n' i i' : Nat} (hA : s.heap.get? a' = some (lobj #[.ref a] i)) (hB : s.heap.get? b' = some (lobj #[.ref b] i'))
    (ha : s.heap.get? a = some (lobj #[.int l t1, .int k t2, .str x t3] n)) (hb : s.heap.get? b = some (lobj #[.int l u1, .int k u2, .str x u3] n')) (hx : PyData.strOk x = true) (hu : A.units + 10 < cLine)
    (h : Q (.bool true) s) : wpAny (model prog w) A (compareOp .Eq (.ref a') (.ref b')) Q E s := by
  have r : ∀ {c : Addr} {v1 v2 v3 : Tok} {n : Nat}, s.heap.get? c = some (lobj #[.int l v1, .int k v2, .str x v3] n) → Reads s.heap (.ref c) (.list [.int l, .int k, .str x]) [c] := fun e =>
    .list e rfl rfl (.cons (.int _ _) (.cons (.int _ _) (.cons (.str _ _) .nil)))
  have r' : ∀ {c d : Addr} {i : Nat}, s.heap.get? c = some (lobj #[.ref d] i) → Reads s.heap (.ref d) (.list [.int l, .int k, .str x]) [d] → Reads s.heap (.ref c) (.list [.list [.int l, .int k, .str x]]) [c, d] := fun e q =>
    .list e rfl rfl (.cons q .nil)
  refine compareEq_reads (r' hA (r ha)) (r' hB (r hb)) (by simp [PyData.canLay0, PyData.canLayAll0, hx]) (by simp [PyData.canLay0, PyData.canLayAll0, hx]) ?_ ?_
  · have : min (PyData.list [.list [.int l, .int k, .str x]]).depth (PyData.list [.list [.int l, .int k, .str x]]).depth ≤ 5 := by
      rw [Nat.min_self]; simp [PyData.depth, PyData.depthAll]
    omega
  · have e : PyData.eqv (.list [.list [.int l, .int k, .str x]]) (.list [.list [.int l, .int k, .str x]]) = true := by simp [PyData.eqv, PyData.eqvAll]
    rw [e]; exact h
end
end Mine
end
section
open PySem PySem.W PyProof.Rows
set_option autoImplicit false
set_option maxRecDepth 100000
namespace Mine

/-- a name's place and its leaves -/
abbrev Node := Nat × List Addr
section
variable {nf : Addr → List (List Nat)}
def wl (nf : Addr → List (List Nat)) (x : Node) : List Nat := walkL (x.2.map nf)
def kx (nf : Addr → List (List Nat)) (x : Node) : Int × Int := (((wl nf x).length : Nat), (x.1 : Nat))
def trH (nf : Addr → List (List Nat)) (nd : Addr → Node) (b : Addr) : Int × Int × Str := (((wl nf (nd b)).length : Nat), ((nd b).1 : Nat), txt (wl nf (nd b)))
def trR (nf : Addr → List (List Nat)) (nd : Addr → Node) (nA : Addr → Addr) (b : Addr) : Int × Int × Str × Addr := (((wl nf (nd b)).length : Nat), ((nd b).1 : Nat), txt (wl nf (nd b)), nA b)
theorem key_trH {nd : Addr → Node} {b : Addr} : key (trH nf nd) b = kx nf (nd b) := rfl
theorem rkey_trR {nd : Addr → Node} {nA : Addr → Addr} {b : Addr} : rkey (trR nf nd nA) b = kx nf (nd b) := rfl

theorem nodup_inj {α β : Type} {f : α → β} : ∀ {l : List α}, (l.map f).Nodup → ∀ {a b : α}, a ∈ l → b ∈ l → f a = f b → a = b
  | [], _, _, _, h, _, _ => nomatch h
  | c :: r, h, a, b, ha, hb, e => by
    rw [List.map_cons, List.nodup_cons] at h
    rcases List.mem_cons.mp ha with e1 | h1
    · rcases List.mem_cons.mp hb with e2 | h2
      · rw [e1, e2]
      · refine absurd ?_ h.1
        rw [← e1, e]; exact List.mem_map_of_mem h2
    · rcases List.mem_cons.mp hb with e2 | h2
      · refine absurd ?_ h.1
        rw [← e2, ← e]; exact List.mem_map_of_mem h1
      · exact nodup_inj h.2 h1 h2 e

/-- the least of the same names is one -/
theorem min_eq {H R : List Node} (hp : H.Perm R) (hn : (R.map (·.1)).Nodup) {x r : Node} (hx : x ∈ H) (hr : r ∈ R) (mx : ∀ y ∈ H, kle (kx nf x) (kx nf y)) (mr : ∀ y ∈ R, kle (kx nf r) (kx nf y)) : x = r := by
  have h1 := mx r (hp.mem_iff.mpr hr)
  have h2 := mr x (hp.mem_iff.mp hx)
  refine nodup_inj hn (hp.mem_iff.mp hx) hr ?_
  unfold kle klt kx at h1 h2
  dsimp only at h1 h2
  omega

theorem heap_least {tr : Addr → Int × Int × Str} {hs : List Addr} {x : Addr} (h : HeapFrom hs.length 0 (kf (key tr) hs)) (hx : hs[0]? = some x) : ∀ y ∈ hs, kle (key tr x) (key tr y) := by
  intro y hy
  obtain ⟨j, hj, rfl⟩ := List.getElem_of_mem hy
  have := heapFrom_min h j hj
  rw [kf_at hx, kf_at (List.getElem?_eq_getElem hj)] at this
  exact this
theorem sorted_least {f : Addr → Int × Int} {a : Addr} {r : List Addr} (h : (a :: r).Pairwise fun x y => kle (f x) (f y)) : ∀ y ∈ a :: r, kle (f a) (f y) := fun y hy => by
  rcases List.mem_cons.mp hy with rfl | hy
  · exact kle_refl _
  · exact (List.pairwise_cons.mp h).1 y hy

/-- what holds ahead of turn i of the second loop -/
structure LI (nf : Addr → List (List Nat)) (lv : List Addr) (g : Stat) (i : Nat) (hs rs : List Addr) (nd : Addr → Node) (nA : Addr → Addr) : Prop where
  ent : ∀ b ∈ hs, ∃ n t1 t2 t3, g b = some (lobj #[.int ((wl nf (nd b)).length : Nat) t1, .int ((nd b).1 : Nat) t2, .str (txt (wl nf (nd b))) t3] n)
  row : ∀ b ∈ rs, ∃ n t1 t2 t3, g b = some (lobj #[.int ((wl nf (nd b)).length : Nat) t1, .int ((nd b).1 : Nat) t2, .str (txt (wl nf (nd b))) t3, .ref (nA b)] n)
  nam : ∀ b ∈ rs, ∃ n, g (nA b) = some (lobj (refs (nd b).2) n)
  leaf : ∀ b ∈ rs, (nd b).2 ≠ [] ∧ ∀ c ∈ (nd b).2, c ∈ lv
  perm : (hs.map nd).Perm (rs.map nd)
  nodup : (rs.map fun b => (nd b).1).Nodup
  lt : ∀ b ∈ rs, (nd b).1 < 7 + i
  len : rs.length + i = 7
  sum : (rs.map fun b => (nd b).2.length).sum = 7

theorem sum_mem {l : List Nat} {x : Nat} (h : x ∈ l) : x ≤ l.sum := by
  induction l with
  | nil => cases h
  | cons a r ih =>
    rw [List.sum_cons]
    rcases List.mem_cons.mp h with rfl | h
    · omega
    · have := ih h; omega
theorem LI.few {lv : List Addr} {g : Stat} {i : Nat} {hs rs : List Addr} {nd : Addr → Node} {nA : Addr → Addr} (h : LI nf lv g i hs rs nd nA) {b : Addr} (hb : b ∈ rs) : (nd b).2.length ≤ 7 := by
  have := sum_mem (List.mem_map_of_mem (f := fun b => (nd b).2.length) hb)
  rw [h.sum] at this; exact this
theorem sum_perm {l l' : List Nat} (h : l.Perm l') : l.sum = l'.sum := by
  induction h with
  | nil => rfl
  | cons a _ ih => rw [List.sum_cons, List.sum_cons, ih]
  | swap a b l => simp only [List.sum_cons]; omega
  | trans _ _ h1 h2 => exact h1.trans h2

theorem LI.gle {lv : List Addr} {g g' : Stat} {i : Nat} {hs rs : List Addr} {nd : Addr → Node} {nA : Addr → Addr} (h : LI nf lv g i hs rs nd nA) (hg : gle g g') : LI nf lv g' i hs rs nd nA :=
  { h with
    ent := fun b hb => let ⟨n, t1, t2, t3, e⟩ := h.ent b hb; ⟨n, t1, t2, t3, hg _ _ e⟩
    row := fun b hb => let ⟨n, t1, t2, t3, e⟩ := h.row b hb; ⟨n, t1, t2, t3, hg _ _ e⟩
    nam := fun b hb => let ⟨n, e⟩ := h.nam b hb; ⟨n, hg _ _ e⟩ }
theorem LI.sort {lv : List Addr} {g : Stat} {i : Nat} {hs rs rs' : List Addr} {nd : Addr → Node} {nA : Addr → Addr} (h : LI nf lv g i hs rs nd nA) (hp : rs'.Perm rs) : LI nf lv g i hs rs' nd nA where
  ent := h.ent
  row := fun b hb => h.row b (hp.mem_iff.mp hb)
  nam := fun b hb => h.nam b (hp.mem_iff.mp hb)
  leaf := fun b hb => h.leaf b (hp.mem_iff.mp hb)
  perm := h.perm.trans (hp.map nd).symm
  nodup := (hp.map _).nodup_iff.mpr h.nodup
  lt := fun b hb => h.lt b (hp.mem_iff.mp hb)
  len := by rw [hp.length_eq]; exact h.len
  sum := by rw [sum_perm (hp.map _)]; exact h.sum

/-- the least name went -/
theorem LI.one {lv : List Addr} {g : Stat} {i : Nat} {hs hs1 r : List Addr} {a x : Addr} {nd : Addr → Node} {nA : Addr → Addr} (h : LI nf lv g i hs (a :: r) nd nA) (hs' : (a :: r).Pairwise fun x y => kle (kx nf (nd x)) (kx nf (nd y)))
    (hH : HeapFrom hs.length 0 (kf (key (trH nf nd)) hs)) (hx : hs[0]? = some x) (hp : (x :: hs1).Perm hs) : nd x = nd a ∧ (hs1.map nd).Perm (r.map nd) := by
  have e : nd x = nd a := by
    refine min_eq (nf := nf) h.perm (by rw [List.map_map]; exact h.nodup) (List.mem_map_of_mem (List.mem_of_getElem? hx)) (List.mem_map_of_mem List.mem_cons_self) (fun y hy => ?_) fun y hy => ?_
    · obtain ⟨c, hc, rfl⟩ := List.mem_map.mp hy
      exact heap_least hH hx c hc
    · obtain ⟨c, hc, rfl⟩ := List.mem_map.mp hy
      exact sorted_least hs' c hc
  refine ⟨e, ?_⟩
  have := (hp.map nd).trans h.perm
  rw [List.map_cons, List.map_cons, e] at this
  exact List.Perm.cons_inv this
/-- the next one -/
theorem LI.two {hs1 r : List Addr} {b y : Addr} {nd : Addr → Node} (hperm : (hs1.map nd).Perm ((b :: r).map nd)) (hn : ((b :: r).map fun b => (nd b).1).Nodup) (hs' : (b :: r).Pairwise fun x y => kle (kx nf (nd x)) (kx nf (nd y)))
    (hH : HeapFrom hs1.length 0 (kf (key (trH nf nd)) hs1)) (hy : hs1[0]? = some y) : nd y = nd b := by
  refine min_eq (nf := nf) hperm (by rw [List.map_map]; exact hn) (List.mem_map_of_mem (List.mem_of_getElem? hy)) (List.mem_map_of_mem List.mem_cons_self) (fun y hy => ?_) fun y hy => ?_
  · obtain ⟨c, hc, rfl⟩ := List.mem_map.mp hy
    exact heap_least hH ‹hs1[0]? = some _› c hc
  · obtain ⟨c, hc, rfl⟩ := List.mem_map.mp hy
    exact sorted_least hs' c hc
/-- it gave way -/
theorem LI.gave {hs1 hs2 r : List Addr} {b y e : Addr} {nd : Addr → Node} (hperm : (hs1.map nd).Perm ((b :: r).map nd)) (ey : nd y = nd b) (hp : (y :: hs2).Perm (e :: hs1)) : (hs2.map nd).Perm (nd e :: r.map nd) := by
  have h1 := hp.map nd
  rw [List.map_cons, List.map_cons, ey] at h1
  have h2 : (nd b :: hs2.map nd).Perm (nd b :: nd e :: r.map nd) := h1.trans ((List.Perm.cons _ hperm).trans (by rw [List.map_cons]; exact List.Perm.swap _ _ _))
  exact List.Perm.cons_inv h2
end
end Mine
end
section
open PySem PySem.W PyProof.Rows
set_option autoImplicit false
set_option maxRecDepth 100000
namespace Mine
section
variable {prog : Program} {w : World} {A : Around} {s : Shared} {X : Cx} {Q : Value → Shared → Prop} {E : Value → Shared → Prop} {g : Stat} {mu : Mut} {L : Addr} {m : Loc} {env : Env} {R : Result → Shared → Prop}

abbrev envL (pm cd doc : Value) (L fa : Addr) : Env := callEnvC (Calls.docDef (nm 11) (prm 11) (bdy 11) (scp 11) pm cd doc) L fa
theorem envL_O {pm cd doc : Value} {L fa : Addr} : (envL pm cd doc L fa).cells.lookup (Str.ofString "own") = some (L + 1 + 1) := rfl
theorem envL_S {pm cd doc : Value} {L fa : Addr} : (envL pm cd doc L fa).cells.lookup (Str.ofString "script") = some (L + 1) := rfl

/-- a display of ints -/
inductive ILits : List Expr → Nat → Prop
  | nil : ILits [] 0
  | cons {x : Int} {k n : Nat} {p : Pos} {es : List Expr} (h : ILits es n) : ILits (.Constant (.int x) k p :: es) (n + 1)
theorem a_int {x : Int} {k : Nat} {p pos : Pos} {rest : List Expr} {M : Model} {Q : List Value → Shared → Prop} (hX : X.Ok) (S : St X g mu L m s)
    (h : ∀ t s₁, St X g mu L m s₁ → wpAny M A (spliced (backTo pos (starEach rest env))) (fun vs s₂ => Q (.int x t :: vs) s₂) E s₁) : wpAny M A (spliced (backTo pos (starEach (.Constant (.int x) k p :: rest) env))) Q E s :=
  a_cons (c_int hX S h) starC
theorem a_ilits {M : Model} {pos : Pos} {es : List Expr} {n : Nat} (hX : X.Ok) (hL : ILits es n) : ∀ {s : Shared} {Q : List Value → Shared → Prop}, St X g mu L m s → (∀ vs s', vs.length = n → (∀ v ∈ vs, ∃ z t, v = .int z t) → St X g mu L m s' → Q vs s') →
    wpAny M A (spliced (backTo pos (starEach es env))) Q E s := by
  induction hL with
  | nil => intro s Q S h; exact a_nil (h _ _ rfl (fun v hv => by cases hv) S)
  | cons _ ih => intro s Q S h; exact a_int hX S fun t s₁ S => ih S fun vs s' hl hv S => h _ _ (by simp [hl]) (fun v hv' => by
      rcases List.mem_cons.mp hv' with rfl | hv'
      · exact ⟨_, _, rfl⟩
      · exact hv v hv') S

theorem law_own {pm cd doc : Value} {fa : Addr} {oO : Obj} (hX : X.Ok) (S : St X g mnone L m s) (hO : g (L + 1 + 1) = some oO) (hdO : oO.data = .cell none) {st : Stmt} {rest : List Stmt} (hst : bdy 11 = st :: rest) {Q : Flow → Shared → Prop}
    (h : ∀ (g2 : Stat) (oO' : Obj) (ow : Addr) (vs : List Value) s', (∀ b o, b ≠ L + 1 + 1 → g b = some o → g2 b = some o) → g2 (L + 1 + 1) = some oO' → oO'.data = .cell (some (.ref ow)) → g2 ow = some (lobj vs.toArray 0) → vs.length = 7 → (∀ v ∈ vs, ∃ z t, v = .int z t) → 1 ≤ s'.toks → St X g2 mnone L m s' → Q .next s') :
    wpAny (model prog w) A (exec st (envL pm cd doc L fa)) Q noE s := by
  obtain ⟨rfl, -⟩ := List.cons.inj hst
  refine wpAny_Assign_Name ?_ ?sw
  case sw => rfl
  refine wpAny_List (a_cons (wpAny_Constant_int (wpAny_with_toks (n := 1) (Nat.le_add_left ..) (a_ilits hX (.cons (.cons (.cons (.cons (.cons (.cons .nil)))))) (S.toks hX) fun vs s₁ hl hv S ht₁ => ⟨by rw [List.length_cons, hl, sizeLine_eq]; decide, ?_⟩))))
  refine newL hX S (Q := fun v s' => 1 ≤ s'.toks → wpAny (model prog w) A (storeName (envL pm cd doc L fa) "own" v) _ noE s') (tk := s₁.toks) (fun b g1 s₂ hg1 hb hbn hbX hbL hbm S ht₂ => ?_) ht₁
  have hne : b ≠ L + 1 + 1 := fun e => by rw [e, hO] at hbn; cases hbn
  refine wpAny_with_toks (n := 1) ht₂ (wpAny_mono (E := noE) (st_storeC (env := envL pm cd doc L fa) (Q := fun _ s' => 1 ≤ s'.toks → Q .next s') hX S (hg1 _ _ hO) hdO (fun oO' s₃ hd' S ht₃ => ?_) envL_O rfl rfl) (fun _ _ z => z) fun _ _ z => z.elim)
  refine h _ oO' b (.int 71817 s.toks :: vs) s₃ (fun c o hc e => ?_) gadd_self hd' ?_ (by rw [List.length_cons, hl]) (fun v hv' => ?_) ht₃ S
  · unfold gadd; rw [if_neg hc]; exact hg1 _ _ e
  · unfold gadd; rw [if_neg hne]; exact hb
  · rcases List.mem_cons.mp hv' with rfl | hv'
    · exact ⟨_, _, rfl⟩
    · exact hv v hv'

theorem gadd_mono {g g' : Stat} {a : Addr} {o : Obj} (h : gle g g') : gle (gadd g a o) (gadd g' a o) := fun b ob e => by
  unfold gadd at e ⊢
  split at e
  · rw [if_pos ‹_›]; exact e
  · rw [if_neg ‹_›]; exact h _ _ e

/-- the seven names -/
def LvAt (X : Cx) (g : Stat) (nf : Addr → List (List Nat)) (b : Addr) : Prop := X.n ≤ b ∧ IsLeaf (nf b) ∧ ∃ sv n, g b = some (lobj (svals sv) n) ∧ sv.map (·.1) = nf b
/-- a list of texts, read -/
def textsOf (g : Stat) (b : Addr) : List (List Nat) := match g b with
  | some o => match o.data with
    | .seq xs _ => xs.toList.map fun v => match v with
      | .str x _ => x.cps.toList
      | _ => []
    | _ => []
  | none => []
theorem textsOf_eq {g : Stat} {b : Addr} {sv : List (List Nat × Tok)} {n : Nat} (h : g b = some (lobj (svals sv) n)) : textsOf g b = sv.map (·.1) := by
  unfold textsOf; rw [h]
  show List.map _ (svals sv).toList = _
  unfold svals
  rw [List.map_map]
  refine List.map_congr_left fun p _ => ?_
  show (txt p.1).cps.toList = p.1
  exact txt_list _

theorem law_leaves {pm cd doc : Value} {fa : Addr} {oS oO : Obj} {sA ow : Addr} {xs : Array Value} {vs : List Value} {k0 : Nat} (hX : X.Ok) (hh : A.handled = none) (ht : 1 ≤ s.toks) (hd : A.depth < recursionLimit) (S : St X g mnone L m s)
    (hS : g (L + 1) = some oS) (hdS : oS.data = .cell (some (.ref sA))) (hsA : X.h₁.IsList sA xs) (hxs : xs.size ≤ 1000) (hxi : AllInts xs)
    (hO : g (L + 1 + 1) = some oO) (hdO : oO.data = .cell (some (.ref ow))) (how : g ow = some (lobj vs.toArray k0)) (hvl : vs.length = 7) (hvi : ∀ v ∈ vs, ∃ z t, v = .int z t)
    {s0 st : Stmt} {rest : List Stmt} (hst : bdy 11 = s0 :: st :: rest) {Q : Flow → Shared → Prop}
    (h : ∀ (D : Addr) (k : Nat) (lv : List Addr) (g' : Stat) s', lv.length = 7 → (∀ b ∈ lv, LvAt X g' (textsOf g') b) → gle g g' → g' D = none → X.n ≤ D → 1 ≤ s'.toks → St X (gadd g' D (lobj (refs lv) k)) mnone L (upd m "leaves" (.ref D)) s' → Q .next s') :
    wpAny (model prog w) A (exec st (envL pm cd doc L fa)) Q noE s := by
  obtain ⟨rfl, -⟩ := List.cons.inj (List.cons.inj hst).2
  refine assign_comp hX ht (it_range1 hX S (by decide) (by decide) fun I s₂ S hgI hmI hIL hIX hIs hit => ?_) rfl rfl ?c1 rfl ?c2 rfl rfl rfl
  case c1 => intro z hz; revert z hz; decide
  case c2 => intro z hz; revert z hz; decide
  refine ⟨I, _, 7, _, _, rfl, Walks.range hh I 0 1 7, ?_, hIX, hIs, by decide, fun i g' ys => gle g g' ∧ ∃ lv : List Addr, ys = refs lv ∧ lv.length = i ∧ ∀ b ∈ lv, LvAt X g' (textsOf g') b, g, g, mnone, m, ?_, ?_, ⟨gle.refl, [], rfl, rfl, nofun⟩, S, hgI, hmI, hIL, ?_, ?_⟩
  · simpa using hit
  · rintro _ _ _ ⟨hg, _⟩; exact hg
  · intro b hb; rw [List.mem_singleton] at hb; exact .inl hb
  · rintro i v g' gI ys muD C mC s₃ hi ⟨hgg, lv, rfl, hl, hlv⟩ ⟨tv, rfl⟩ hle ht₃ S
    have e10 : ((0 : Int) + (i : Nat) * 1) = (i : Int) := by omega
    rw [e10] at S
    obtain ⟨oA, hsA, hsAc, n0, hsAd⟩ := hsA
    obtain ⟨z0, t0, hz0⟩ : ∃ z t, vs[i]? = some (Value.int z t) := by
      have hi' : i < vs.length := by omega
      obtain ⟨z, t, e⟩ := hvi _ (List.getElem_mem hi')
      exact ⟨z, t, by rw [List.getElem?_eq_getElem hi', e]⟩
    refine e_fn (i := 9) hX S.inv (by decide) rfl (wpAny_with_toks (n := 1) ht₃ (a_cons (wpAny_BinOp (Subscript_ (st_nameC S (hle _ _ (hgg _ _ hO)) hdO (st_name S upd_same (i_sta S (hle _ _ (hgg _ _ how)) (by omega) (by omega) (by simpa using hz0) ?_)))))))
    refine e_built1 hX S.inv (by decide) (by boot_fast) (by decide) (e_slice3 (a := sA) (xs := xs) (lo := some (i : Int)) (hi := none) (sp := some 7) hX (st_nameC S (hle _ _ (hgg _ _ hS)) hdS ?_))
    rw [evalPart_some, evalPart_none, evalPart_some]
    refine st_name S upd_same (wpAny_pure (c_int hX S fun t7 s₄ S => ⟨_, _, _, _, rfl, ⟨oA, S.inv.cls hX hsA (by intro q e; rw [hsAd] at e; cases e), hsAc, n0, hsAd⟩, by omega, .int _ _, .none, .int _ _, by decide, S, fun b s₅ hb S => ?_⟩))
    refine sum_st hX hh S hb (pick_ints hxi _ _ _) fun z t s₆ S => b_add hX S fun t' s₇ S => a_nil fun ht₇ => ⟨S.inv, codeAny_mono (law_parts_ok hX S.inv hh ht₇ hd) ?_⟩
    rintro r s₈ ⟨b, sv, n, rfl, hbn, hbX, hbz, hb, hleaf, kept⟩
    have S := S.after0 kept
    have hCb : C < b := Nat.lt_of_lt_of_le ‹St X gI muD C _ s₇›.ns.lt hbz
    have gIb : gI b = none := by
      cases q : gI b with
      | none => rfl
      | some o => rw [‹St X gI muD C _ s₇›.keep _ _ q] at hbn; cases hbn
    have mub : muD b = none := by
      cases q : muD b with
      | none => rfl
      | some o => obtain ⟨⟨n, e⟩, _⟩ := ‹St X gI muD C _ s₇›.mus _ _ q; rw [e] at hbn; cases hbn
    have g'b : g' b = none := by
      cases q : g' b with
      | none => rfl
      | some o => rw [hle _ _ q] at gIb; cases gIb
    refine ⟨gadd g' b (lobj (svals sv) n), gadd gI b (lobj (svals sv) n), _, ⟨hgg.trans (gadd_le g'b), lv ++ [b], by simp [refs], by simp [hl], fun c hc => ?_⟩, gadd_mono hle, gadd_le gIb, fun c o e => ?_, S.addG hb hbX (Nat.ne_of_gt hCb) mub⟩
    · rcases List.mem_append.mp hc with hc | hc
      · obtain ⟨h1, h2, sv', n', h3, h4⟩ := hlv c hc
        have h3' := gadd_le (o := lobj (svals sv) n) g'b _ _ h3
        refine ⟨h1, ?_, sv', n', h3', ?_⟩
        · rw [textsOf_eq h3']; rw [textsOf_eq h3] at h2; exact h2
        · rw [textsOf_eq h3']
      · rw [List.mem_singleton] at hc
        subst hc
        have h3' : gadd g' c (lobj (svals sv) n) c = some (lobj (svals sv) n) := gadd_self
        exact ⟨hbX, by rw [textsOf_eq h3']; exact hleaf, sv, n, h3', by rw [textsOf_eq h3']⟩
    · unfold gadd at e
      split at e
      · rename_i hcb
        subst hcb; exact .inr hCb
      · exact .inl e
  · rintro D k g' ys s' ⟨hgg, lv, rfl, hl, hlv⟩ hz hgD hXD ht' S
    exact h D k lv g' s' hl hlv hgg hgD hXD ht' S
end
end Mine
end
section
open PySem PySem.W PyProof.Rows
set_option autoImplicit false
set_option maxRecDepth 100000
namespace Mine
section
variable {prog : Program} {w : World} {A : Around} {s : Shared} {X : Cx} {env : Env} {Q : Flow → Shared → Prop}

/-- for_st, the turn told that the iterator stands -/
theorem for_st2 {x : Str} {px pos : Pos} {iter : Expr} {body : List Stmt} (hX : X.Ok) (ht : 1 ≤ s.toks)
    (h : wpAny (model prog w) A (eval iter env) (fun xv s₁ => wpAny (model prog w) A (pyIter xv) (fun it s₂ =>
      ∃ I fp n P Sw, it = .ref I ∧ Walks prog w A I fp [I] n P Sw ∧ Sw 0 s₂.heap ∧ X.n ≤ I ∧ (∀ i h, Sw i h → (h.get? I).isSome = true) ∧
        ∃ (J : Nat → Stat → Mut → Loc → Prop) (g₀ g : Stat) (mu : Mut) (m : Loc), (∀ i g mu m, J i g mu m → gle g₀ g) ∧ (∀ b ∈ fp, b = I ∨ (g₀ b).isSome) ∧ J 0 g mu m ∧ St X g mu env.locals m s₂ ∧ g I = none ∧ mu I = none ∧ I ≠ env.locals ∧
        (∀ i v g mu m gI s₃, i < n → J i g mu m → P i v → g I = none → mu I = none → gle g gI → (gI I).isSome = true → 1 ≤ s₃.toks → St X gI mu env.locals (upd m x v) s₃ →
          wpAny (model prog w) A (execs body env) (fun f s₄ => match f with
            | .next | .cont => ForNext X env.locals I gI (J (i + 1)) s₄
            | .brk => Q .next s₄
            | .ret v => Q (.ret v) s₄) noE s₃) ∧
        (∀ g mu m s, J n g mu m → St X g mu env.locals m s → 1 ≤ s.toks → Q .next s)) noE s₁) noE s)
    (hk : env.scope.kind = .function := by rfl) (hl : env.kindOf x = some .local := by rfl)
    (hs : ∀ x, foldedSetIterable iter env x = pure x := by intro _; rfl) :
    wpAny (model prog w) A (exec (.For (.Name x px) iter body [] pos) env) Q noE s := by
  refine for_ (wpAny_mono (wpAny_toks_of ht h) (fun xv s₁ h₁ => wpAny_mono (wpAny_toks_of h₁.1 h₁.2) (fun it s₂ h₂ => ?_) fun _ _ x => x.2) fun _ _ x => x.2) hs
  obtain ⟨htk, h₂⟩ := h₂
  obtain ⟨I, fp, n, P, Sw, rfl, W, hS0, hIn, hIS, J, g₀, g, mu, m, hJg, hfp, hJ0, St0, hgI, hmI, hIL, turn, fin⟩ := h₂
  -- the state with the iterator turned
  have step : ∀ {g : Stat} {mu : Mut} {m : Loc} {s : Shared} {h' : Heap} {tk : Nat}, St X g mu env.locals m s → g I = none → mu I = none → (∀ b o, b ∉ [I] → s.heap.get? b = some o → h'.get? b = some o) →
      St X (gopt g I (h'.get? I)) mu env.locals m { s with heap := h', toks := tk } := by
    intro g mu m s h' tk S hg hm hk
    have S1 : St X g mu env.locals m { s with heap := h', toks := tk } := S.mono hX (fun b o hb e => hk b o (fun hm' => by
      rw [List.mem_singleton] at hm'
      subst b
      rcases hb with hb | hb | hb | hb
      · omega
      · rw [hg] at hb; cases hb
      · rw [hm] at hb; cases hb
      · exact hIL hb) e) rfl S.inv.gens
    refine ⟨S1.inv, S1.ns, S1.low, fun b o e => ?_, fun b o e => ?_, ?_, fun a xs e => ?_⟩
    · unfold gopt at e; split at e
      · subst b; exact e
      · exact S1.keep b o e
    · unfold gopt at e; split at e
      · subst b; exact hIn
      · exact S1.gnew b o e
    · rw [gopt_ne (Ne.symm hIL)]; exact S1.gout
    · have q := S1.mus a xs e
      refine ⟨q.1, q.2.1, q.2.2.1, ?_⟩
      rw [gopt_ne (fun h => by rw [h, hm] at e; cases e)]
      exact q.2.2.2
  refine ⟨I, fp, [I], n, P, Sw, rfl, W, fun i s => 1 ≤ s.toks ∧ ∃ g mu m, J i g mu m ∧ St X g mu env.locals m s ∧ g I = none ∧ mu I = none, ⟨⟨htk, g, mu, m, hJ0, St0, hgI, hmI⟩, hS0⟩, ?_, ?_⟩
  · rintro i s₃ v h' tk hi ⟨ht, g, mu, m, hJ, S, hg, hm⟩ hSi hP hS' hk' htk'
    have S1 := step (tk := tk) S hg hm hk'
    refine wpAny_with_toks (n := 1) (by show 1 ≤ tk; omega) (st_store hX S1 (fun s₄ S₄ ht₄ => ?_) hk hl)
    have hgg : gle g (gopt g I (h'.get? I)) := gopt_le hg
    have body := turn i v g mu m _ s₄ hi hJ hP hg hm hgg (by rw [gopt_self]; exact hIS _ _ hS') ht₄ S₄
    refine wpAny_with_toks (n := 1) ht₄ (wpAny_mono body (fun f s₅ h₅ ht₅ => ?_) fun _ _ x => x.elim)
    have next : ForNext X env.locals I (gopt g I (h'.get? I)) (J (i + 1)) s₅ → (1 ≤ s₅.toks ∧ ∃ g mu m, J (i + 1) g mu m ∧ St X g mu env.locals m s₅ ∧ g I = none ∧ mu I = none) ∧ Sw (i + 1) s₅.heap := by
      rintro ⟨g', gN, mu', m', hJ', h1, h2, h3, h4, S₅⟩
      refine ⟨⟨ht₅, gN, mu', m', hJ', S₅.weak h1, h3, h4⟩, W.frame _ _ _ hS' fun b hb o e => ?_⟩
      rcases hfp b hb with rfl | hb'
      · exact S₅.keep b o (h2 b o (gopt_self.trans e))
      · obtain ⟨o', ho'⟩ := Option.isSome_iff_exists.mp hb'
        have e1 : h'.get? b = some o' := S1.keep b o' (hgg b o' (hJg i g mu m hJ b o' ho'))
        rw [e] at e1; cases e1
        exact S₅.keep b _ (h2 b _ (hgg b _ (hJg i g mu m hJ b _ ho')))
    cases f with
    | next => exact next h₅
    | cont => exact next h₅
    | brk => exact h₅
    | ret v => exact h₅
  · rintro s₃ h' tk ⟨ht, g, mu, m, hJ, S, hg, hm⟩ hSn hk' htk'
    have S1 := step (tk := tk) S hg hm hk'
    exact fin g mu m _ hJ (S1.weak (gopt_le hg)) (by show 1 ≤ tk; omega)
end
end Mine
end
section
open PySem PySem.W PyProof.Rows
set_option autoImplicit false
set_option maxRecDepth 100000
namespace Mine

/-- what holds ahead of turn i of the first loop -/
structure L1 (nf : Addr → List (List Nat)) (lv : List Addr) (g : Stat) (i : Nat) (hs rs : List Addr) (nd : Addr → Node) (nA : Addr → Addr) : Prop where
  ent : ∀ b ∈ hs, ∃ n t1 t2 t3, g b = some (lobj #[.int ((wl nf (nd b)).length : Nat) t1, .int ((nd b).1 : Nat) t2, .str (txt (wl nf (nd b))) t3] n)
  row : ∀ b ∈ rs, ∃ n t1 t2 t3, g b = some (lobj #[.int ((wl nf (nd b)).length : Nat) t1, .int ((nd b).1 : Nat) t2, .str (txt (wl nf (nd b))) t3, .ref (nA b)] n)
  nam : ∀ b ∈ rs, ∃ n, g (nA b) = some (lobj (refs (nd b).2) n)
  hn : hs.map nd = (List.range i).map fun k => (k, [lv.getD k 0])
  rn : rs.map nd = (List.range i).map fun k => (k, [lv.getD k 0])

theorem L1.hlen {nf : Addr → List (List Nat)} {lv : List Addr} {g : Stat} {i : Nat} {hs rs : List Addr} {nd : Addr → Node} {nA : Addr → Addr} (h : L1 nf lv g i hs rs nd nA) : hs.length = i := by
  have := congrArg List.length h.hn; simpa using this
theorem L1.rlen {nf : Addr → List (List Nat)} {lv : List Addr} {g : Stat} {i : Nat} {hs rs : List Addr} {nd : Addr → Node} {nA : Addr → Addr} (h : L1 nf lv g i hs rs nd nA) : rs.length = i := by
  have := congrArg List.length h.rn; simpa using this

theorem gle_gadd {g g' : Stat} {b : Addr} {o : Obj} (h : gle g g') (e : g' b = some o) : gle (gadd g b o) g' := fun c ob q => by
  unfold gadd at q; split at q
  · cases q; subst c; exact e
  · exact h _ _ q

theorem L1.more {nf : Addr → List (List Nat)} {lv : List Addr} {g gN : Stat} {i : Nat} {hs rs : List Addr} {nd : Addr → Node} {nA : Addr → Addr} (h : L1 nf lv g i hs rs nd nA) {b1 b2 c : Addr} {n1 n2 n3 : Nat} {t1 t2 t3 u1 u2 u3 : Tok}
    (hb1 : g b1 = none) (hb2 : g b2 = none) (h12 : b1 ≠ b2) (hle : gle g gN)
    (e1 : gN b1 = some (lobj #[.int ((walkL [nf (lv.getD i 0)]).length : Nat) t1, .int (i : Nat) t2, .str (txt (walkL [nf (lv.getD i 0)])) t3] n1))
    (e2 : gN b2 = some (lobj #[.int ((walkL [nf (lv.getD i 0)]).length : Nat) u1, .int (i : Nat) u2, .str (txt (walkL [nf (lv.getD i 0)])) u3, .ref c] n2))
    (e3 : gN c = some (lobj (refs [lv.getD i 0]) n3)) :
    ∃ nd' nA', L1 nf lv gN (i + 1) (hs ++ [b1]) (rs ++ [b2]) nd' nA' := by
  refine ⟨fun x => if x = b1 ∨ x = b2 then (i, [lv.getD i 0]) else nd x, fun x => if x = b2 then c else nA x, ?_⟩
  have oldH : ∀ x ∈ hs, ¬ (x = b1 ∨ x = b2) := fun x hx q => by
    obtain ⟨n, t1, t2, t3, e⟩ := h.ent x hx
    rcases q with rfl | rfl
    · rw [hb1] at e; cases e
    · rw [hb2] at e; cases e
  have oldR : ∀ x ∈ rs, ¬ (x = b1 ∨ x = b2) := fun x hx q => by
    obtain ⟨n, t1, t2, t3, e⟩ := h.row x hx
    rcases q with rfl | rfl
    · rw [hb1] at e; cases e
    · rw [hb2] at e; cases e
  refine ⟨fun x hx => ?_, fun x hx => ?_, fun x hx => ?_, ?_, ?_⟩
  · rcases List.mem_append.mp hx with hx | hx
    · rw [if_neg (oldH x hx)]
      obtain ⟨n, t1, t2, t3, e⟩ := h.ent x hx
      exact ⟨n, t1, t2, t3, hle _ _ e⟩
    · rw [List.mem_singleton] at hx; subst hx
      rw [if_pos (.inl rfl)]
      exact ⟨_, _, _, _, e1⟩
  · rcases List.mem_append.mp hx with hx | hx
    · rw [if_neg (oldR x hx), if_neg fun q => oldR x hx (.inr q)]
      obtain ⟨n, t1, t2, t3, e⟩ := h.row x hx
      exact ⟨n, t1, t2, t3, hle _ _ e⟩
    · rw [List.mem_singleton] at hx; subst hx
      rw [if_pos (.inr rfl), if_pos rfl]
      exact ⟨_, _, _, _, e2⟩
  · rcases List.mem_append.mp hx with hx | hx
    · rw [if_neg (oldR x hx), if_neg fun q => oldR x hx (.inr q)]
      obtain ⟨n, e⟩ := h.nam x hx
      exact ⟨n, hle _ _ e⟩
    · rw [List.mem_singleton] at hx; subst hx
      rw [if_pos rfl, if_pos (.inr rfl)]
      exact ⟨_, e3⟩
  · rw [List.map_append, List.range_succ, List.map_append]
    congr 1
    · rw [← h.hn]
      exact List.map_congr_left fun x hx => if_neg (oldH x hx)
    · simp
  · rw [List.map_append, List.range_succ, List.map_append]
    congr 1
    · rw [← h.rn]
      exact List.map_congr_left fun x hx => if_neg (oldR x hx)
    · simp

section
variable {prog : Program} {w : World} {A : Around} {s : Shared} {X : Cx} {Q : Value → Shared → Prop} {E : Value → Shared → Prop} {g : Stat} {mu : Mut} {L : Addr} {m : Loc} {env : Env} {R : Result → Shared → Prop}

/-- [] , kept mutable -/
theorem e_nil {pos : Pos} (hX : X.Ok) (S : St X g mu L m s) (h : ∀ b s', mu b = none → g b = none → X.n ≤ b → L < b → St X g (madd mu b #[]) L m s' → Q (.ref b) s') : wpAny (model prog w) A (eval (.List [] pos) env) Q E s := by
  refine wpAny_List (a_nil ⟨by rw [sizeLine_eq]; decide, ?_⟩)
  exact h _ _ S.fresh.2.1 S.fresh.1 S.fresh.2.2.2 S.ns.lt (S.newM hX (xs := #[]) (n := 0) (tk := s.toks))
/-- len of a text -/
theorem e_lenS {x : Str} {n : List Nat} {t : Tok} {p p1 pos : Pos} (hX : X.Ok) (S : St X g mu env.locals m s) (hm : m x = some (.str (txt n) t)) (hz : n.length ≤ 1000000) (h : ∀ t' s', St X g mu env.locals m s' → Q (.int (n.length : Nat) t') s')
    (he : starEach [.Name x p1] env = [(false, eval (.Name x p1) env)] := by rfl)
    (hg : env.globals = mainGlobals := by rfl) (hb : env.builtins = builtinsNs := by rfl) (hk : env.scope.kind = .function := by rfl) (hl : env.kindOf "len" = some .globalImplicit := by rfl) (hlx : env.kindOf x = some .local := by rfl) (hd : (x == ("__debug__" : Str)) = false := by decide) :
    wpAny (model prog w) A (eval (.Call (.Name "len" p) [.Name x p1] [] pos) env) Q E s := by
  refine e_len hX S.inv (st_name S hm (PySem.P.len_str (by rw [txt_len]; omega) ?_) hk hlx hd) he hg hb hk hl
  rw [txt_len]
  exact h _ _ (S.toks hX)
/-- an append to a mutable list of the frame's -/
theorem e_app {x : Str} {a : Addr} {xs : Array Value} {e1 : Expr} {p1 apos pos : Pos} (hX : X.Ok) (S : St X g mu env.locals m s) (hm : m x = some (.ref a)) (ha : mu a = some xs)
    (h : wpAny (model prog w) A (eval e1 env) (fun v s₂ => ∃ g', xs.size ≤ 1000000 ∧ St X g' mu env.locals m s₂ ∧ ∀ s', St X g' (madd mu a (xs.push v)) env.locals m s' → Q .none s') E s)
    (he : starEach [e1] env = [(false, eval e1 env)] := by rfl)
    (hline : (apos.endLine == pos.line) = true := by rfl) (hbase : attributeBase (.Name x p1) "append" env (eval (.Name x p1) env) = eval (.Name x p1) env := by rfl)
    (hk : env.scope.kind = .function := by rfl) (hlx : env.kindOf x = some .local := by rfl) (hd : (x == ("__debug__" : Str)) = false := by decide) :
    wpAny (model prog w) A (eval (.Call (.Attribute (.Name x p1) "append" apos) [e1] [] pos) env) Q E s := by
  refine e_meth1 F.plainAttrs_list PySem.F.slot_list_append PySem.F.type_list_append (st_name S hm ⟨(S.listM ha).1, (S.listM ha).2, wpAny_mono h (fun v s₂ h₂ => ?_) fun _ _ x => x⟩ hk hlx hd) he hbase hline
  obtain ⟨g', hz, S, h⟩ := h₂
  exact S.app hX ha hz fun s' S => h s' S
end
end Mine
end
section
open PySem PySem.W PyProof.Rows
set_option autoImplicit false
set_option maxRecDepth 100000
namespace Mine
section
variable {prog : Program} {w : World} {A : Around} {s : Shared} {X : Cx} {Q : Value → Shared → Prop} {E : Value → Shared → Prop} {g : Stat} {mu : Mut} {L : Addr} {m : Loc} {env : Env} {R : Result → Shared → Prop}

theorem leaf_sum {ps : List (List Nat)} (h : IsLeaf ps) {sv : List (List Nat × Tok)} (e : sv.map (·.1) = ps) : (sv.map (·.1.length)).sum ≤ 1000000 := by
  have h1 := leaf_len h
  have e1 : sv.map (·.1.length) = (sv.map (·.1)).map (·.length) := by rw [List.map_map]; rfl
  rw [e1, e]
  have h2 := sum_small (l := ps.map (·.length)) (k := 31) (fun x hx => by
    obtain ⟨p, hp, rfl⟩ := List.mem_map.mp hx
    exact h1.2 p hp)
  rw [List.length_map, h1.1] at h2
  omega
theorem leaf_flat_len {ps : List (List Nat)} (h : IsLeaf ps) : ps.flatten.length ≤ 200 := by
  have h1 := leaf_len h
  rw [List.length_flatten]
  have h2 := sum_small (l := ps.map List.length) (k := 31) (fun x hx => by
    obtain ⟨p, hp, rfl⟩ := List.mem_map.mp hx
    exact h1.2 p hp)
  rw [List.length_map, h1.1] at h2
  omega
theorem fold_len : ∀ (N : List (List (List Nat))) (t : List Nat), (∀ n ∈ N, IsLeaf n) → (N.foldl wstep t).length ≤ t.length + 200 * N.length
  | [], t, _ => by simp
  | n :: r, t, h => by
    have h1 := wstep_len (t := t) (h n List.mem_cons_self)
    have h2 := fold_len r (wstep t n) fun k hk => h k (List.mem_cons_of_mem _ hk)
    rw [List.foldl_cons, List.length_cons]
    omega
theorem walkL_len {N : List (List (List Nat))} (h : ∀ n ∈ N, IsLeaf n) : (walkL N).length ≤ 200 * N.length := by
  have := fold_len N [] h
  simp only [List.length_nil, Nat.zero_add] at this
  unfold walkL walkRaw
  split
  · rw [List.length_dropLast]; omega
  · exact this

def J1 (nf : Addr → List (List Nat)) (lv : List Addr) (g0 : Stat) (D hA rA : Addr) (i : Nat) (g : Stat) (mu : Mut) (m : Loc) : Prop :=
  gle g0 g ∧ m "leaves" = some (.ref D) ∧ m "heap" = some (.ref hA) ∧ m "rows" = some (.ref rA) ∧ ∃ hs rs nd nA, mu = madd (madd mnone hA (refs hs)) rA (refs rs) ∧ L1 nf lv g i hs rs nd nA

theorem madd_twice {hA rA : Addr} {x x' y y' : Array Value} : madd (madd (madd (madd mnone hA x) rA y) hA x') rA y' = madd (madd mnone hA x') rA y' := by
  funext b
  unfold madd
  by_cases h1 : b = rA
  · simp [h1]
  · by_cases h2 : b = hA
    · simp [h2]
    · simp [h1, h2]
theorem refs_push {hs : List Addr} {b : Addr} : (refs hs).push (.ref b) = refs (hs ++ [b]) := by simp [refs]

set_option maxHeartbeats 1000000
theorem law_loop1 {pm cd doc : Value} {fa : Addr} {D hA rA : Addr} {k0 : Nat} {lv : List Addr} {nf : Addr → List (List Nat)} (hX : X.Ok) (hh : A.handled = none) (ht : 1 ≤ s.toks) (hd : A.depth + 20 < recursionLimit)
    (S : St X g (madd (madd mnone hA #[]) rA #[]) L m s) (hne : hA ≠ rA) (hD : g D = some (lobj (refs lv) k0)) (hl7 : lv.length = 7) (hlv : ∀ b ∈ lv, LvAt X g nf b)
    (mD : m "leaves" = some (.ref D)) (mH : m "heap" = some (.ref hA)) (mR : m "rows" = some (.ref rA))
    {s0 s1 s2 s3 st : Stmt} {rest : List Stmt} (hst : bdy 11 = s0 :: s1 :: s2 :: s3 :: st :: rest) {Q : Flow → Shared → Prop}
    (h : ∀ g' mu' m' s', J1 nf lv g D hA rA 7 g' mu' m' → 1 ≤ s'.toks → St X g' mu' L m' s' → Q .next s') :
    wpAny (model prog w) A (exec st (envL pm cd doc L fa)) Q noE s := by
  obtain ⟨rfl, -⟩ := List.cons.inj (List.cons.inj (List.cons.inj (List.cons.inj (List.cons.inj hst).2).2).2).2
  refine for_st2 hX ht (it_range1 hX S (by decide) (by decide) fun I s₂ S hgI hmI hIL hIX hIs hit => ?_) rfl rfl (by intro _; rfl)
  refine ⟨I, _, 7, _, _, rfl, Walks.range hh I 0 1 7, ?_, hIX, fun i h hI => ?_, J1 nf lv g D hA rA, g, g, _, m, ?_, ?_, ⟨gle.refl, mD, mH, mR, [], [], fun _ => (0, []), fun _ => 0, rfl, ⟨nofun, nofun, nofun, rfl, rfl⟩⟩, S, hgI, hmI, hIL, ?_, ?_⟩
  · simpa using hit
  · have hI' : h.get? I = some _ := hI
    rw [hI']; rfl
  · rintro i g mu m ⟨hg, _⟩; exact hg
  · intro b hb; rw [List.mem_singleton] at hb; exact .inl hb
  · rintro i v g1 mu m gI s₃ hi ⟨hg1, mD, mH, mR, hs, rs, nd, nA, rfl, hL⟩ ⟨tv, rfl⟩ hg1I hmuI hgle hIS ht₃ S
    have e10 : ((0 : Int) + (i : Nat) * 1) = (i : Int) := by omega
    rw [e10] at S
    obtain ⟨b, hb⟩ : ∃ b, lv[i]? = some b := ⟨_, List.getElem?_eq_getElem (by omega)⟩
    have hbm := List.mem_of_getElem? hb
    have hbD : lv.getD i 0 = b := by rw [List.getD_eq_getElem?_getD, hb]; rfl
    obtain ⟨hbX, hbL, sv, nb, hbv, hbs⟩ := hlv b hbm
    have hgg : gle g gI := hg1.trans hgle
    have hW : (walkL [nf b]).length ≤ 200 := by
      have := walkL_len (N := [nf b]) (by intro n hn; rw [List.mem_singleton] at hn; rw [hn]; exact hbL)
      simpa using this
    have hhl := hL.hlen
    have hrl := hL.rlen
    -- name
    refine seqT (fun s' => ∃ t, St X gI (madd (madd mnone hA (refs hs)) rA (refs rs)) L (upd (upd m "k" (.int i tv)) "name" (.str (txt (walkL [nf b])) t)) s') ht₃ ?_ ?_
    · refine wpAny_Assign_Name (e_fn (i := 1) hX S.inv (by decide) rfl (wpAny_with_toks (n := 1) ht₃ (a_cons (e_meth1 F.plainAttrs_str F.slot_str_join F.type_str_join (c_str hX S fun tj s₄ S => ⟨typeIs_str _ _ _, nofun, Subscript_ (st_name S (upd_of (by decide) mD) (st_name S upd_same (i_sta S (hgg _ _ hD) (by omega) (by omega) (by rw [Int.toNat_natCast]; exact refs_get hb) ?_)))⟩)))))
      refine join_st hX S (hgg _ _ hbv) (leaf_sum hbL hbs) fun t' s₅ S => a_nil fun ht₅ => ⟨S.inv, codeAny_mono (platform_ok (as := [(txt (sv.map (·.1)).flatten, t')]) hX S.inv hh ht₅ hd (by simp) ?_) ?_⟩
      · intro p hp
        rw [List.mem_singleton] at hp
        subst hp
        rw [txt_len, hbs]
        exact Nat.le_trans (leaf_flat_len hbL) (by decide)
      · rintro r s₆ ⟨t, rfl, kept⟩
        have e : platF ([(txt (sv.map (·.1)).flatten, t')].map (·.1)) = txt (walkL [nf b]) := by
          rw [hbs]
          exact plat_names (N := [nf b]) (by simp) (by intro n hn; rw [List.mem_singleton] at hn; rw [hn]; exact hbL)
        show wpAny _ _ (storeName _ _ (.str (platF _) t)) _ _ _
        rw [e]
        exact st_store hX (S.after0 kept) fun s₇ S => ⟨rfl, t, S⟩
    rintro s₄ ht₄ ⟨t, S⟩
    have k1 : upd (upd m "k" (.int i tv)) "name" (.str (txt (walkL [nf b])) t) "k" = some (.int i tv) := upd_of (by decide) upd_same
    have k2 : upd (upd m "k" (.int i tv)) "name" (.str (txt (walkL [nf b])) t) "name" = some (.str (txt (walkL [nf b])) t) := upd_same
    have kD : upd (upd m "k" (.int i tv)) "name" (.str (txt (walkL [nf b])) t) "leaves" = some (.ref D) := upd_of (by decide) (upd_of (by decide) mD)
    have kH : upd (upd m "k" (.int i tv)) "name" (.str (txt (walkL [nf b])) t) "heap" = some (.ref hA) := upd_of (by decide) (upd_of (by decide) mH)
    have kR : upd (upd m "k" (.int i tv)) "name" (.str (txt (walkL [nf b])) t) "rows" = some (.ref rA) := upd_of (by decide) (upd_of (by decide) mR)
    generalize upd (upd m "k" (.int i tv)) "name" (.str (txt (walkL [nf b])) t) = m1 at S k1 k2 kD kH kR
    -- heap.append
    refine seqT (fun s' => ∃ (g2 : Stat) (b1 : Addr) (n1 : Nat) (t1 t2 t3 : Tok), gle gI g2 ∧ gI b1 = none ∧ g2 b1 = some (lobj #[.int ((walkL [nf b]).length : Nat) t1, .int (i : Nat) t2, .str (txt (walkL [nf b])) t3] n1) ∧
      St X g2 (madd (madd (madd mnone hA (refs hs)) rA (refs rs)) hA (refs (hs ++ [b1]))) L m1 s') ht₄ ?_ ?_
    · have hmu : (madd (madd mnone hA (refs hs)) rA (refs rs)) hA = some (refs hs) := (madd_ne hne).trans madd_self
      refine wpAny_Expr (e_app hX S kH hmu (e_list hX (a_cons (e_lenS hX S k2 (by omega) fun t1 s₅ S => a_cons (st_name S k1 (a_cons (st_name S k2 (a_nil ⟨by simp, _, _, _, _, S, fun b1 g2 s₆ hg2 hb1 hb1n hb1X hb1L hb1m S => ?_⟩))))))))
      refine ⟨g2, by rw [refs_size, hhl]; omega, S, fun s₇ S => ⟨rfl, g2, b1, 0, t1, tv, t, hg2, hb1n, hb1, ?_⟩⟩
      rw [refs_push] at S
      exact S
    rintro s₅ ht₅ ⟨g2, b1, n1, t1, t2, t3, hg2, hb1n, hb1, S⟩
    -- told
    have hgg2 : gle g g2 := hgg.trans hg2
    refine seqT (fun s' => ∃ (g3 : Stat) (t' : Tok), gle g2 g3 ∧ St X g3 (madd (madd (madd mnone hA (refs hs)) rA (refs rs)) hA (refs (hs ++ [b1]))) L (upd m1 "told" (.str (txt (walkL [nf b])) t')) s') ht₅ ?_ ?_
    · refine wpAny_Assign_Name (e_fn (i := 10) hX S.inv (by decide) rfl (wpAny_with_toks (n := 1) ht₅ (a_cons (e_list hX (a_cons (Subscript_ (st_name S kD (st_name S k1 (i_sta S (hgg2 _ _ hD) (by omega) (by omega) (by rw [Int.toNat_natCast]; exact refs_get hb) (a_nil ⟨by simp, _, _, _, _, S, fun c g3 s₆ hg3 hc hcn hcX hcL hcm S => ?_⟩))))))))))
      refine a_nil fun ht₆ => ⟨S.inv, codeAny_mono (law_walk_ok (rA := c) (ls := [b]) (nf := nf) (nr := 0) hX S.inv (S.keep _ _ hc) hcX (fun b' hb' => ?_) (by simp) hh ht₆ (by omega)) ?_⟩
      · rw [List.mem_singleton] at hb'
        subst hb'
        exact ⟨hbX, hbL, sv, nb, S.keep _ _ (hg3 _ _ (hgg2 _ _ hbv)), hbs⟩
      · rintro r s₇ ⟨t', rfl, kept⟩
        exact st_store hX (S.after0 kept) fun s₈ S => ⟨rfl, g3, t', hg3, S⟩
    rintro s₆ ht₆ ⟨g3, t', hg3, S⟩
    have r1 : upd m1 "told" (.str (txt (walkL [nf b])) t') "k" = some (.int i tv) := (upd_of (by decide) k1)
    have r2 : upd m1 "told" (.str (txt (walkL [nf b])) t') "told" = some (.str (txt (walkL [nf b])) t') := upd_same
    have rD : upd m1 "told" (.str (txt (walkL [nf b])) t') "leaves" = some (.ref D) := (upd_of (by decide) kD)
    have rH : upd m1 "told" (.str (txt (walkL [nf b])) t') "heap" = some (.ref hA) := (upd_of (by decide) kH)
    have rR : upd m1 "told" (.str (txt (walkL [nf b])) t') "rows" = some (.ref rA) := (upd_of (by decide) kR)
    generalize upd m1 "told" (.str (txt (walkL [nf b])) t') = m2 at S r1 r2 rD rH rR
    -- rows.append
    have hgg3 : gle g g3 := hgg2.trans hg3
    have hmu : (madd (madd (madd mnone hA (refs hs)) rA (refs rs)) hA (refs (hs ++ [b1]))) rA = some (refs rs) := (madd_ne (Ne.symm hne)).trans madd_self
    refine wpAny_execs_cons (wpAny_Expr (e_app hX S rR hmu (e_list hX ?_)))
    refine a_cons (e_lenS hX S r2 (by omega) fun u1 s₇ S => a_cons (st_name S r1 (a_cons (st_name S r2 (a_cons (e_list hX ?_))))))
    refine a_cons (Subscript_ (st_name S rD (st_name S r1 (i_sta S (hgg3 _ _ hD) (by omega) (by omega) (by rw [Int.toNat_natCast]; exact refs_get hb) ?_))))
    refine a_nil ⟨by simp, _, _, _, _, S, fun c g4 s₈ hg4 hc hcn hcX hcL hcm S => ?_⟩
    refine a_nil ⟨by simp, _, _, _, _, S, fun b2 g5 s₉ hg5 hb2 hb2n hb2X hb2L hb2m S => ⟨g5, by rw [refs_size, hrl]; omega, S, fun sA S => ?_⟩⟩
    rw [refs_push, madd_twice] at S
    refine wpAny_execs_nil ?_
    have hI1 : I ≠ b1 := fun e => by rw [e, hb1n] at hIS; cases hIS
    obtain ⟨oI, hoI⟩ := Option.isSome_iff_exists.mp hIS
    have hIc : I ≠ c := fun e => by rw [← e, hg3 _ _ (hg2 _ _ hoI)] at hcn; cases hcn
    have hI2 : I ≠ b2 := fun e => by rw [← e, hg4 _ _ (hg3 _ _ (hg2 _ _ hoI))] at hb2n; cases hb2n
    have gnone : ∀ {c : Addr} {g' : Stat}, gle g1 g' → g' c = none → g1 c = none := fun {c g'} hl e => by
      cases q : g1 c with
      | none => rfl
      | some o => rw [hl _ _ q] at e; cases e
    have l2 : gle g1 g2 := hgle.trans hg2
    have l3 : gle g1 g3 := l2.trans hg3
    have l4 : gle g1 g4 := l3.trans hg4
    have n1' := gnone hgle hb1n
    have nc' := gnone l3 hcn
    have n2' := gnone l4 hb2n
    have hb1' := hg5 _ _ (hg4 _ _ (hg3 _ _ hb1))
    have hc' := hg5 _ _ hc
    have h12 : b1 ≠ b2 := fun e => by rw [← e, hg4 _ _ (hg3 _ _ hb1)] at hb2n; cases hb2n
    have h1c : b1 ≠ c := fun e => by rw [← e, hg3 _ _ hb1] at hcn; cases hcn
    have hc2 : c ≠ b2 := fun e => by rw [← e, hc] at hb2n; cases hb2n
    have lN : ∀ o1 o2 o3, gle g1 (gadd (gadd (gadd g1 b1 o1) c o2) b2 o3) := fun o1 o2 o3 x o e => by
      have e1 : x ≠ b1 := fun q => by rw [q, n1'] at e; cases e
      have e2 : x ≠ c := fun q => by rw [q, nc'] at e; cases e
      have e3 : x ≠ b2 := fun q => by rw [q, n2'] at e; cases e
      unfold gadd; rw [if_neg e3, if_neg e2, if_neg e1]; exact e
    obtain ⟨nd', nA', hL'⟩ := hL.more (gN := gadd (gadd (gadd g1 b1 (lobj #[.int ((walkL [nf b]).length : Nat) t1, .int (i : Nat) t2, .str (txt (walkL [nf b])) t3] n1)) c (lobj (refs [b]) 0)) b2 (lobj #[.int ((walkL [nf b]).length : Nat) u1, .int (i : Nat) tv, .str (txt (walkL [nf b])) t', .ref c] 0)) (c := c) n1' n2' h12 (lN _ _ _) (by rw [hbD]; unfold gadd; rw [if_neg h12, if_neg h1c, if_pos rfl]) (by rw [hbD]; exact gadd_self) (by rw [hbD]; unfold gadd; rw [if_neg hc2, if_pos rfl])
    refine ⟨g5, _, _, m2, ⟨hg1.trans (lN _ _ _), rD, rH, rR, hs ++ [b1], rs ++ [b2], nd', nA', rfl, hL'⟩, gle_gadd (gle_gadd (gle_gadd (l4.trans hg5) hb1') hc') hb2, ((hg2.trans hg3).trans (hg4.trans hg5)), ?_, ?_, S⟩
    · unfold gadd; rw [if_neg hI2, if_neg hIc, if_neg hI1]; exact hg1I
    · have q1 : I ≠ hA := fun e => by rw [e, madd_ne hne, madd_self] at hmuI; cases hmuI
      have q2 : I ≠ rA := fun e => by rw [e, madd_self] at hmuI; cases hmuI
      rw [madd_ne q2, madd_ne q1]; rfl
  · rintro g1 mu m s₃ hJ S ht₃
    exact h g1 mu m s₃ hJ ht₃ S
end
end Mine
end
section
open PySem PySem.W PyProof.Rows
set_option autoImplicit false
set_option maxRecDepth 100000
namespace Mine

theorem heapFrom_congr {f f' : Addr → Int × Int} {hs : List Addr} {s : Nat} (h : HeapFrom hs.length s (kf f hs)) (e : ∀ b ∈ hs, f b = f' b) : HeapFrom hs.length s (kf f' hs) := by
  have key : ∀ j, j < hs.length → kf f hs j = kf f' hs j := fun j hj => by
    rw [show kf f hs j = f hs[j] from by unfold kf; rw [List.getD_eq_getElem?_getD, List.getElem?_eq_getElem hj]; rfl,
      show kf f' hs j = f' hs[j] from by unfold kf; rw [List.getD_eq_getElem?_getD, List.getElem?_eq_getElem hj]; rfl]
    exact e _ (List.getElem_mem hj)
  intro j h1 h2 h3
  rw [← key j h2, ← key _ (by omega)]
  exact h j h1 h2 h3

section
variable {nf : Addr → List (List Nat)} {lv : List Addr} {g gN : Stat} {nd : Addr → Node} {nA : Addr → Addr} {hs hs2 r rs : List Addr} {i : Nat}

theorem L1.li (h : L1 nf lv g 7 hs rs nd nA) (hl : lv.length = 7) : LI nf lv g 0 hs rs nd nA := by
  have hmem : ∀ b ∈ rs, ∃ k, k < 7 ∧ nd b = (k, [lv.getD k 0]) := fun b hb => by
    have := List.mem_map_of_mem (f := nd) hb
    rw [h.rn] at this
    obtain ⟨k, hk, e⟩ := List.mem_map.mp this
    exact ⟨k, List.mem_range.mp hk, e.symm⟩
  refine ⟨h.ent, h.row, h.nam, fun b hb => ?_, by rw [h.hn, h.rn], ?_, fun b hb => ?_, by rw [h.rlen], ?_⟩
  · obtain ⟨k, hk, e⟩ := hmem b hb
    rw [e]
    refine ⟨by simp, fun c hc => ?_⟩
    rw [List.mem_singleton] at hc
    rw [hc, List.getD_eq_getElem?_getD, List.getElem?_eq_getElem (by omega)]
    exact List.getElem_mem _
  · have e : (rs.map fun b => (nd b).1) = (rs.map nd).map (·.1) := by rw [List.map_map]; rfl
    rw [e, h.rn, List.map_map]
    exact (show ((List.range 7).map fun k => k).Nodup by decide)
  · obtain ⟨k, hk, e⟩ := hmem b hb
    rw [e]; show k < 7 + 0; omega
  · have e : (rs.map fun b => (nd b).2.length) = (rs.map nd).map (·.2.length) := by rw [List.map_map]; rfl
    rw [e, h.rn, List.map_map]
    rfl

theorem LI.next {a c e r' bo : Addr} {n1 n2 n3 : Nat} {t1 t2 t3 u1 u2 u3 : Tok} (h : LI nf lv g i hs (a :: c :: r) nd nA) {nd1 : Addr → Node} (hnd1 : nd1 = fun x => if x = e then (7 + i, (nd a).2 ++ (nd c).2) else nd x)
    (hp : (hs2.map nd1).Perm (nd1 e :: r.map nd1)) (hH2 : HeapFrom hs2.length 0 (kf (key (trH nf nd1)) hs2)) (hsub : ∀ x ∈ hs2, x = e ∨ x ∈ hs) (ge : g e = none) (gr : g r' = none) (her : e ≠ r') (hle : Mine.gle g gN)
    (e1 : gN e = some (lobj #[.int ((walkL (((nd a).2 ++ (nd c).2).map nf)).length : Nat) t1, .int ((7 + i : Nat) : Int) t2, .str (txt (walkL (((nd a).2 ++ (nd c).2).map nf))) t3] n1))
    (e2 : gN r' = some (lobj #[.int ((walkL (((nd a).2 ++ (nd c).2).map nf)).length : Nat) u1, .int ((7 + i : Nat) : Int) u2, .str (txt (walkL (((nd a).2 ++ (nd c).2).map nf))) u3, .ref bo] n2))
    (e3 : gN bo = some (lobj (refs ((nd a).2 ++ (nd c).2)) n3)) :
    ∃ nd' nA', LI nf lv gN (i + 1) hs2 (r ++ [r']) nd' nA' ∧ HeapFrom hs2.length 0 (kf (key (trH nf nd')) hs2) := by
  have gH : ∀ x ∈ hs, x ≠ e ∧ x ≠ r' := fun x hx => by
    obtain ⟨n, q1, q2, q3, q⟩ := h.ent x hx
    exact ⟨(fun z => by rw [z, ge] at q; cases q), (fun z => by rw [z, gr] at q; cases q)⟩
  have gR : ∀ x ∈ a :: c :: r, x ≠ e ∧ x ≠ r' := fun x hx => by
    obtain ⟨n, q1, q2, q3, q⟩ := h.row x hx
    exact ⟨(fun z => by rw [z, ge] at q; cases q), (fun z => by rw [z, gr] at q; cases q)⟩
  have hrr : ∀ x ∈ r, x ∈ a :: c :: r := fun x hx => List.mem_cons_of_mem _ (List.mem_cons_of_mem _ hx)
  have n1e : nd1 e = (7 + i, (nd a).2 ++ (nd c).2) := by rw [hnd1]; exact if_pos rfl
  have n1o : ∀ x, x ≠ e → nd1 x = nd x := fun x hx => by rw [hnd1]; exact if_neg hx
  obtain ⟨nd', n'r, n'o⟩ : ∃ nd' : Addr → Node, nd' r' = (7 + i, (nd a).2 ++ (nd c).2) ∧ ∀ x, x ≠ r' → nd' x = nd1 x := ⟨fun x => if x = r' then (7 + i, (nd a).2 ++ (nd c).2) else nd1 x, if_pos rfl, fun x hx => if_neg hx⟩
  obtain ⟨nA', a'r, a'o⟩ : ∃ nA' : Addr → Addr, nA' r' = bo ∧ ∀ x, x ≠ r' → nA' x = nA x := ⟨fun x => if x = r' then bo else nA x, if_pos rfl, fun x hx => if_neg hx⟩
  have h2r : ∀ x ∈ hs2, x ≠ r' := fun x hx => by
    rcases hsub x hx with rfl | hx
    · exact her
    · exact (gH x hx).2
  have ndr : ∀ x ∈ r, nd' x = nd x := fun x hx => by rw [n'o x (gR x (hrr x hx)).2, n1o x (gR x (hrr x hx)).1]
  have mem : ∀ x ∈ r ++ [r'], x ∈ r ∨ x = r' := fun x hx => (List.mem_append.mp hx).imp id List.mem_singleton.mp
  refine ⟨nd', nA', ⟨fun x hx => ?_, fun x hx => ?_, fun x hx => ?_, fun x hx => ?_, ?_, ?_, fun x hx => ?_, ?_, ?_⟩, ?_⟩
  · rw [n'o x (h2r x hx)]
    rcases hsub x hx with e' | hx
    · rw [e', n1e]; exact ⟨_, _, _, _, e1⟩
    · rw [n1o x (gH x hx).1]
      obtain ⟨n, q1, q2, q3, q⟩ := h.ent x hx
      exact ⟨n, q1, q2, q3, hle _ _ q⟩
  · rcases mem x hx with hx | e'
    · rw [ndr x hx, a'o x (gR x (hrr x hx)).2]
      obtain ⟨n, q1, q2, q3, q⟩ := h.row x (hrr x hx)
      exact ⟨n, q1, q2, q3, hle _ _ q⟩
    · rw [e', n'r, a'r]; exact ⟨_, _, _, _, e2⟩
  · rcases mem x hx with hx | e'
    · rw [ndr x hx, a'o x (gR x (hrr x hx)).2]
      obtain ⟨n, q⟩ := h.nam x (hrr x hx)
      exact ⟨n, hle _ _ q⟩
    · rw [e', n'r, a'r]; exact ⟨_, e3⟩
  · rcases mem x hx with hx | e'
    · rw [ndr x hx]; exact h.leaf x (hrr x hx)
    · rw [e', n'r]
      obtain ⟨p1, p2⟩ := h.leaf a List.mem_cons_self
      obtain ⟨p3, p4⟩ := h.leaf c (List.mem_cons_of_mem _ List.mem_cons_self)
      exact ⟨by simp [p1], fun z hz => (List.mem_append.mp hz).elim (p2 z) (p4 z)⟩
  · have q1 : hs2.map nd' = hs2.map nd1 := List.map_congr_left fun x hx => n'o x (h2r x hx)
    have q2 : (r ++ [r']).map nd' = r.map nd1 ++ [nd1 e] := by
      rw [List.map_append, List.map_cons, List.map_nil, n'r, n1e]
      congr 1
      exact List.map_congr_left fun x hx => n'o x (gR x (hrr x hx)).2
    rw [q1, q2]
    exact hp.trans (List.perm_append_singleton _ _).symm
  · have q : ((r ++ [r']).map fun b => (nd' b).1) = (r.map fun b => (nd b).1) ++ [7 + i] := by
      rw [List.map_append, List.map_cons, List.map_nil, n'r]
      congr 1
      exact List.map_congr_left fun x hx => by rw [ndr x hx]
    rw [q]
    have hn := h.nodup
    rw [List.map_cons, List.map_cons, List.nodup_cons, List.nodup_cons] at hn
    refine List.nodup_append.mpr ⟨hn.2.2, by simp, fun x hx y hy => ?_⟩
    obtain ⟨z, hz, rfl⟩ := List.mem_map.mp hx
    rw [List.mem_singleton] at hy
    have := h.lt z (hrr z hz)
    omega
  · rcases mem x hx with hx | e'
    · rw [ndr x hx]; have := h.lt x (hrr x hx); omega
    · rw [e', n'r]; show 7 + i < 7 + (i + 1); omega
  · have := h.len
    simp only [List.length_cons] at this
    simp only [List.length_append, List.length_cons, List.length_nil]
    omega
  · have hs := h.sum
    simp only [List.map_cons, List.sum_cons] at hs
    have q : ((r ++ [r']).map fun b => (nd' b).2.length) = (r.map fun b => (nd b).2.length) ++ [((nd a).2 ++ (nd c).2).length] := by
      rw [List.map_append, List.map_cons, List.map_nil, n'r]
      congr 1
      exact List.map_congr_left fun x hx => by rw [ndr x hx]
    rw [q, List.sum_append]
    simp only [List.sum_cons, List.sum_nil, List.length_append]
    omega
  · exact heapFrom_congr hH2 fun b hb => by
      rw [key_trH, key_trH, n'o b (h2r b hb)]
end
end Mine
end
section
open PySem PySem.W PyProof.Rows
set_option autoImplicit false
set_option maxRecDepth 100000
namespace Mine
section
variable {prog : Program} {w : World} {A : Around} {s : Shared} {X : Cx} {Q : Value → Shared → Prop} {E : Value → Shared → Prop} {g : Stat} {mu : Mut} {L : Addr} {m : Loc} {env : Env} {R : Result → Shared → Prop}

theorem it_range2 {a b : Int} {k1 k2 : Nat} {p p1 p2 pos : Pos} (hX : X.Ok) (S : St X g mu L m s) (h0 : 0 ≤ a) (h1 : a ≤ b) (h2 : b ≤ 1000)
    (h : ∀ I s', St X g mu L m s' → g I = none → mu I = none → I ≠ L → X.n ≤ I → I < s'.heap.objs.size → IsRangeIter s'.heap I a (b - a) 1 → Q (.ref I) s')
    (hg : env.globals = mainGlobals := by rfl) (hb : env.builtins = builtinsNs := by rfl) (hk : env.scope.kind = .function := by rfl) (hl : env.kindOf "range" = some .globalImplicit := by rfl) :
    wpAny (model prog w) A (eval (.Call (.Name "range" p) [.Constant (.int a) k1 p1, .Constant (.int b) k2 p2] [] pos) env) (fun xv s₁ => wpAny (model prog w) A (pyIter xv) Q E s₁) E s := by
  refine e_type hX S.inv (by decide) (by boot_fast) (by decide) (a_cons (c_int hX S fun ta s₂ S => a_cons (c_int hX S fun tb s₃ S => a_nil (call_range_2 ?_)))) rfl rfl hg hb hk hl
  have hsz : Builtin.Range.rangeSize a b 1 = b - a := by unfold Builtin.Range.rangeSize; simp; omega
  refine wpAny_pyIter_range (IsRange.new s₃.heap a b 1 ta tb s₃.toks) (small_one (by omega) (by omega) (by omega) (by omega)) ?_
  rw [hsz]
  have S₁ := S.push hX (o := { cls := .type "range", data := .fields #[.int a ta, .int b tb, .int 1 s₃.toks] }) (tk := s₃.toks + 1)
  have fr := S₁.fresh
  have S₂ := S₁.push hX (o := { cls := .type "range_iterator", data := .fields #[rawInt a, rawInt (b - a), rawInt 1] }) (tk := s₃.toks + 1)
  exact h _ _ S₂ fr.1 fr.2.1 (Ne.symm fr.2.2.1) fr.2.2.2 (Heap.lt_size (Heap.get?_push_size _ rfl)) (Heap.get?_push_size _ rfl)

/-- the heap's entries, as its walks want them -/
theorem ent_rws {nf : Addr → List (List Nat)} {nd : Addr → Node} {hs : List Addr} {a : Addr} (S : St X g mu L m s) (hga : g a = none)
    (ent : ∀ b ∈ hs, ∃ n t1 t2 t3, g b = some (lobj #[.int ((wl nf (nd b)).length : Nat) t1, .int ((nd b).1 : Nat) t2, .str (txt (wl nf (nd b))) t3] n)) (hn : (hs.map fun b => (nd b).1).Nodup) : Rws X s.heap (trH nf nd) a hs := by
  refine ⟨fun b hb => ?_, fun b hb c hc _ e => ?_⟩
  · obtain ⟨n, t1, t2, t3, e⟩ := ent b hb
    exact ⟨S.gnew _ _ e, (fun q => by rw [q, hga] at e; cases e), t1, t2, t3, n, S.keep _ _ e⟩
  · have e' : (nd b).1 = (nd c).1 := by
      have : (((nd b).1 : Nat) : Int) = ((nd c).1 : Nat) := e
      omega
    rw [nodup_inj hn hb hc e']
theorem LI.hnodup {nf : Addr → List (List Nat)} {lv : List Addr} {i : Nat} {hs rs : List Addr} {nd : Addr → Node} {nA : Addr → Addr} (h : LI nf lv g i hs rs nd nA) : (hs.map fun b => (nd b).1).Nodup := by
  have e : ∀ l : List Addr, (l.map fun b => (nd b).1) = (l.map nd).map (·.1) := fun l => by rw [List.map_map]; rfl
  have := h.nodup
  rw [e] at this ⊢
  exact ((h.perm.map (·.1)).nodup_iff).mpr this

/-- if heapify(heap) is not None: .. -/
theorem law_heapify {pm cd doc : Value} {fa : Addr} {hA rA : Addr} {lv hs rs : List Addr} {nf : Addr → List (List Nat)} {nd : Addr → Node} {nA : Addr → Addr} (hX : X.Ok) (hh : A.handled = none) (ht : 1 ≤ s.toks) (hd : A.depth + 20 < recursionLimit) (hu : A.units + 50 < cLine)
    (S : St X g (madd (madd mnone hA (refs hs)) rA (refs rs)) L m s) (hne : hA ≠ rA) (hL : LI nf lv g 0 hs rs nd nA) (mH : m "heap" = some (.ref hA)) (mR : m "rows" = some (.ref rA))
    {s0 s1 s2 s3 s4 st : Stmt} {rest : List Stmt} (hst : bdy 11 = s0 :: s1 :: s2 :: s3 :: s4 :: st :: rest) {Q : Flow → Shared → Prop}
    (h : ∀ hs' g' n s', gle g g' → g' rA = some (lobj (refs rs) n) → g' hA = none → LI nf lv g' 0 hs' rs nd nA → HeapFrom hs'.length 0 (kf (key (trH nf nd)) hs') → St X g' (madd mnone hA (refs hs')) L m s' → Q .next s') :
    wpAny (model prog w) A (exec st (envL pm cd doc L fa)) Q noE s := by
  obtain ⟨rfl, -⟩ := List.cons.inj (List.cons.inj (List.cons.inj (List.cons.inj (List.cons.inj (List.cons.inj hst).2).2).2).2).2
  have hmu : (madd (madd mnone hA (refs hs)) rA (refs rs)) hA = some (refs hs) := (madd_ne hne).trans madd_self
  obtain ⟨hobj, hAX, hAL, hgA⟩ := S.mus _ _ hmu
  have hlen : hs.length = 7 := by have := hL.perm.length_eq; have q := hL.len; simp at this; omega
  refine wpAny_If (wpAny_isTrue_Compare1 (e_fn (i := 5) hX S.inv (by decide) rfl (wpAny_with_toks (n := 1) ht (a_cons (st_name S mH (a_nil fun ht₂ => ⟨S.inv, codeAny_mono (heapify_ok hX S.inv hobj hAX (ent_rws S hgA hL.ent hL.hnodup) (by omega) hh ht₂ hd hu) ?_⟩))))))
  rintro r s₂ ⟨hs', rfl, hp, hH, hobj', kept⟩
  have S := S.after1 hmu kept hobj'
  refine PyProof.Rows.Constant_none (wpAny_isNot_self rfl (wpAny_truthy_bool ?_))
  rw [if_neg (by decide)]
  have hmR : (madd (madd (madd mnone hA (refs hs)) rA (refs rs)) hA (refs hs')) rA = some (refs rs) := (madd_ne (Ne.symm hne)).trans madd_self
  obtain ⟨n, S', hgR, hRX, hRL⟩ := S.freeze hmR
  have e : mdel (madd (madd (madd mnone hA (refs hs)) rA (refs rs)) hA (refs hs')) rA = madd mnone hA (refs hs') := by
    funext b
    unfold mdel madd
    by_cases h1 : b = rA
    · simp [h1, Ne.symm hne]; rfl
    · by_cases h2 : b = hA
      · simp [h2, hne]
      · simp [h1, h2]
  rw [e] at S'
  have hL' : LI nf lv g 0 hs' rs nd nA := { hL with ent := fun b hb => hL.ent b (hp.mem_iff.mp hb), perm := (hp.map nd).trans hL.perm }
  exact wpAny_execs_nil (h hs' _ n _ (gadd_le hgR) gadd_self (by unfold gadd; rw [if_neg hne]; exact hgA) (hL'.gle (gadd_le hgR)) hH S')
end
end Mine
end
section
open PySem PySem.W PyProof.Rows
set_option autoImplicit false
set_option maxRecDepth 100000
namespace Mine
section
variable {prog : Program} {w : World} {A : Around} {s : Shared} {X : Cx} {Q : Value → Shared → Prop} {E : Value → Shared → Prop} {g : Stat} {mu : Mut} {L : Addr} {m : Loc} {env : Env} {R : Result → Shared → Prop}

def J2 (nf : Addr → List (List Nat)) (lv : List Addr) (g0 : Stat) (hA : Addr) (i : Nat) (g : Stat) (mu : Mut) (m : Loc) : Prop :=
  gle g0 g ∧ m "heap" = some (.ref hA) ∧ ∃ rA hs rs nd nA n, m "rows" = some (.ref rA) ∧ g rA = some (lobj (refs rs) n) ∧ mu = madd mnone hA (refs hs) ∧ LI nf lv g i hs rs nd nA ∧ HeapFrom hs.length 0 (kf (key (trH nf nd)) hs)

theorem strOk_clean {l : List Nat} (h : Clean l) : PyData.strOk (txt l) = true := by
  unfold PyData.strOk txt
  rw [Array.all_eq_true']
  intro c hc
  have := h c (by simpa using hc)
  have : c < 0x110000 := by omega
  simpa using this
theorem pick3 (a b c d : Value) : slicePick #[a, b, c, d] none (some 3) none = #[a, b, c] := by
  rw [show (3 : Int) = ((3 : Nat) : Int) from rfl, slicePick_upto']; rfl
theorem pick_drop2 (rs : List Addr) : slicePick (refs rs) (some 2) none none = refs (rs.drop 2) := by
  rw [show (2 : Int) = ((2 : Nat) : Int) from rfl, slicePick_from']; simp [refs, List.map_drop]
theorem refs_app {a b : List Addr} : refs a ++ refs b = refs (a ++ b) := by simp [refs]

set_option maxHeartbeats 2000000
theorem law_loop2 {pm cd doc : Value} {fa : Addr} {hA : Addr} {lv : List Addr} {nf : Addr → List (List Nat)} (hX : X.Ok) (hh : A.handled = none) (ht : 1 ≤ s.toks) (hd : A.depth + 20 < recursionLimit) (hu : A.units + 50 < cLine)
    (S : St X g mu L m s) (hlv : ∀ b ∈ lv, LvAt X g nf b) (hJ : J2 nf lv g hA 0 g mu m)
    {s0 s1 s2 s3 s4 s5 st : Stmt} {rest : List Stmt} (hst : bdy 11 = s0 :: s1 :: s2 :: s3 :: s4 :: s5 :: st :: rest) {Q : Flow → Shared → Prop}
    (h : ∀ g' mu' m' s', J2 nf lv g hA 6 g' mu' m' → 1 ≤ s'.toks → St X g' mu' L m' s' → Q .next s') :
    wpAny (model prog w) A (exec st (envL pm cd doc L fa)) Q noE s := by
  obtain ⟨rfl, -⟩ := List.cons.inj (List.cons.inj (List.cons.inj (List.cons.inj (List.cons.inj (List.cons.inj (List.cons.inj hst).2).2).2).2).2).2
  refine for_st2 hX ht (it_range2 hX S (by decide) (by decide) (by decide) fun I s₂ S hgI hmI hIL hIX hIs hit => ?_) rfl rfl (by intro _; rfl)
  refine ⟨I, _, 6, _, _, rfl, Walks.range hh I 7 1 6, ?_, hIX, fun i h hI => ?_, J2 nf lv g hA, g, g, mu, m, ?_, ?_, hJ, S, hgI, hmI, hIL, ?_, ?_⟩
  · simpa using hit
  · have hI' : h.get? I = some _ := hI
    rw [hI']; rfl
  · rintro i g mu m ⟨hg, _⟩; exact hg
  · intro b hb; rw [List.mem_singleton] at hb; exact .inl hb
  · rintro i v g1 mu m gI s₃ hi ⟨hg1, mH, rA, hs, rs, nd, nA, n0, mR, hrA, rfl, hL, hH⟩ ⟨tv, rfl⟩ hg1I hmuI hgle hIS ht₃ S
    have e10 : ((7 : Int) + (i : Nat) * 1) = ((7 + i : Nat) : Int) := by omega
    rw [e10] at S
    have hrl := hL.len
    have hhl : hs.length = rs.length := by have := hL.perm.length_eq; simpa using this
    have hLI := hL.gle hgle
    have kk : upd m "k" (.int ((7 + i : Nat) : Int) tv) "k" = some (.int ((7 + i : Nat) : Int) tv) := upd_same
    have kH : upd m "k" (.int ((7 + i : Nat) : Int) tv) "heap" = some (.ref hA) := upd_of (by decide) mH
    have kR : upd m "k" (.int ((7 + i : Nat) : Int) tv) "rows" = some (.ref rA) := upd_of (by decide) mR
    generalize upd m "k" (.int ((7 + i : Nat) : Int) tv) = m1 at S kk kH kR
    -- rows = sorted(rows)
    refine seqT (fun s' => ∃ (D : Addr) (cD : Nat) (g2 : Stat) (rs' : List Addr) (m2 : Loc), gle gI g2 ∧ g2 D = some (lobj (refs rs') cD) ∧ rs'.Perm rs ∧ rs'.Pairwise (fun x y => kle (kx nf (nd x)) (kx nf (nd y))) ∧
      m2 "k" = some (.int ((7 + i : Nat) : Int) tv) ∧ m2 "heap" = some (.ref hA) ∧ m2 "rows" = some (.ref D) ∧ St X g2 (madd mnone hA (refs hs)) L m2 s') ht₃ ?_ ?_
    · refine wpAny_Assign_Name (e_built1 hX S.inv (by decide) (by boot_fast) (by decide) (st_name S kR (sorted_rows (tr := trR nf nd nA) hX S (S.isG (hgle _ _ hrA)) (by omega) (by omega) (fun b hb => ?_) ?_ (by omega) fun D cD g2 rs' s' hg2 hD hDn hDX hDL hDm hp hps S _ => st_store hX S fun s'' S =>
        ⟨rfl, D, cD, g2, rs', _, hg2, hD, hp, hps, upd_of (by decide) kk, upd_of (by decide) kH, upd_same, S⟩)))
      · obtain ⟨n, t1, t2, t3, e⟩ := hLI.row b hb
        exact ⟨(fun q => by have q' : b = L := q; rw [q', show gI L = none from S.gout] at e; cases e), S.gnew _ _ e, n, t1, t2, t3, S.keep _ _ e⟩
      · have e : (rs.map fun b => (trR nf nd nA b).2.1) = (rs.map fun b => (nd b).1).map fun k : Nat => (k : Int) := by rw [List.map_map]; rfl
        rw [e]
        exact List.Pairwise.map _ (fun a b hab q => hab (by omega)) hL.nodup
    rintro s₄ ht₄ ⟨D, cD, g2, rs', m2, hg2, hD, hp, hps, kk, kH, kR, S⟩
    have hrl' : rs'.length + i = 7 := by rw [hp.length_eq]; exact hrl
    obtain ⟨a, c, r, rfl⟩ : ∃ a c r, rs' = a :: c :: r := by
      match rs', hrl' with
      | [], q => simp at q; omega
      | [_], q => simp at q; omega
      | a :: c :: r, _ => exact ⟨a, c, r, rfl⟩
    have hLs := (hLI.gle hg2).sort hp
    have hLs1 : LI nf lv g1 i hs (a :: c :: r) nd nA := hL.sort hp
    obtain ⟨na, ta1, ta2, ta3, hra⟩ := hLs.row a List.mem_cons_self
    obtain ⟨nc, tc1, tc2, tc3, hrc⟩ := hLs.row c (List.mem_cons_of_mem _ List.mem_cons_self)
    obtain ⟨nNa, hNa⟩ := hLs.nam a List.mem_cons_self
    obtain ⟨nNc, hNc⟩ := hLs.nam c (List.mem_cons_of_mem _ List.mem_cons_self)
    obtain ⟨lea, lma⟩ := hLs.leaf a List.mem_cons_self
    obtain ⟨lec, lmc⟩ := hLs.leaf c (List.mem_cons_of_mem _ List.mem_cons_self)
    have fa7 := hLs.few List.mem_cons_self
    have fc7 := hLs.few (b := c) (List.mem_cons_of_mem _ List.mem_cons_self)
    have leafOf : ∀ b ∈ lv, IsLeaf (nf b) := fun b hb => (hlv b hb).2.1
    have mla : ∀ n ∈ (nd a).2.map nf, IsLeaf n := fun n hn => by obtain ⟨b, hb, rfl⟩ := List.mem_map.mp hn; exact leafOf b (lma b hb)
    have mlc : ∀ n ∈ (nd c).2.map nf, IsLeaf n := fun n hn => by obtain ⟨b, hb, rfl⟩ := List.mem_map.mp hn; exact leafOf b (lmc b hb)
    have wa : (wl nf (nd a)).length ≤ 1400 := by have := walkL_len mla; rw [List.length_map] at this; unfold wl; omega
    have wc : (wl nf (nd c)).length ≤ 1400 := by have := walkL_len mlc; rw [List.length_map] at this; unfold wl; omega
    have mlb : ∀ n ∈ ((nd a).2 ++ (nd c).2).map nf, IsLeaf n := fun n hn => by rw [List.map_append] at hn; exact (List.mem_append.mp hn).elim (mla n) (mlc n)
    have wb : (walkL (((nd a).2 ++ (nd c).2).map nf)).length ≤ 2800 := by have := walkL_len mlb; rw [List.length_map, List.length_append] at this; omega
    -- least, after
    refine seqT (fun s' => St X g2 (madd mnone hA (refs hs)) L (upd m2 "least" (.ref a)) s') ht₄ (wpAny_Assign_Name (Subscript_ (st_name S kR (c_int hX S fun t0 _ S => i_sta S hD (by decide) (by decide) (refs_get (x := a) rfl) (st_store hX S fun s'' S => ⟨rfl, S⟩))))) ?_
    intro s₅ ht₅ S
    refine seqT (fun s' => St X g2 (madd mnone hA (refs hs)) L (upd (upd m2 "least" (.ref a)) "after" (.ref c)) s') ht₅ (wpAny_Assign_Name (Subscript_ (st_name S (upd_of (by decide) kR) (c_int hX S fun t0 _ S => i_sta S hD (by decide) (by decide) (refs_get (x := c) rfl) (st_store hX S fun s'' S => ⟨rfl, S⟩))))) ?_
    intro s₆ ht₆ S
    obtain ⟨m3, em3⟩ : ∃ m3, upd (upd m2 "least" (.ref a)) "after" (.ref c) = m3 := ⟨_, rfl⟩
    have k3 : m3 "k" = some (.int ((7 + i : Nat) : Int) tv) ∧ m3 "heap" = some (.ref hA) ∧ m3 "rows" = some (.ref D) ∧ m3 "least" = some (.ref a) ∧ m3 "after" = some (.ref c) := by
      subst em3
      exact ⟨upd_of (by decide) (upd_of (by decide) kk), upd_of (by decide) (upd_of (by decide) kH), upd_of (by decide) (upd_of (by decide) kR), upd_of (by decide) upd_same, upd_same⟩
    rw [em3] at S
    clear em3 kk kH kR
    obtain ⟨kk, kH, kR, kl, ka⟩ := k3
    -- one = heappop(heap)
    have hmu : (madd mnone hA (refs hs)) hA = some (refs hs) := madd_self
    obtain ⟨hobj, hAX, hAL, hgA⟩ := S.mus _ _ hmu
    refine seqT (fun s' => ∃ (x : Addr) (hs1 : List Addr), hs[0]? = some x ∧ (x :: hs1).Perm hs ∧ HeapFrom hs1.length 0 (kf (key (trH nf nd)) hs1) ∧ St X g2 (madd mnone hA (refs hs1)) L (upd m3 "one" (.ref x)) s') ht₆ ?_ ?_
    · refine wpAny_Assign_Name (e_fn (i := 3) hX S.inv (by decide) rfl (a_cons (st_name S kH (a_nil ⟨S.inv, codeAny_mono (heappop_ok (tr := trH nf nd) hX S.inv hobj hAX (ent_rws S hgA hLs.ent hLs.hnodup) (by omega) (by omega) hH hd hu) ?_⟩))))
      rintro r₁ s₇ ⟨x, hs1, hx, rfl, hpx, hH1, hobj', kept⟩
      have S := S.after1 hmu kept hobj'
      rw [madd_madd] at S
      exact st_store hX S fun s₈ S => ⟨rfl, x, hs1, hx, hpx, hH1, S⟩
    rintro s₇ ht₇ ⟨x, hs1, hx, hpx, hH1, S⟩
    obtain ⟨ex, hpe1⟩ := hLs.one hps hH hx hpx
    have hl1 : hs1.length + 1 = hs.length := by have := hpx.length_eq; simpa using this
    obtain ⟨y, hy⟩ : ∃ y, hs1[0]? = some y := ⟨_, List.getElem?_eq_getElem (by omega)⟩
    have hn2 : ((c :: r).map fun b => (nd b).1).Nodup := by have := hLs.nodup; rw [List.map_cons, List.nodup_cons] at this; exact this.2
    have ey : nd y = nd c := LI.two hpe1 hn2 (List.pairwise_cons.mp hps).2 hH1 hy
    have hsub1 : ∀ z ∈ hs1, z ∈ hs := fun z hz => hpx.mem_iff.mp (List.mem_cons_of_mem _ hz)
    obtain ⟨nx, tx1, tx2, tx3, hxo⟩ := hLs.ent x (List.mem_of_getElem? hx)
    obtain ⟨ny, ty1, ty2, ty3, hyo⟩ := hLs.ent y (hsub1 y (List.mem_of_getElem? hy))
    rw [ex] at hxo
    rw [ey] at hyo
    -- name
    refine seqT (fun s' => ∃ t, St X g2 (madd mnone hA (refs hs1)) L (upd (upd m3 "one" (.ref x)) "name" (.str (txt (walkL (((nd a).2 ++ (nd c).2).map nf))) t)) s') ht₇ ?_ ?_
    · refine wpAny_Assign_Name (e_fn (i := 1) hX S.inv (by decide) rfl (wpAny_with_toks (n := 1) ht₇ (a_cons (c_str hX S fun t0 s₈ S => a_cons (Subscript_ (st_name S upd_same (c_int hX S fun _ _ S => i_sta S hxo (by decide) (by decide) (x := .str (txt (wl nf (nd a))) tx3) rfl ?_)))))))
      refine a_cons (Subscript_ (Subscript_ (st_name S (upd_of (by decide) kH) (c_int hX S fun _ _ S => i_mut S madd_self (by decide) (by decide) (refs_get (x := y) hy) (c_int hX S fun _ _ S => i_sta S hyo (by decide) (by decide) (x := .str (txt (wl nf (nd c))) ty3) rfl ?_)))))
      refine a_nil fun ht₈ => ⟨S.inv, codeAny_mono (platform_ok (as := [(Str.ofString "", t0), (txt (wl nf (nd a)), tx3), (txt (wl nf (nd c)), ty3)]) hX S.inv hh ht₈ hd (by simp) ?_) ?_⟩
      · intro p hp
        simp only [List.mem_cons, List.not_mem_nil, or_false] at hp
        rcases hp with rfl | rfl | rfl
        · show (Str.ofString "").length ≤ _; rw [lit_empty, txt_len]; decide
        · show (txt _).length ≤ _; rw [txt_len]; omega
        · show (txt _).length ≤ _; rw [txt_len]; omega
      · rintro r₁ s₉ ⟨t, rfl, kept⟩
        have e : platF ([(Str.ofString "", t0), (txt (wl nf (nd a)), tx3), (txt (wl nf (nd c)), ty3)].map (·.1)) = txt (walkL (((nd a).2 ++ (nd c).2).map nf)) := by
          show platF [Str.ofString "", txt (wl nf (nd a)), txt (wl nf (nd c))] = _
          rw [lit_empty, List.map_append]
          exact plat_two (by simpa using lea) (by simpa using lec) mla mlc
        show wpAny _ _ (storeName _ _ (.str (platF _) t)) _ _ _
        rw [e]
        exact st_store hX (S.after0 kept) fun s₇ S => ⟨rfl, t, S⟩
    rintro s₈ ht₈ ⟨tn, S⟩
    obtain ⟨m4, em4⟩ : ∃ m4, upd (upd m3 "one" (.ref x)) "name" (.str (txt (walkL (((nd a).2 ++ (nd c).2).map nf))) tn) = m4 := ⟨_, rfl⟩
    have k4 : m4 "k" = some (.int ((7 + i : Nat) : Int) tv) ∧ m4 "heap" = some (.ref hA) ∧ m4 "rows" = some (.ref D) ∧ m4 "least" = some (.ref a) ∧ m4 "after" = some (.ref c) ∧ m4 "one" = some (.ref x) ∧ m4 "name" = some (.str (txt (walkL (((nd a).2 ++ (nd c).2).map nf))) tn) := by
      subst em4
      exact ⟨upd_of (by decide) (upd_of (by decide) kk), upd_of (by decide) (upd_of (by decide) kH), upd_of (by decide) (upd_of (by decide) kR), upd_of (by decide) (upd_of (by decide) kl), upd_of (by decide) (upd_of (by decide) ka), upd_of (by decide) upd_same, upd_same⟩
    rw [em4] at S
    clear em4 kk kH kR kl ka
    obtain ⟨kk, kH, kR, kl, ka, ko, kn⟩ := k4
    generalize hW : walkL (((nd a).2 ++ (nd c).2).map nf) = W at S kn wb
    -- two = heapreplace(heap, ..)
    refine seqT (fun s' => ∃ (g3 : Stat) (e : Addr) (ne : Nat) (te : Tok) (hs2 : List Addr) (nd1 : Addr → Node), gle g2 g3 ∧ g2 e = none ∧ g3 e = some (lobj #[.int (W.length : Nat) te, .int ((7 + i : Nat) : Int) tv, .str (txt W) tn] ne) ∧
      nd1 = (fun x => if x = e then (7 + i, (nd a).2 ++ (nd c).2) else nd x) ∧ (y :: hs2).Perm (e :: hs1) ∧ HeapFrom hs2.length 0 (kf (key (trH nf nd1)) hs2) ∧ St X g3 (madd mnone hA (refs hs2)) L (upd m4 "two" (.ref y)) s') ht₈ ?_ ?_
    · refine wpAny_Assign_Name (e_fn (i := 4) hX S.inv (by decide) rfl (a_cons (st_name S kH (a_cons (e_list hX (a_cons (e_lenS hX S kn (by omega) fun te s₉ S => a_cons (st_name S kk (a_cons (st_name S kn (a_nil ⟨by simp, _, _, _, _, S, fun e g3 s₁₀ hg3 he hen heX heL hem S => ?_⟩)))))))))))
      have hmu1 : (madd mnone hA (refs hs1)) hA = some (refs hs1) := madd_self
      obtain ⟨hobj1, hAX, hAL, hgA1⟩ := S.mus _ _ hmu1
      have hne : ∀ z ∈ hs, z ≠ e := fun z hz q => by
        obtain ⟨n, t1, t2, t3, e'⟩ := hLs.ent z hz
        rw [q, hen] at e'; cases e'
      obtain ⟨nd1, hnd1⟩ : ∃ nd1 : Addr → Node, nd1 = fun x => if x = e then (7 + i, (nd a).2 ++ (nd c).2) else nd x := ⟨_, rfl⟩
      have n1e : nd1 e = (7 + i, (nd a).2 ++ (nd c).2) := by rw [hnd1]; exact if_pos rfl
      have n1o : ∀ z ∈ hs1, nd1 z = nd z := fun z hz => by rw [hnd1]; exact if_neg (hne z (hsub1 z hz))
      have ent1 : ∀ b ∈ e :: hs1, ∃ n t1 t2 t3, g3 b = some (lobj #[.int ((wl nf (nd1 b)).length : Nat) t1, .int ((nd1 b).1 : Nat) t2, .str (txt (wl nf (nd1 b))) t3] n) := fun b hb => by
        rcases List.mem_cons.mp hb with rfl | hb
        · rw [n1e]
          refine ⟨0, te, tv, tn, ?_⟩
          show g3 b = some (lobj #[.int ((walkL (((nd a).2 ++ (nd c).2).map nf)).length : Nat) te, .int ((7 + i : Nat) : Int) tv, .str (txt (walkL (((nd a).2 ++ (nd c).2).map nf))) tn] 0)
          rw [hW]; exact he
        · rw [n1o b hb]
          obtain ⟨n, t1, t2, t3, e'⟩ := hLs.ent b (hsub1 b hb)
          exact ⟨n, t1, t2, t3, hg3 _ _ e'⟩
      have nod1 : ((e :: hs1).map fun b => (nd1 b).1).Nodup := by
        rw [List.map_cons, List.nodup_cons, n1e]
        have q : (hs1.map fun b => (nd1 b).1) = hs1.map fun b => (nd b).1 := List.map_congr_left fun z hz => by rw [n1o z hz]
        rw [q]
        refine ⟨fun hm => ?_, ?_⟩
        · obtain ⟨z, hz, e'⟩ := List.mem_map.mp hm
          have hm2 : nd z ∈ (a :: c :: r).map nd := hLs.perm.mem_iff.mp (List.mem_map_of_mem (hsub1 z hz))
          obtain ⟨z', hz', e''⟩ := List.mem_map.mp hm2
          have := hLs.lt z' hz'
          rw [e''] at this
          omega
        · have := (hpx.map fun b => (nd b).1).nodup_iff.mpr hLs.hnodup
          rw [List.map_cons, List.nodup_cons] at this
          exact this.2
      refine a_nil ⟨S.inv, codeAny_mono (heapreplace_ok (y := e) (hs := hs1) (tr := trH nf nd1) hX S.inv hobj1 hAX (ent_rws S hgA1 ent1 nod1) (by omega) (by omega) (heapFrom_congr hH1 fun b hb => by rw [key_trH, key_trH, n1o b hb]) hd hu) ?_⟩
      rintro r₁ s₁₁ ⟨y', hs2, hy', rfl, hp2, hH2, hobj', kept⟩
      rw [hy] at hy'
      cases hy'
      have S := S.after1 hmu1 kept hobj'
      rw [madd_madd] at S
      exact st_store hX S fun s₁₂ S => ⟨rfl, g3, e, 0, te, hs2, nd1, hg3, hen, he, hnd1, hp2, hH2, S⟩
    rintro s₉ ht₉ ⟨g3, e, ne, te, hs2, nd1, hg3, hen, he, hnd1, hp2, hH2, S⟩
    have kk5 : upd m4 "two" (.ref y) "k" = some (.int ((7 + i : Nat) : Int) tv) := upd_of (by decide) kk
    have kH5 : upd m4 "two" (.ref y) "heap" = some (.ref hA) := upd_of (by decide) kH
    have kR5 : upd m4 "two" (.ref y) "rows" = some (.ref D) := upd_of (by decide) kR
    have kl5 : upd m4 "two" (.ref y) "least" = some (.ref a) := upd_of (by decide) kl
    have ka5 : upd m4 "two" (.ref y) "after" = some (.ref c) := upd_of (by decide) ka
    have ko5 : upd m4 "two" (.ref y) "one" = some (.ref x) := upd_of (by decide) ko
    have kt5 : upd m4 "two" (.ref y) "two" = some (.ref y) := upd_same
    generalize upd m4 "two" (.ref y) = m5 at S kk5 kH5 kR5 kl5 ka5 ko5 kt5
    clear kk kH kR kl ka ko kn
    -- if one != least[:3] or two != after[:3]
    have cla : PyData.strOk (txt (wl nf (nd a))) = true := strOk_clean (walkL_clean (by simpa using lea) mla)
    have clc : PyData.strOk (txt (wl nf (nd c))) = true := strOk_clean (walkL_clean (by simpa using lec) mlc)
    refine seqT (fun s' => ∃ g4, gle g3 g4 ∧ St X g4 (madd mnone hA (refs hs2)) L m5 s') ht₉ ?_ ?_
    · refine wpAny_If (isTrue_or (wpAny_isTrue_Compare1 (st_name S ko5 (e_slice (a := a) (xs := #[.int ((wl nf (nd a)).length : Nat) ta1, .int ((nd a).1 : Nat) ta2, .str (txt (wl nf (nd a))) ta3, .ref (nA a)]) (n := na) (lo := none) (hi := some 3) hX (st_name S kl5 ?_)))))
      rw [evalPart_none, evalPart_some]
      refine wpAny_pure (c_int hX S fun t3 s₁₀ S => ⟨g3, _, L, m5, rfl, .inl (hg3 _ _ hra), by simp, .none, .int 3 _, S, fun b1 g4 s₁₁ hg4 hb1 _ _ _ _ S => ?_⟩)
      rw [pick3] at hb1
      refine ne_rows (S.keep _ _ (hg4 _ _ (hg3 _ _ hxo))) (S.keep _ _ hb1) cla (by omega) (wpAny_truthy_bool ?_)
      rw [if_neg (by decide)]
      refine isTrue_or (wpAny_isTrue_Compare1 (st_name S kt5 (e_slice (a := c) (xs := #[.int ((wl nf (nd c)).length : Nat) tc1, .int ((nd c).1 : Nat) tc2, .str (txt (wl nf (nd c))) tc3, .ref (nA c)]) (n := nc) (lo := none) (hi := some 3) hX (st_name S ka5 ?_))))
      rw [evalPart_none, evalPart_some]
      refine wpAny_pure (c_int hX S fun t3 s₁₂ S => ⟨g4, _, L, m5, rfl, .inl (hg4 _ _ (hg3 _ _ hrc)), by simp, .none, .int 3 _, S, fun b2 g5 s₁₃ hg5 hb2 _ _ _ _ S => ?_⟩)
      rw [pick3] at hb2
      refine ne_rows (S.keep _ _ (hg5 _ _ (hg4 _ _ (hg3 _ _ hyo)))) (S.keep _ _ hb2) clc (by omega) (wpAny_truthy_bool ?_)
      rw [if_neg (by decide)]
      refine isTrue_or_nil ?_
      rw [if_neg (by decide)]
      exact wpAny_execs_nil ⟨rfl, g5, hg4.trans hg5, S⟩
    rintro s₁₀ ht₁₀ ⟨g4, hg4, S⟩
    have l34 := hg3.trans hg4
    -- both
    refine seqT (fun s' => ∃ g5 bo nb, gle g4 g5 ∧ g4 bo = none ∧ X.n ≤ bo ∧ g5 bo = some (lobj (refs ((nd a).2 ++ (nd c).2)) nb) ∧ St X g5 (madd mnone hA (refs hs2)) L (upd m5 "both" (.ref bo)) s') ht₁₀ ?_ ?_
    · refine wpAny_Assign_Name (wpAny_BinOp (Subscript_ (st_name S kl5 (c_int hX S fun _ _ S => i_sta S (l34 _ _ hra) (by decide) (by decide) (x := .ref (nA a)) rfl (Subscript_ (st_name S ka5 (c_int hX S fun _ _ S => i_sta S (l34 _ _ hrc) (by decide) (by decide) (x := .ref (nA c)) rfl ?_)))))))
      refine b_addL hX S (l34 _ _ hNa) (l34 _ _ hNc) (by rw [refs_size, refs_size]; omega) fun bo g5 s₁₁ hg5 hbo hbon hboX _ _ S => ?_
      rw [refs_app] at hbo
      exact st_store hX S fun s₁₂ S => ⟨rfl, g5, bo, 0, hg5, hbon, hboX, hbo, S⟩
    rintro s₁₁ ht₁₁ ⟨g5, bo, nb, hg5, hbon, hboX, hbo, S⟩
    -- told
    refine seqT (fun s' => ∃ t, St X g5 (madd mnone hA (refs hs2)) L (upd (upd m5 "both" (.ref bo)) "told" (.str (txt W) t)) s') ht₁₁ ?_ ?_
    · refine wpAny_Assign_Name (e_fn (i := 10) hX S.inv (by decide) rfl (wpAny_with_toks (n := 1) ht₁₁ (a_cons (st_name S upd_same (a_nil fun ht₁₂ => ⟨S.inv, codeAny_mono (law_walk_ok (rA := bo) (ls := (nd a).2 ++ (nd c).2) (nf := nf) (nr := nb) hX S.inv (S.keep _ _ hbo) hboX (fun b' hb' => ?_) (by rw [List.length_append]; omega) hh ht₁₂ (by omega)) ?_⟩)))))
      · have hbl : b' ∈ lv := (List.mem_append.mp hb').elim (lma b') (lmc b')
        obtain ⟨q1, q2, sv, nn, q3, q4⟩ := hlv b' hbl
        exact ⟨q1, q2, sv, nn, S.keep _ _ (hg5 _ _ (l34 _ _ (hg2 _ _ (hgle _ _ (hg1 _ _ q3))))), q4⟩
      · rintro r₁ s₁₂ ⟨t, rfl, kept⟩
        rw [hW]
        exact st_store hX (S.after0 kept) fun s₁₃ S => ⟨rfl, t, S⟩
    rintro s₁₂ ht₁₂ ⟨tt, S⟩
    have kk6 : upd (upd m5 "both" (.ref bo)) "told" (.str (txt W) tt) "k" = some (.int ((7 + i : Nat) : Int) tv) := upd_of (by decide) (upd_of (by decide) kk5)
    have kH6 : upd (upd m5 "both" (.ref bo)) "told" (.str (txt W) tt) "heap" = some (.ref hA) := upd_of (by decide) (upd_of (by decide) kH5)
    have kR6 : upd (upd m5 "both" (.ref bo)) "told" (.str (txt W) tt) "rows" = some (.ref D) := upd_of (by decide) (upd_of (by decide) kR5)
    have kb6 : upd (upd m5 "both" (.ref bo)) "told" (.str (txt W) tt) "both" = some (.ref bo) := upd_of (by decide) upd_same
    have kt6 : upd (upd m5 "both" (.ref bo)) "told" (.str (txt W) tt) "told" = some (.str (txt W) tt) := upd_same
    generalize upd (upd m5 "both" (.ref bo)) "told" (.str (txt W) tt) = m6 at S kk6 kH6 kR6 kb6 kt6
    -- rows
    have l25 := l34.trans hg5
    refine wpAny_execs_cons (wpAny_Assign_Name (wpAny_BinOp (e_slice (a := D) (xs := refs (a :: c :: r)) (n := cD) (lo := some 2) (hi := none) hX (st_name S kR6 ?_))))
    rw [evalPart_none, evalPart_some]
    refine c_int hX S fun _ _ S => wpAny_pure ⟨g5, _, L, m6, rfl, .inl (l25 _ _ hD), by rw [refs_size]; simp only [List.length_cons] at hrl' ⊢; omega, .int 2 _, .none, S, fun d1 g6 s₁₃ hg6 hd1 _ _ _ _ S => ?_⟩
    rw [pick_drop2] at hd1
    refine e_list hX (a_cons (e_list hX (a_cons (e_lenS hX S kt6 (by omega) fun tl s₁₄ S => a_cons (st_name S kk6 (a_cons (st_name S kt6 (a_cons (st_name S kb6 (a_nil ⟨by simp, _, _, _, _, S, fun r' g7 s₁₅ hg7 hr' hr'n hr'X _ _ S => ?_⟩))))))))))
    refine a_nil ⟨by simp, _, _, _, _, S, fun d2 g8 s₁₆ hg8 hd2 _ _ _ _ S => ?_⟩
    refine b_addL (xs := refs r) (ys := refs [r']) hX S (hg8 _ _ (hg7 _ _ hd1)) hd2 (by rw [refs_size, refs_size]; simp only [List.length_cons, List.length_nil] at hrl' ⊢; omega) fun d3 g9 s₁₇ hg9 hd3 hd3n _ _ _ S => ?_
    rw [refs_app] at hd3
    refine st_store hX S fun s₁₈ S => wpAny_execs_nil ?_
    obtain ⟨oI, hoI⟩ := Option.isSome_iff_exists.mp hIS
    have i2 := hg2 _ _ hoI
    have i4 := l34 _ _ i2
    have i6 := hg6 _ _ (hg5 _ _ i4)
    have i8 := hg8 _ _ (hg7 _ _ i6)
    have hIe : e ≠ I := fun q => by rw [q, i2] at hen; cases hen
    have hIb : bo ≠ I := fun q => by rw [q, i4] at hbon; cases hbon
    have hIr : r' ≠ I := fun q => by rw [q, i6] at hr'n; cases hr'n
    have hId : d3 ≠ I := fun q => by rw [q, i8] at hd3n; cases hd3n
    have l12 := hgle.trans hg2
    have l16 := ((l12.trans l34).trans hg5).trans hg6
    have l19 := ((l16.trans hg7).trans hg8).trans hg9
    have gnone : ∀ {c : Addr} {g' : Stat}, gle g1 g' → g' c = none → g1 c = none := fun {c g'} hl e => by
      cases q : g1 c with
      | none => rfl
      | some o => rw [hl _ _ q] at e; cases e
    have her : e ≠ r' := fun q => by rw [← q, hg6 _ _ (hg5 _ _ (hg4 _ _ he))] at hr'n; cases hr'n
    have lN : gle g1 (gopt g9 I none) := fun b o q => by
      have : b ≠ I := fun z => by rw [z, hg1I] at q; cases q
      rw [gopt_ne this]; exact l19 _ _ q
    have hneR : ∀ z ∈ a :: c :: r, z ≠ e := fun z hz q => by
      obtain ⟨n, t1, t2, t3, e'⟩ := hLs.row z hz
      rw [q, hen] at e'; cases e'
    have hneH : ∀ z ∈ hs, z ≠ e := fun z hz q => by
      obtain ⟨n, t1, t2, t3, e'⟩ := hLs.ent z hz
      rw [q, hen] at e'; cases e'
    have n1R : ∀ z ∈ a :: c :: r, nd1 z = nd z := fun z hz => by rw [hnd1]; exact if_neg (hneR z hz)
    have n1H : ∀ z ∈ hs, nd1 z = nd z := fun z hz => by rw [hnd1]; exact if_neg (hneH z hz)
    have hpm : (hs2.map nd1).Perm (nd1 e :: r.map nd1) := by
      refine LI.gave (b := c) (y := y) (hs1 := hs1) ?_ ?_ hp2
      · rw [List.map_congr_left (fun z hz => n1H z (hsub1 z hz)), List.map_congr_left (fun z hz => n1R z (List.mem_cons_of_mem _ hz))]
        exact hpe1
      · rw [n1H y (hsub1 y (List.mem_of_getElem? hy)), n1R c (List.mem_cons_of_mem _ List.mem_cons_self)]
        exact ey
    have hsub2 : ∀ z ∈ hs2, z = e ∨ z ∈ hs := fun z hz => (List.mem_cons.mp (hp2.mem_iff.mp (List.mem_cons_of_mem _ hz))).imp id (hsub1 z)
    obtain ⟨nd', nA', hL', hH'⟩ := hLs1.next (gN := gopt g9 I none) (e := e) (r' := r') (bo := bo) (n1 := ne) (n2 := 0) (n3 := nb) (t1 := te) (t2 := tv) (t3 := tn) (u1 := tl) (u2 := tv) (u3 := tt) hnd1 hpm hH2 hsub2 (gnone l12 hen) (gnone l16 hr'n) her lN
      (by rw [gopt_ne hIe, hW]; exact hg9 _ _ (hg8 _ _ (hg7 _ _ (hg6 _ _ (hg5 _ _ (hg4 _ _ he))))))
      (by rw [gopt_ne hIr, hW]; exact hg9 _ _ (hg8 _ _ hr'))
      (by rw [gopt_ne hIb]; exact hg9 _ _ (hg8 _ _ (hg7 _ _ (hg6 _ _ hbo))))
    refine ⟨g9, gopt g9 I none, _, _, ⟨hg1.trans lN, upd_of (by decide) kH6, d3, hs2, r ++ [r'], nd', nA', 0, upd_same, by rw [gopt_ne hId]; exact hd3, rfl, hL', hH'⟩, fun b o q => ?_, ((hg2.trans l34).trans hg5).trans (((hg6.trans hg7).trans hg8).trans hg9), gopt_self, ?_, S⟩
    · unfold gopt at q; split at q
      · cases q
      · exact q
    · have q : I ≠ hA := fun z => by rw [z, madd_self] at hmuI; cases hmuI
      rw [madd_ne q]; rfl
  · rintro g1 mu m s₃ hJ S ht₃
    exact h g1 mu m s₃ hJ ht₃ S
end
end Mine
end
section
open PySem PySem.W PyProof.Rows
set_option autoImplicit false
set_option maxRecDepth 100000
namespace Mine
section
variable {prog : Program} {w : World} {A : Around} {s : Shared} {X : Cx} {Q : Value → Shared → Prop} {E : Value → Shared → Prop} {g : Stat} {mu : Mut} {L : Addr} {m : Loc} {env : Env} {R : Result → Shared → Prop}

theorem tvals_push {as : List (Str × Tok)} {x : Str} {t : Tok} : (tvals as).push (.str x t) = tvals (as ++ [(x, t)]) := by simp [tvals]

theorem law_texts {pm cd doc : Value} {fa : Addr} {rA r nA0 : Addr} {i1 k1 : Value} {x1 : Value} {nr nn n0 : Nat} {N : List Addr} {lv : List Addr} {nf : Addr → List (List Nat)} (hX : X.Ok) (hh : A.handled = none) (ht : 1 ≤ s.toks)
    (S : St X g mu L m s) (mR : m "rows" = some (.ref rA)) (hrA : g rA = some (lobj (refs [r]) nr)) (hr : g r = some (lobj #[i1, k1, x1, .ref nA0] n0)) (hN : g nA0 = some (lobj (refs N) nn)) (hz : N.length ≤ 7) (hlv : ∀ b ∈ N, LvAt X g nf b)
    {s0 s1 s2 s3 s4 s5 s6 st : Stmt} {rest : List Stmt} (hst : bdy 11 = s0 :: s1 :: s2 :: s3 :: s4 :: s5 :: s6 :: st :: rest) {Q : Flow → Shared → Prop}
    (h : ∀ (D : Addr) (k : Nat) (as : List (Str × Tok)) s', as.map (·.1) = N.map (fun b => txt (nf b).flatten) → g D = none → 1 ≤ s'.toks → St X (gadd g D (lobj (tvals as) k)) mu L (upd m "texts" (.ref D)) s' → Q .next s') :
    wpAny (model prog w) A (exec st (envL pm cd doc L fa)) Q noE s := by
  obtain ⟨rfl, -⟩ := List.cons.inj (List.cons.inj (List.cons.inj (List.cons.inj (List.cons.inj (List.cons.inj (List.cons.inj (List.cons.inj hst).2).2).2).2).2).2).2
  refine assign_comp hX ht (Subscript_ (Subscript_ (st_name S mR (c_int hX S fun _ _ S => i_sta S hrA (by decide) (by decide) (refs_get (x := r) rfl) (c_int hX S fun _ s₂ S => i_sta S hr (by decide) (by decide) (x := .ref nA0) rfl (wpAny_pyIter_list (S.isG hN) ?_)))))) rfl rfl ?c1 rfl ?c2 rfl rfl rfl
  case c1 => intro z hz; revert z hz; decide
  case c2 => intro z hz; revert z hz; decide
  have fr := S.fresh
  have S₂ := S.push hX (o := { cls := .type "list_iterator", data := .fields #[.ref nA0, .int 0 0] }) (tk := s₂.toks)
  have hneI : nA0 ≠ s₂.heap.objs.size := fun e => by rw [e, fr.1] at hN; cases hN
  refine ⟨_, _, (refs N).size, _, _, rfl, Walks.list hh _ nA0 hneI (refs N), ⟨⟨_, Heap.get?_push_size _ rfl, rfl, rfl⟩, S₂.isG hN⟩, fr.2.2.2, Heap.lt_size (Heap.get?_push_size _ rfl), by rw [refs_size]; omega,
    fun i g' ys => g' = g ∧ ∃ as : List (Str × Tok), ys = tvals as ∧ as.map (·.1) = (N.take i).map (fun b => txt (nf b).flatten), g, g, mu, m, ?_, ?_, ⟨rfl, [], rfl, rfl⟩, S₂, fr.1, fr.2.1, Ne.symm fr.2.2.1, ?_, ?_⟩
  · rintro i g' ys ⟨rfl, _⟩; exact gle.refl
  · intro b hb
    simp at hb
    rcases hb with rfl | rfl
    · exact .inl rfl
    · exact .inr (by rw [hN]; rfl)
  · rintro i v g' gI ys muD C mC s₃ hi ⟨rfl, as, rfl, has⟩ hv hle ht₃ S
    rw [refs_size] at hi
    obtain ⟨b, hb⟩ : ∃ b, N[i]? = some b := ⟨_, List.getElem?_eq_getElem hi⟩
    rw [refs_get hb] at hv
    cases hv
    obtain ⟨hbX, hbL, sv, nb, hbv, hbs⟩ := hlv b (List.mem_of_getElem? hb)
    refine e_meth1 F.plainAttrs_str F.slot_str_join F.type_str_join (c_str hX S fun tj s₄ S => ⟨typeIs_str _ _ _, nofun, st_name S upd_same (join_st hX S (hle _ _ hbv) (leaf_sum hbL hbs) fun t' s₅ S => ?_)⟩)
    refine ⟨g', gI, _, ⟨rfl, as ++ [(_, t')], tvals_push, ?_⟩, hle, gle.refl, fun b o e => .inl e, S⟩
    rw [List.map_append, has, List.take_succ, hb, List.map_append, hbs]
    rfl
  · rintro D k g' ys s' ⟨rfl, as, rfl, has⟩ hz' hgD hXD ht' S
    rw [refs_size, List.take_of_length_le (Nat.le_refl _)] at has
    exact h D k as s' has hgD ht' S
end
end Mine
end
section
open PySem PySem.W PyProof.Rows
set_option autoImplicit false
set_option maxRecDepth 100000
namespace Mine
section
variable {prog : Program} {w : World} {A : Around} {s : Shared} {X : Cx} {Q : Value → Shared → Prop} {E : Value → Shared → Prop} {g : Stat} {mu : Mut} {L : Addr} {m : Loc} {env : Env} {R : Result → Shared → Prop}

/-- v[i:j] of a static list, v no name -/
theorem e_sliceT {value : Expr} {lower upper : Option Expr} {p pos : Pos} {a : Addr} {xs : Array Value} {n : Nat} {lo hi : Option Int} (hX : X.Ok)
    (h : wpAny (model prog w) A (eval value env) (fun o s₁ => wpAny (model prog w) A (evalPart lower env) (fun vl s₂ => wpAny (model prog w) A (evalPart upper env) (fun vu s₃ =>
      ∃ (g : Stat) (mu : Mut) (L : Addr) (m : Loc), o = .ref a ∧ g a = some (lobj xs n) ∧ xs.size ≤ 16777216 ∧ IsPart vl lo ∧ IsPart vu hi ∧ St X g mu L m s₃ ∧
        (∀ b g' s', gle g g' → g' b = some (lobj (slicePick xs lo hi none) 0) → g b = none → X.n ≤ b → L < b → mu b = none → St X g' mu L m s' → Q (.ref b) s')) E s₂) E s₁) E s) :
    wpAny (model prog w) A (eval (.Subscript value (.Slice lower upper none p) pos) env) Q E s := by
  refine Subscript_ (wpAny_mono h (fun o s₁ h₁ => wpAny_Slice (wpAny_mono h₁ (fun vl s₂ h₂ => wpAny_mono h₂ (fun vu s₃ h₃ => ?_) fun _ _ x => x) fun _ _ x => x)) fun _ _ x => x)
  obtain ⟨g, mu, L, m, rfl, hg, hz, h1, h2, S, h⟩ := h₃
  rw [evalPart_none]
  have hl := S.isG hg
  refine wpAny_pure (tail_any (hl.push _).typeIs slot_list_getitem.lookup (wpAny_getItem_list_slice (hl.push _) (Heap.IsSliceOf.new ..) h1 h2 .none (by simp) ?_ (by rw [sizeLine_eq]; exact hz)) (by with_unfolding_all rfl))
  have S1 := S.push hX (o := { cls := .type "slice", data := .fields #[vl, vu, .none] }) (tk := s₃.toks)
  exact newL hX S1 h (tk := s₃.toks) (xs := slicePick xs lo hi none)

theorem law_ret {pm cd doc : Value} {fa : Addr} {hA x D rA r nA0 : Addr} {nx nr n0 k0 : Nat} {t1 t2 t3 u1 u2 u3 : Tok} {kk : Int} {W : List Nat} {as : List (Str × Tok)} (hX : X.Ok) (hh : A.handled = none) (ht : 1 ≤ s.toks) (hd : A.depth + 20 < recursionLimit) (hu : A.units + 50 < cLine)
    (S : St X g mu L m s) (mH : m "heap" = some (.ref hA)) (mR : m "rows" = some (.ref rA)) (mT : m "texts" = some (.ref D)) (hhA : mu hA = some #[.ref x]) (hx : g x = some (lobj #[.int (W.length : Nat) t1, .int kk t2, .str (txt W) t3] nx))
    (hrA : g rA = some (lobj (refs [r]) nr)) (hr : g r = some (lobj #[.int (W.length : Nat) u1, .int kk u2, .str (txt W) u3, .ref nA0] n0)) (hD : g D = some (lobj (tvals as) k0)) (hW : PyData.strOk (txt W) = true) (hn : as.length ≤ 10) (hz : ∀ p ∈ as, p.1.length ≤ 20000) (hp : platF (as.map (·.1)) = txt W)
    {s0 s1 s2 s3 s4 s5 s6 s7 st : Stmt} {rest : List Stmt} (hst : bdy 11 = s0 :: s1 :: s2 :: s3 :: s4 :: s5 :: s6 :: s7 :: st :: rest) {Q : Flow → Shared → Prop}
    (h : ∀ g' s', gle g g' → St X g' mu L m s' → Q (.ret (.bool true)) s') :
    wpAny (model prog w) A (exec st (envL pm cd doc L fa)) Q noE s := by
  obtain ⟨rfl, -⟩ := List.cons.inj (List.cons.inj (List.cons.inj (List.cons.inj (List.cons.inj (List.cons.inj (List.cons.inj (List.cons.inj (List.cons.inj hst).2).2).2).2).2).2).2).2
  refine wpAny_Return_some (BoolOp_and (wpAny_with_toks (n := 1) ht (wpAny_Compare1 (st_name S mH (e_list hX ?_)))))
  refine a_cons (e_sliceT (a := r) (xs := #[.int (W.length : Nat) u1, .int kk u2, .str (txt W) u3, .ref nA0]) (n := n0) (lo := none) (hi := some 3) hX (Subscript_ (st_name S mR (c_int hX S fun _ _ S => i_sta S hrA (by decide) (by decide) (refs_get (x := r) rfl) ?_))))
  rw [evalPart_none, evalPart_some]
  refine wpAny_pure (c_int hX S fun _ s₁ S => ⟨g, mu, L, m, rfl, hr, by simp, .none, .int 3 _, S, fun b1 g1 s₂ hg1 hb1 _ _ _ _ S => a_nil ⟨by simp, _, _, _, _, S, fun b2 g2 s₃ hg2 hb2 _ _ _ _ S => ?_⟩⟩)
  rw [pick3] at hb1
  obtain ⟨⟨nh, hho⟩, _⟩ := S.mus _ _ hhA
  refine eq_heaps (a := x) (b := b1) hho (S.keep _ _ hb2) (S.keep _ _ (hg2 _ _ (hg1 _ _ hx))) (S.keep _ _ (hg2 _ _ hb1)) hW (by omega) fun ht₃ => wpAny_truthy_bool ?_
  rw [if_pos rfl]
  have hg := hg1.trans hg2
  refine BoolOp_one (wpAny_Compare1 (e_star (i := 1) hX S (by decide) rfl mT (hg _ _ hD) (by omega) fun s₄ e4 S => codeAny_mono (platform_ok hX S.inv hh (by omega) hd hn hz) ?_))
  rintro r₁ s₅ ⟨t, rfl, kept⟩
  have S := S.after0 kept
  refine Subscript_ (Subscript_ (st_name S mR (c_int hX S fun _ _ S => i_sta S (hg _ _ hrA) (by decide) (by decide) (refs_get (x := r) rfl) (c_int hX S fun _ s₆ S => i_sta S (hg _ _ hr) (by decide) (by decide) (x := .str (txt W) u3) rfl ?_))))
  refine PyProof.Rows.eq_str ?_
  have e : (platF (as.map (·.1)) == txt W) = true := by rw [hp]; exact beq_self_eq_true _
  rw [e]
  exact h g2 _ hg S
end
end Mine
end
section
open PySem PySem.W PyProof.Rows
set_option autoImplicit false
set_option maxRecDepth 100000
namespace Mine
section
variable {prog : Program} {w : World} {A : Around} {s : Shared} {X : Cx} {Q : Value → Shared → Prop} {E : Value → Shared → Prop} {g : Stat} {mu : Mut} {L : Addr} {m : Loc} {env : Env} {R : Result → Shared → Prop}

theorem law_nil2 {pm cd doc : Value} {fa : Addr} (hX : X.Ok) (S : St X g mu L m s) {s0 s1 st : Stmt} {rest : List Stmt} (hst : bdy 11 = s0 :: s1 :: st :: rest) {Q : Flow → Shared → Prop}
    (h : ∀ b s', mu b = none → g b = none → St X g (madd mu b #[]) L (upd m "heap" (.ref b)) s' → Q .next s') : wpAny (model prog w) A (exec st (envL pm cd doc L fa)) Q noE s := by
  obtain ⟨rfl, -⟩ := List.cons.inj (List.cons.inj (List.cons.inj hst).2).2
  exact wpAny_Assign_Name (e_nil hX S fun b s' h1 h2 _ _ S => st_store hX S fun s'' S => h b s'' h1 h2 S)
theorem law_nil3 {pm cd doc : Value} {fa : Addr} (hX : X.Ok) (S : St X g mu L m s) {s0 s1 s2 st : Stmt} {rest : List Stmt} (hst : bdy 11 = s0 :: s1 :: s2 :: st :: rest) {Q : Flow → Shared → Prop}
    (h : ∀ b s', mu b = none → g b = none → St X g (madd mu b #[]) L (upd m "rows" (.ref b)) s' → Q .next s') : wpAny (model prog w) A (exec st (envL pm cd doc L fa)) Q noE s := by
  obtain ⟨rfl, -⟩ := List.cons.inj (List.cons.inj (List.cons.inj (List.cons.inj hst).2).2).2
  exact wpAny_Assign_Name (e_nil hX S fun b s' h1 h2 _ _ S => st_store hX S fun s'' S => h b s'' h1 h2 S)

theorem LvAt.gle {nf : Addr → List (List Nat)} {g g' : Stat} {b : Addr} (h : LvAt X g nf b) (hg : Mine.gle g g') : LvAt X g' nf b := ⟨h.1, h.2.1, let ⟨sv, n, e, q⟩ := h.2.2; ⟨sv, n, hg _ _ e, q⟩⟩

theorem law_body {tree : Sem Flow} {pm cd doc : Value} {fa : Addr} {oS oO : Obj} {sA : Addr} {xs : Array Value} {s0 s1 s2 s3 s4 s5 s6 s7 s8 : Stmt} (hb : bdy 11 = [s0, s1, s2, s3, s4, s5, s6, s7, s8]) (htree : execs (bdy 11) (envL pm cd doc L fa) = tree) (hX : X.Ok) (hh : A.handled = none) (hd : A.depth + 20 < recursionLimit) (hu : A.units + 50 < cLine) (S : St X g mnone L m s)
    (hS : g (L + 1) = some oS) (hdS : oS.data = .cell (some (.ref sA))) (hsA : X.h₁.IsList sA xs) (hxs : xs.size ≤ 1000) (hxi : AllInts xs) (hO : g (L + 1 + 1) = some oO) (hdO : oO.data = .cell none) {Q : Flow → Shared → Prop}
    (h : ∀ g' mu' m' s', (∀ b o, b ≠ L + 1 + 1 → g b = some o → g' b = some o) → St X g' mu' L m' s' → Q (.ret (.bool true)) s') :
    wpAny (model prog w) A tree Q noE s := by
  subst htree
  have hNS : L + 1 ≠ L + 1 + 1 := Nat.ne_of_lt (Nat.lt_succ_self _)
  rw [hb]
  -- own
  refine wpAny_execs_cons (law_own hX S hO hdO hb fun g2 oO' ow vs s₁ k1 k2 k3 k4 k5 k6 ht₁ S => ?_)
  -- leaves
  refine seqT (fun s' => ∃ (D : Addr) (k : Nat) (lv : List Addr) (g3 : Stat), lv.length = 7 ∧ (∀ b ∈ lv, LvAt X g3 (textsOf g3) b) ∧ gle g2 g3 ∧ g3 D = none ∧ St X (gadd g3 D (lobj (refs lv) k)) mnone L (upd m "leaves" (.ref D)) s') ht₁
    (law_leaves hX hh ht₁ (by omega) S (k1 _ _ hNS hS) hdS hsA hxs hxi k2 k3 k4 k5 k6 hb fun D k lv g3 s' q1 q2 q3 q4 _ _ S => ⟨rfl, D, k, lv, g3, q1, q2, q3, q4, S⟩) ?_
  rintro s₂ ht₂ ⟨D, k, lv, g3, q1, q2, q3, q4, S⟩
  generalize hnf : textsOf g3 = nf at q2
  have q2' : ∀ b ∈ lv, LvAt X (gadd g3 D (lobj (refs lv) k)) nf b := fun b hb' => (q2 b hb').gle (gadd_le q4)
  have q5 : ∀ b o, b ≠ L + 1 + 1 → g b = some o → gadd g3 D (lobj (refs lv) k) b = some o := fun b o hb' e => gadd_le q4 _ _ (q3 _ _ (k1 _ _ hb' e))
  have hD : gadd g3 D (lobj (refs lv) k) D = some (lobj (refs lv) k) := gadd_self
  generalize gadd g3 D (lobj (refs lv) k) = g4 at S q2' q5 hD
  -- heap, rows
  refine seqT (fun s' => ∃ hA, g4 hA = none ∧ St X g4 (madd mnone hA #[]) L (upd (upd m "leaves" (.ref D)) "heap" (.ref hA)) s') ht₂ (law_nil2 hX S hb fun b s' _ q S => ⟨rfl, b, q, S⟩) ?_
  rintro s₃ ht₃ ⟨hA, _, S⟩
  refine seqT (fun s' => ∃ rA, hA ≠ rA ∧ St X g4 (madd (madd mnone hA #[]) rA #[]) L (upd (upd (upd m "leaves" (.ref D)) "heap" (.ref hA)) "rows" (.ref rA)) s') ht₃ (law_nil3 hX S hb fun b s' q _ S => ⟨rfl, b, (fun e => by rw [← e, madd_self] at q; cases q), S⟩) ?_
  rintro s₄ ht₄ ⟨rA, hne, S⟩
  -- the first loop
  refine seqT (fun s' => ∃ g5 mu5 m5, J1 nf lv g4 D hA rA 7 g5 mu5 m5 ∧ St X g5 mu5 L m5 s') ht₄ (law_loop1 hX hh ht₄ hd S hne hD q1 q2' (upd_of (by decide) (upd_of (by decide) upd_same)) (upd_of (by decide) upd_same) upd_same hb fun g' mu' m' s' hJ _ S => ⟨rfl, g', mu', m', hJ, S⟩) ?_
  rintro s₅ ht₅ ⟨g5, mu5, m5, ⟨l45, mD, mH, mR, hs, rs, nd, nA, rfl, hL1⟩, S⟩
  -- heapify
  refine seqT (fun s' => ∃ hs' g6 n, gle g5 g6 ∧ g6 rA = some (lobj (refs rs) n) ∧ LI nf lv g6 0 hs' rs nd nA ∧ HeapFrom hs'.length 0 (kf (key (trH nf nd)) hs') ∧ St X g6 (madd mnone hA (refs hs')) L m5 s') ht₅
    (law_heapify hX hh ht₅ hd hu S hne (hL1.li q1) mH mR hb fun hs' g6 n s' p1 p2 _ p4 p5 S => ⟨rfl, hs', g6, n, p1, p2, p4, p5, S⟩) ?_
  rintro s₆ ht₆ ⟨hs', g6, n6, l56, p2, p4, p5, S⟩
  have l46 := l45.trans l56
  have q6 : ∀ b ∈ lv, LvAt X g6 nf b := fun b hb' => (q2' b hb').gle l46
  -- the second loop
  refine seqT (fun s' => ∃ g7 mu7 m7, J2 nf lv g6 hA 6 g7 mu7 m7 ∧ St X g7 mu7 L m7 s') ht₆ (law_loop2 hX hh ht₆ hd hu S q6 ⟨gle.refl, mH, rA, hs', rs, nd, nA, n6, mR, p2, rfl, p4, p5⟩ hb fun g' mu' m' s' hJ _ S => ⟨rfl, g', mu', m', hJ, S⟩) ?_
  rintro s₇ ht₇ ⟨g7, mu7, m7, ⟨l67, mH, rA', hs7, rs7, nd7, nA7, n7, mR, hrA, rfl, hLI, _⟩, S⟩
  have hlen := hLI.len
  obtain ⟨r, rfl⟩ : ∃ r, rs7 = [r] := by
    match rs7, hlen with
    | [r], _ => exact ⟨r, rfl⟩
    | [], q => simp at q
    | _ :: _ :: _, q => simp at q
  have hlenH : hs7.length = 1 := by have := hLI.perm.length_eq; simpa using this
  obtain ⟨x, rfl⟩ : ∃ x, hs7 = [x] := by
    match hs7, hlenH with
    | [x], _ => exact ⟨x, rfl⟩
    | [], q => simp at q
    | _ :: _ :: _, q => simp at q
  have ex : nd7 x = nd7 r := by
    have := hLI.perm
    simp only [List.map_cons, List.map_nil] at this
    simpa using (List.perm_singleton.mp this)
  obtain ⟨nx, t1, t2, t3, hx⟩ := hLI.ent x List.mem_cons_self
  obtain ⟨nr, u1, u2, u3, hr⟩ := hLI.row r List.mem_cons_self
  obtain ⟨nn, hN⟩ := hLI.nam r List.mem_cons_self
  obtain ⟨lne, lm⟩ := hLI.leaf r List.mem_cons_self
  have f7 := hLI.few (b := r) List.mem_cons_self
  rw [ex] at hx
  have hlvN : ∀ b ∈ (nd7 r).2, LvAt X g7 nf b := fun b hb' => (q6 b (lm b hb')).gle l67
  -- texts
  refine seqT (fun s' => ∃ (D : Addr) (k : Nat) (as : List (Str × Tok)), as.map (·.1) = (nd7 r).2.map (fun b => txt (nf b).flatten) ∧ g7 D = none ∧ St X (gadd g7 D (lobj (tvals as) k)) (madd mnone hA (refs [x])) L (upd m7 "texts" (.ref D)) s') ht₇
    (law_texts (lv := lv) hX hh ht₇ S mR hrA hr hN f7 hlvN hb fun D k as s' z1 z2 _ S => ⟨rfl, D, k, as, z1, z2, S⟩) ?_
  rintro s₈ ht₈ ⟨T, kT, as, has, hTn, S⟩
  have lT := gadd_le (o := lobj (tvals as) kT) hTn
  have mlN : ∀ n ∈ (nd7 r).2.map nf, IsLeaf n := fun n hn => by obtain ⟨b, hb', rfl⟩ := List.mem_map.mp hn; exact (hlvN b hb').2.1
  have hal : as.length = (nd7 r).2.length := by have := congrArg List.length has; simpa using this
  refine wpAny_execs_cons (law_ret (W := wl nf (nd7 r)) (as := as) hX hh ht₈ hd hu S (upd_of (by decide) mH) (upd_of (by decide) mR) upd_same madd_self (lT _ _ hx) (lT _ _ hrA) (lT _ _ hr) gadd_self (strOk_clean (walkL_clean (by simpa using lne) mlN)) (by omega) (fun p hp => ?_) ?_ hb fun g' s' hg' S => ?_)
  · have hp1 : p.1 ∈ as.map (·.1) := List.mem_map_of_mem hp
    rw [has] at hp1
    obtain ⟨b, hb', e⟩ := List.mem_map.mp hp1
    rw [← e, txt_len]
    exact Nat.le_trans (leaf_flat_len (hlvN b hb').2.1) (by decide)
  · rw [has]
    have := plat_names (N := (nd7 r).2.map nf) (by simpa using lne) mlN
    rw [List.map_map] at this
    exact this
  · exact h g' _ _ s' (fun b o hb' e => hg' _ _ (lT _ _ (l67 _ _ (l46 _ _ (q5 _ _ hb' e))))) S

theorem law_shape : ∃ s0 s1 s2 s3 s4 s5 s6 s7 s8, bdy 11 = [s0, s1, s2, s3, s4, s5, s6, s7, s8] := ⟨_, _, _, _, _, _, _, _, _, rfl⟩

theorem law_ok {sA : Addr} {xs : Array Value} (hX : X.Ok) (I : Inv X s) (hh : A.handled = none) (hd : A.depth + 30 < recursionLimit) (hu : A.units + 60 < cLine) (hsA : X.h₁.IsList sA xs) (hxs : xs.size ≤ 1000) (hxi : AllInts xs) :
    codeAny (model prog w) A (.call (.ref (X.fa 11)) ⟨[.ref sA], []⟩) (fun r s' => r = .ok (.ret (.bool true)) ∧ Kept X (fun _ => False) s s') s := by
  obtain ⟨s0, s1, s2, s3, s4, s5, s6, s7, s8, hb⟩ := law_shape
  refine call_fnC hX I (by decide) (by omega) (binds := [("script", .ref sA)]) (fun _ _ _ => rfl) ?_ (fun pm doc s₁ x htk₁ => ?_) rfl rfl rfl
  · intro y hy
    rw [List.mem_singleton] at hy
    subst hy
    exact .inr ⟨rfl, rfl⟩
  have S := St.enterC hX I x
  obtain ⟨oS, hoS, hdS⟩ := x.cell _ _ (show (cellsFrom (s.heap.objs.size + 1) (scp 11).names []).lookup (Str.ofString "script") = some (s.heap.objs.size + 1) from rfl)
  obtain ⟨oO, hoO, hdO⟩ := x.cell _ _ (show (cellsFrom (s.heap.objs.size + 1) (scp 11).names []).lookup (Str.ofString "own") = some (s.heap.objs.size + 1 + 1) from rfl)
  have hle : X.n ≤ s.heap.objs.size := I.size
  have hN1 : X.n ≤ s.heap.objs.size + 1 := Nat.le_trans hle (Nat.le_succ _)
  have hN2 : X.n ≤ s.heap.objs.size + 1 + 1 := Nat.le_trans hN1 (Nat.le_succ _)
  have hnone : ∀ b, s.heap.objs.size ≤ b → hid X mnone s.heap b = none := fun b hb => by
    unfold hid; split
    · cases q : s.heap.get? b with
      | none => rfl
      | some o => exact absurd (Heap.lt_size q) (Nat.not_lt.mpr hb)
    · rfl
  have hL1 : s.heap.objs.size + 1 ≠ s.heap.objs.size := Nat.succ_ne_self _
  have hL2 : s.heap.objs.size + 1 + 1 ≠ s.heap.objs.size := Nat.ne_of_gt (Nat.lt_trans (Nat.lt_succ_self _) (Nat.lt_succ_self _))
  have hNS : s.heap.objs.size + 1 ≠ s.heap.objs.size + 1 + 1 := Nat.ne_of_lt (Nat.lt_succ_self _)
  have S := (S.addG hoS hN1 hL1 rfl).addG hoO hN2 hL2 rfl
  generalize htree : execs (bdy 11) (callEnvC (Calls.docDef (nm 11) (prm 11) (bdy 11) (scp 11) pm (X.cd 11) doc) s.heap.objs.size (X.fa 11)) = tree
  refine law_body hb htree hX (show (A.deeper _).handled = none from hh) (show A.depth + 1 + 20 < recursionLimit by omega) (show A.units + 3 + 50 < cLine by omega) S (oS := oS) (by unfold gadd; rw [if_neg hNS, if_pos rfl]) hdS hsA hxs hxi gadd_self hdO fun g' mu' m' s' h2 S => ⟨rfl, ?_⟩
  have hgle : gle (hid X mnone s.heap) g' := fun b o e => by
    have hb : b < s.heap.objs.size := by
      rcases Nat.lt_or_ge b s.heap.objs.size with h | h
      · exact h
      · rw [hnone b h] at e; cases e
    have hb1 : b ≠ s.heap.objs.size + 1 := Nat.ne_of_lt (Nat.lt_trans hb (Nat.lt_succ_self _))
    have hb2 : b ≠ s.heap.objs.size + 1 + 1 := Nat.ne_of_lt (Nat.lt_trans (Nat.lt_trans hb (Nat.lt_succ_self _)) (Nat.lt_succ_self _))
    refine h2 b o hb2 ?_
    unfold gadd; rw [if_neg hb2, if_neg hb1]; exact e
  exact (S.kept hgle).mono fun b hb => by simp [mnone] at hb
end
end Mine
end
section
open PySem PySem.W PyProof.Rows
set_option autoImplicit false
set_option maxRecDepth 100000
namespace Mine

/-- the older heap as the run leaves it -/
theorem Inv.oldK {X : Cx} {s : Shared} (hX : X.Ok) (I : Inv X s) : OldK X.h₁ s.heap := by
  obtain ⟨ps, ht, _⟩ := I.tab
  refine ⟨fun b o e => ?_, fun b o e => ?_⟩
  · by_cases hb : b = X.P
    · subst hb
      have e₀ : o = { cls := .none, data := .fields #[] } := Option.some.inj (e.symm.trans hX.tab.2)
      subst e₀
      exact .inr (.inl ⟨hX.tab.isCodeTable, rfl, #[], ps, rfl, by rw [ht.2]; simp⟩)
    · exact .inl (I.ext b o hb e)
  · by_cases hb : b = X.P
    · exact ⟨_, hb ▸ ht.2⟩
    · exact ⟨o, I.ext b o hb e⟩

/-- the data of the run, out of what the top left -/
theorem cx_of_top {p : Program} {loose : List Str} {mean : ExcName → Option Value} {mg mb : Str → Option Value} {s : Shared} (T : Top p loose mean mg mb s.heap) (hgens : s.gens = #[])
    (hrec : ∀ i ∈ [1, 3, 4, 5, 6, 7, 9, 10, 11], ∃ d ∈ recsOf p, d.name = nm i ∧ d.params = prm i ∧ d.body = bdy i ∧ d.scope = scp i) (hfree : ∀ x ∈ usedB, x ∉ startupNames ∧ x ∉ loose ∧ x ∉ (recsOf p).map (·.name) ∧ x ∉ (litsOf p).map (·.1) ∧ x ∉ (clssOf p loose).map (·.name)) :
    ∃ X : Cx, X.Ok ∧ Inv X s ∧ X.h₁ = s.heap ∧ X.mg = mg ∧ X.os = s.os := by
  have key : ∀ i, ∃ ac : Addr × Value, i ∈ [1, 3, 4, 5, 6, 7, 9, 10, 11] → mg (nm i) = some (.ref ac.1) ∧ ∃ o pm doc, s.heap.get? ac.1 = some o ∧ o.data = .func (Calls.docDef (nm i) (prm i) (bdy i) (scp i) pm ac.2 doc) ∧ s.heap.CodeRec ac.2 (nm i) := fun i => by
    by_cases hi : i ∈ [1, 3, 4, 5, 6, 7, 9, 10, 11]
    · obtain ⟨d, hd, h1, h2, h3, h4⟩ := hrec i hi
      obtain ⟨a, o, pm, cd, doc, q1, q2, q3, q4⟩ := T.fn d hd
      rw [h1] at q1 q3 q4
      rw [h2, h3, h4] at q3
      exact ⟨(a, cd), fun _ => ⟨q1, o, pm, doc, q2, q3, q4⟩⟩
    · exact ⟨(0, .none), fun h => absurd h hi⟩
  obtain ⟨ac, hac⟩ := Classical.axiomOfChoice key
  obtain ⟨d, hd, h1, h2, h3, h4⟩ := hrec 1 (by decide)
  obtain ⟨a', o', fd, c, P, q1, q2, q3, q4, q5, q6⟩ := T.tab d hd
  rw [h1] at q1
  obtain ⟨r1, o, pm, doc, r2, r3, r4⟩ := hac 1 (by decide)
  have ea : a' = (ac 1).1 := by have := q1.symm.trans r1; injection this with e; injection e
  subst ea
  have eo : o' = o := Option.some.inj (q2.symm.trans r2)
  subst eo
  have ec : (ac 1).2 = .ref c := by
    have := q3.symm.trans r3
    injection this with e
    rw [e] at q4
    exact q4
  refine ⟨⟨s.heap, c, P, mg, mb, fun i => (ac i).1, fun i => (ac i).2, s.os⟩, ⟨T.g, T.b, T.nolimit, T.nodigits, T.builtins, fun x hx => ?_, q6, q5, ?_, fun i hi => hac i hi, ec, T.bmain⟩, ⟨fun b o _ e => e, ⟨#[], q6, q5⟩, rfl, by rw [hgens]; exact AllBare.empty, Nat.le_refl _⟩, rfl, rfl, rfl⟩
  · obtain ⟨f1, f2, f3, f4, f5⟩ := hfree x hx
    exact T.free x f1 f2 f3 f4 f5
  · intro e
    have e' : P = cStatics := e
    obtain ⟨_, hns, _⟩ := T.nolimit
    obtain ⟨o, es, ep, ho, hd, _⟩ := hns
    rw [← e', q6.2] at ho
    cases ho
    cases hd
end Mine
end
section
open PySem PySem.W PyProof.Rows
set_option autoImplicit false
set_option maxRecDepth 100000
namespace Mine

def stPos : Stmt → Pos
  | .FunctionDef _ _ _ _ _ _ _ _ _ p => p
  | _ => default
/-- the record of a def of the program's -/
def recAt (i : Nat) : DefRec := ⟨nm i, prm i, bdy i, scp i, stPos (fnAt i)⟩

theorem law_end {prog : Program} {w : World} {p : Program} {loose : List Str} {mean : ExcName → Option Value} {mg mb : Str → Option Value} {s : Shared} {a l : Addr} {vs : List Value} {ns : List Int} (T : Top p loose mean mg mb s.heap) (hgens : s.gens = #[])
    (hrec : ∀ i ∈ [1, 3, 4, 5, 6, 7, 9, 10, 11], (recsOf p).find? (fun e => e.name == nm i) = some (recAt i)) (hfree : (usedB.all fun x => !(startupNames ++ loose ++ (recsOf p).map (·.name) ++ (litsOf p).map (·.1) ++ (clssOf p loose).map (·.name)).contains x) = true)
    (hmg : mg (nm 11) = some (.ref a)) (hl : s.heap.IsList l vs.toArray) (hi : IntsAre vs ns) (hn : ¬ ((63 : Nat) : Int) < (ns.length : Int)) :
    codeAny (model prog w) callerA (.call (.ref a) ⟨[.ref l], []⟩) (fun r s' => r = .ok (.ret (.bool true)) ∧ OldK s.heap s'.heap ∧ s'.os = s.os ∧ AllBare s'.gens) s := by
  obtain ⟨X, hX, I, e1, e2, e3⟩ := cx_of_top T hgens (fun i hi => ⟨_, List.mem_of_find?_eq_some (hrec i hi), rfl, rfl, rfl, rfl⟩) (fun x hx => by
    have := List.all_eq_true.mp hfree x hx
    simpa [List.mem_append, not_or, and_assoc] using this)
  have ea : X.fa 11 = a := by
    have h1 := (hX.fn 11 (by decide)).1
    rw [e2, hmg] at h1
    injection h1 with e
    injection e with e
    exact e.symm
  subst ea
  have hlen : vs.length ≤ 1000 := by
    have := hi.length
    omega
  refine codeAny_mono (law_ok (xs := vs.toArray) hX I rfl (by decide) (by decide) (by rw [e1]; exact hl) (by simpa using hlen) hi.allInts) ?_
  rintro r s' ⟨rfl, kept⟩
  refine ⟨rfl, ?_, ?_, kept.1.gens⟩
  · rw [← e1]; exact kept.1.oldK hX
  · rw [← e3]; exact kept.1.os
end Mine
end
set_option maxRecDepth 100000 in
set_option maxHeartbeats 8000000 in
theorem PySem.Challenge.cw_mq0181_01_holds : PySem.Challenge.rw_mq0181_01.Holds := by
  w_on; o_law; k_head; (case hw => w_witness2)
  intro w s₀ s₁ mg mb G Y a o pm cd doc dV kV ho hda hcd hD hmg hg args vals as hpre hlay hrd hwl hlo
  clear Y
  wrow_args hpre hlay hrd hwl hlo
  clear hda hcd hD
  rename_i h1 h2
  refine enter_call (codeAny_mono (Mine.law_end G.T hg ?hrec ?hfree hmg (by assumption) (by assumption) (by assumption)) ?_)
  case hrec =>
    intro i hi
    simp only [List.mem_cons, List.not_mem_nil, or_false] at hi
    rcases hi with rfl | rfl | rfl | rfl | rfl | rfl | rfl | rfl | rfl <;> kernel_rfl
  case hfree => kernel_rfl
  rintro r s' ⟨rfl, hold, hos, hbare⟩
  refine ⟨.inl ⟨.bool true, .bool true, [], rfl, fun _ => rfl, .bool _, ?post, fun _ => ⟨.nil, nofun⟩⟩, hold, hos, hbare⟩
  case post => first | (with_unfolding_all rfl) | kernel_rfl
