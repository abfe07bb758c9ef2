import PyProof.Rows.All
import Wide.All
import OpenK.AllK
import Wide.FinOn
import KE.KOpsOwn
import KE.KFmtOwn
import PyProof.FactsBase
import PyProof.TableTree
import PyProof.FactsTree
import PyProof.PlainAttrs
import PyProof.ExcFactsAll.ValueError
import KE.KPairComp
import Lean
import PySem.Challenge.RW_pe0180_03
open PySem PySem.W PyProof.Rows
set_option Elab.async false
set_option maxRecDepth 100000 in
set_option maxHeartbeats 8000000 in
open_top hd for PySem.Challenge.rw_pe0180_03.row

set_option autoImplicit false
set_option linter.unusedVariables false
set_option linter.unusedSectionVars false
set_option bootstrap.genMatcherCode false
namespace Mine
set_option genInjectivity false
set_option genSizeOf false
set_option compiler.extract_closed false
section
open PySem PySem.W PyProof.Rows
set_option autoImplicit false
set_option tactic.hygienic false
inductive PV where
  | none
  | bool (b : Bool)
  | int (i : Int)
  | str (s : Str)
  | lit (s : Str)
  | typ (n : String)
  | bi (n : String)
  | glob (a : Addr)
  | ref (i : Nat)
  | tup (l : List PV)

inductive PO where
  | list (l : List PV)
  | dct (fs : List (String × PV))
  | inst (k : Nat)

inductive Res (α : Type) where
  | ok (a : α)
  | exc

structure PS where
  loc : List (String × PV)
  H : List PO

noncomputable def PM (α : Type) := PS → Option (Res α × PS)
noncomputable def PM.pure {α : Type} (a : α) : PM α := fun σ => some (.ok a, σ)
noncomputable def PM.bind {α β : Type} (p : PM α) (q : α → PM β) : PM β := fun σ => match p σ with
  | some (.ok a, σ') => q a σ'
  | some (.exc, σ') => some (.exc, σ')
  | none => none

structure Wd where
  prog : Program
  w : World
  K : Frag
  h₀ : Heap
  C : Addr
  mg : Str → Option Value
  mb : Str → Option Value
  X : K.In h₀
  g : h₀.Ns mainGlobals mg
  b : h₀.Ns builtinsNs mb
  bi : ∀ x : Str, x ≠ "__name__" → mb x = bootBuiltins x
  nolimit : h₀.NoLimit
  nodigits : ∃ mc, h₀.Ns cStatics mc ∧ mc "sys.int_max_str_digits" = none
  nobook : NoneBooked h₀
  cd : ClassData
  hcd : clsIn K C = some cd
  hasDict : cd.hasDict = true
  hga : findIn K (.ref C) "__getattribute__" = some (some (.builtin "object.__getattribute__"))
  hgk : findIn K (.ref C) "__getattr__" = some none

inductive All2 {α β : Type} (R : α → β → Prop) : List α → List β → Prop where
  | nil : All2 R [] []
  | cons {a : α} {b : β} {as : List α} {bs : List β} : R a b → All2 R as bs → All2 R (a :: as) (b :: bs)

theorem All2.mono {α β : Type} {R S : α → β → Prop} (h : ∀ a b, R a b → S a b) {as : List α} {bs : List β} (x : All2 R as bs) : All2 S as bs := by
  induction x with
  | nil => exact .nil
  | cons r _ ih => exact .cons (h _ _ r) ih
theorem All2.length {α β : Type} {R : α → β → Prop} {as : List α} {bs : List β} (x : All2 R as bs) : as.length = bs.length := by
  induction x with
  | nil => rfl
  | cons _ _ ih => simp [ih]
theorem All2.append {α β : Type} {R : α → β → Prop} {as as' : List α} {bs bs' : List β} (x : All2 R as bs) (y : All2 R as' bs') : All2 R (as ++ as') (bs ++ bs') := by
  induction x with
  | nil => exact y
  | cons r _ ih => exact .cons r ih
theorem All2.get {α β : Type} {R : α → β → Prop} {as : List α} {bs : List β} (x : All2 R as bs) : ∀ {i : Nat} {b : β}, bs[i]? = some b → ∃ a, as[i]? = some a ∧ R a b := by
  induction x with
  | nil => intro i b h; simp at h
  | cons r _ ih =>
    intro i b h
    cases i with
    | zero => simp at h; subst h; exact ⟨_, rfl, r⟩
    | succ i => simp at h; simpa using ih h
theorem All2.take {α β : Type} {R : α → β → Prop} {as : List α} {bs : List β} (x : All2 R as bs) : ∀ n, All2 R (as.take n) (bs.take n) := by
  induction x with
  | nil => intro n; simp; exact .nil
  | cons r _ ih => intro n; cases n with
    | zero => exact .nil
    | succ n => exact .cons r (ih n)
theorem All2.drop {α β : Type} {R : α → β → Prop} {as : List α} {bs : List β} (x : All2 R as bs) : ∀ n, All2 R (as.drop n) (bs.drop n) := by
  induction x with
  | nil => intro n; simp; exact .nil
  | cons r y ih => intro n; cases n with
    | zero => exact .cons r y
    | succ n => exact ih n
theorem All2.reverse {α β : Type} {R : α → β → Prop} {as : List α} {bs : List β} (x : All2 R as bs) : All2 R as.reverse bs.reverse := by
  induction x with
  | nil => exact .nil
  | cons r _ ih => simp only [List.reverse_cons]; exact ih.append (.cons r .nil)

structure Rh where
  a : List Addr
  t : Nat
noncomputable def Rh.add (ρ : Rh) (x : Addr) : Rh := ⟨ρ.a ++ [x], ρ.t⟩
noncomputable def RepA (ρ : Rh) (v : Value) : PV → Prop
  | .none => v = .none
  | .bool b => v = .bool b
  | .int i => ∃ t, v = .int i t
  | .str s => ∃ t, v = .str s t
  | .lit s => ∃ t, v = .str s t ∧ 0 < t ∧ t < ρ.t
  | .typ n => v = .type n
  | .bi n => v = .builtin n
  | .glob a => v = .ref a
  | .ref i => ∃ a, v = .ref a ∧ ρ.a[i]? = some a
  | .tup _ => False
noncomputable def RepV (h : Heap) (ρ : Rh) (v : Value) : PV → Prop
  | .tup l => ∃ a vs, v = .ref a ∧ IsTup h a vs.toArray ∧ All2 (RepA ρ) vs l
  | p => RepA ρ v p

structure DctOk (W : Wd) (a : Addr) (es : Array DictEntry) (n : Nat) (fs : List (String × PV)) : Prop where
  n : n = fs.length
  sz : es.size = fs.length
  na : a ≠ sysModules
  hash : ∀ e ∈ es, ∃ x t, e.key = .str x t ∧ e.hash = hashStr W.w x
noncomputable def RepO (W : Wd) (h : Heap) (ρ : Rh) (a : Addr) : PO → Prop
  | .list l => ∃ vs n, h.get? a = some ⟨.type "list", none, .seq (List.toArray vs) n, #[]⟩ ∧ All2 (RepV h ρ) vs l
  | .dct fs => ∃ es n m, h.get? a = some ⟨.type "dict", none, .dict es n, #[]⟩ ∧ h.Ns a m ∧ (∀ x : String, (∀ p, fs.lookup x = some p → ∃ v, m (Str.ofString x) = some v ∧ RepV h ρ v p) ∧ (fs.lookup x = none → m (Str.ofString x) = none)) ∧ DctOk W a es n fs
  | .inst k => ∃ d, ρ.a[k]? = some d ∧ h.get? a = some ⟨.ref W.C, some d, .plain, #[]⟩

structure Stb (h : Heap) (ρ : Rh) (h' : Heap) (ρ' : Rh) : Prop where
  pre : ∀ (i : Nat) (a : Addr), ρ.a[i]? = some a → ρ'.a[i]? = some a
  tup : ∀ a its, IsTup h a its → IsTup h' a its
  t : ρ.t ≤ ρ'.t
theorem Stb.refl {h : Heap} {ρ : Rh} : Stb h ρ h ρ := ⟨fun _ _ e => e, fun _ _ e => e, Nat.le_refl _⟩
theorem Stb.trans {h h' h'' : Heap} {ρ ρ' ρ'' : Rh} (x : Stb h ρ h' ρ') (y : Stb h' ρ' h'' ρ'') : Stb h ρ h'' ρ'' :=
  ⟨fun i a e => y.pre i a (x.pre i a e), fun a its e => y.tup a its (x.tup a its e), Nat.le_trans x.t y.t⟩
theorem RepA.stb {ρ ρ' : Rh} (x : ∀ (i : Nat) (a : Addr), ρ.a[i]? = some a → ρ'.a[i]? = some a) (tt : ρ.t ≤ ρ'.t) {v : Value} {p : PV} (r : RepA ρ v p) : RepA ρ' v p := by
  cases p with
  | ref i => obtain ⟨a, e, q⟩ := r; exact ⟨a, e, x i a q⟩
  | lit s => obtain ⟨t, e, h1, h2⟩ := r; exact ⟨t, e, h1, Nat.lt_of_lt_of_le h2 tt⟩
  | _ => exact r
theorem RepV.stb {h h' : Heap} {ρ ρ' : Rh} (x : Stb h ρ h' ρ') {v : Value} {p : PV} (r : RepV h ρ v p) : RepV h' ρ' v p := by
  cases p with
  | tup l => obtain ⟨a, vs, e, q, z⟩ := r; exact ⟨a, vs, e, x.tup _ _ q, z.mono fun _ _ y => RepA.stb x.pre x.t y⟩
  | ref i => exact RepA.stb x.pre x.t (p := .ref i) r
  | lit s => exact RepA.stb x.pre x.t (p := .lit s) r
  | _ => exact r

noncomputable def lset (n : String) (v : PV) : List (String × PV) → List (String × PV)
  | [] => [(n, v)]
  | (m, w) :: r => if m = n then (n, v) :: r else (m, w) :: lset n v r
theorem lset_lookup (n : String) (v : PV) : ∀ (l : List (String × PV)) (x : String), (lset n v l).lookup x = if x = n then some v else l.lookup x
  | [], x => by
    simp only [lset, List.lookup_cons, List.lookup_nil]
    by_cases h : x = n
    · subst h; simp
    · have : (x == n) = false := by simpa using h
      simp [this, h]
  | (m, w) :: r, x => by
    unfold lset
    by_cases hm : m = n
    · subst hm
      simp only [if_true, List.lookup_cons]
      by_cases h : x = m
      · subst h; simp
      · have : (x == m) = false := by simpa using h
        simp [this, h]
    · simp only [hm, if_false, List.lookup_cons, lset_lookup n v r x]
      by_cases h : x = n
      · subst h
        have : (x == m) = false := by simpa using fun e : x = m => hm e.symm
        simp [this]
      · simp [h]

noncomputable def fp (env : Env) : List Addr := env.locals :: env.cells.map (·.2)

noncomputable def NameAt (env : Env) (h : Heap) (m : Str → Option Value) (x : Str) (v : Value) : Prop :=
  (env.kindOf x = some .local ∧ m x = some v) ∨ ((env.kindOf x = some .cell ∨ env.kindOf x = some .free) ∧ ∃ c, env.cells.lookup x = some c ∧ h.IsCell c (some v))

structure Cells (W : Wd) (h : Heap) (ρ : Rh) (H : List PO) : Prop where
  base : ∀ b o, W.h₀.get? b = some o → h.get? b = some o
  len : ρ.a.length = H.length
  cell : ∀ (i : Nat) (a : Addr) (o : PO), ρ.a[i]? = some a → H[i]? = some o → RepO W h ρ a o
  nd : ∀ (i j : Nat) (a : Addr), ρ.a[i]? = some a → ρ.a[j]? = some a → i = j
  new : ∀ a ∈ ρ.a, W.h₀.get? a = none

structure EOk (env : Env) : Prop where
  kind : env.scope.kind = .function
  glob : env.globals = mainGlobals
  blt : env.builtins = builtinsNs

structure Rel (W : Wd) (env : Env) (h : Heap) (ρ : Rh) (σ : PS) : Prop where
  eok : EOk env
  cells : Cells W h ρ σ.H
  lk : ∃ m, h.Ns env.locals m ∧ ∀ n p, σ.loc.lookup n = some p → ∃ v, RepV h ρ v p ∧ NameAt env h m (Str.ofString n) v
  fpn : ∀ a ∈ fp env, W.h₀.get? a = none ∧ a ∉ ρ.a
  fpd : ∀ x ∈ env.cells, x.2 ≠ env.locals
  apart : env.cells.Pairwise fun x y => x.2 ≠ y.2
  isc : ∀ x ∈ env.cells, ∃ v, h.IsCell x.2 v

structure Ext (W : Wd) (X : List Addr) (h : Heap) (ρ : Rh) (h' : Heap) (ρ' : Rh) : Prop where
  pre : ∀ (i : Nat) (a : Addr), ρ.a[i]? = some a → ρ'.a[i]? = some a
  new : ∀ a ∈ ρ'.a, a ∈ ρ.a ∨ h.get? a = none
  there : ∀ b o, h.get? b = some o → ∃ o', h'.get? b = some o'
  kept : ∀ b o, h.get? b = some o → b ∉ ρ.a → b ∉ X → ∃ sl, h'.get? b = some { o with slots := sl } ∧ ((∃ vs, o.data = .fields vs) → sl = o.slots)
  t : ρ.t ≤ ρ'.t
theorem Ext.keep {W : Wd} {X : List Addr} {h h' : Heap} {ρ ρ' : Rh} (x : Ext W X h ρ h' ρ') : ∀ b o, h.get? b = some o → b ∉ ρ.a → b ∉ X → ∃ sl, h'.get? b = some { o with slots := sl } := fun b o e n1 n2 => by
  obtain ⟨sl, e1, _⟩ := x.kept b o e n1 n2; exact ⟨sl, e1⟩
theorem Ext.fields {W : Wd} {X : List Addr} {h h' : Heap} {ρ ρ' : Rh} (x : Ext W X h ρ h' ρ') {b : Addr} {o : Obj} {vs : Array Value} (e : h.get? b = some o) (d : o.data = .fields vs) (n1 : b ∉ ρ.a) (n2 : b ∉ X) : h'.get? b = some o := by
  obtain ⟨sl, e1, e2⟩ := x.kept b o e n1 n2; rw [e1, e2 ⟨vs, d⟩]
theorem Ext.refl {W : Wd} {X : List Addr} {h : Heap} {ρ : Rh} : Ext W X h ρ h ρ := ⟨fun _ _ e => e, fun _ e => .inl e, fun _ o e => ⟨o, e⟩, fun _ o e _ _ => ⟨o.slots, e, fun _ => rfl⟩, Nat.le_refl _⟩
theorem Ext.trans {W : Wd} {X : List Addr} {h h' h'' : Heap} {ρ ρ' ρ'' : Rh} (x : Ext W X h ρ h' ρ') (y : Ext W X h' ρ' h'' ρ'') : Ext W X h ρ h'' ρ'' := by
  refine ⟨fun i a e => y.pre i a (x.pre i a e), fun a e => ?_, fun b o e => ?_, fun b o e n1 n2 => ?_, Nat.le_trans x.t y.t⟩
  · rcases y.new a e with e | e
    · exact x.new a e
    · cases q : h.get? a with
      | none => exact .inr rfl
      | some o => obtain ⟨o', z⟩ := x.there a o q; rw [z] at e; cases e
  · obtain ⟨o', e'⟩ := x.there b o e; exact y.there b o' e'
  · obtain ⟨sl, e', f'⟩ := x.kept b o e n1 n2
    have n3 : b ∉ ρ'.a := fun q => by
      rcases x.new b q with q | q
      · exact n1 q
      · rw [e] at q; cases q
    obtain ⟨sl', e'', f''⟩ := y.kept b _ e' n3 n2
    exact ⟨sl', e'', fun z => (f'' z).trans (f' z)⟩
theorem Ext.mono {W : Wd} {X Y : List Addr} {h h' : Heap} {ρ ρ' : Rh} (x : Ext W X h ρ h' ρ') (s : ∀ a ∈ X, a ∈ Y ∨ h.get? a = none) : Ext W Y h ρ h' ρ' :=
  ⟨x.pre, x.new, x.there, fun b o e n1 n2 => x.kept b o e n1 fun q => (by
    rcases s b q with q | q
    · exact n2 q
    · rw [e] at q; cases q), x.t⟩
structure Ext0 (W : Wd) (X : List Addr) (h : Heap) (ρ : Rh) (h' : Heap) (ρ' : Rh) : Prop extends Ext W X h ρ h' ρ' where
  teq : ρ'.t = ρ.t
theorem Ext0.refl {W : Wd} {X : List Addr} {h : Heap} {ρ : Rh} : Ext0 W X h ρ h ρ := ⟨Ext.refl, rfl⟩
theorem Ext0.trans {W : Wd} {X : List Addr} {h h' h'' : Heap} {ρ ρ' ρ'' : Rh} (x : Ext0 W X h ρ h' ρ') (y : Ext0 W X h' ρ' h'' ρ'') : Ext0 W X h ρ h'' ρ'' := ⟨x.toExt.trans y.toExt, y.teq.trans x.teq⟩
theorem mem_get {α : Type} {l : List α} {a : α} (h : a ∈ l) : ∃ i : Nat, l[i]? = some a := by
  obtain ⟨i, hi, e⟩ := List.mem_iff_getElem.mp h
  exact ⟨i, by rw [List.getElem?_eq_getElem hi, e]⟩
theorem get_mem {α : Type} {l : List α} {a : α} {i : Nat} (h : l[i]? = some a) : a ∈ l := List.mem_of_getElem? h

theorem RepO.noTup {W : Wd} {h : Heap} {ρ : Rh} {a : Addr} {o : PO} (r : RepO W h ρ a o) {its : Array Value} (t : IsTup h a its) : False := by
  obtain ⟨o', e, c, n, d⟩ := t
  cases o with
  | list l => obtain ⟨vs, n, q, _⟩ := r; rw [q] at e; cases e; exact absurd (Value.type.inj c) (by decide)
  | dct fs => obtain ⟨es, n, m, q, _⟩ := r; rw [q] at e; cases e; exact absurd (Value.type.inj c) (by decide)
  | inst k => obtain ⟨d, _, q⟩ := r; rw [q] at e; cases e; cases c
theorem Cells.get {W : Wd} {h : Heap} {ρ : Rh} {H : List PO} (c : Cells W h ρ H) {a : Addr} (m : a ∈ ρ.a) : ∃ (i : Nat) (o : PO), ρ.a[i]? = some a ∧ H[i]? = some o ∧ RepO W h ρ a o := by
  obtain ⟨i, e⟩ := mem_get m
  have hi : i < H.length := by
    have : i < ρ.a.length := by
      rcases Nat.lt_or_ge i ρ.a.length with q | q
      · exact q
      · rw [List.getElem?_eq_none q] at e; cases e
    rw [c.len] at this; exact this
  exact ⟨i, H[i], e, List.getElem?_eq_getElem hi, c.cell i a _ e (List.getElem?_eq_getElem hi)⟩
theorem Cells.at {W : Wd} {h : Heap} {ρ : Rh} {H : List PO} (c : Cells W h ρ H) {i : Nat} {o : PO} (e : H[i]? = some o) : ∃ a, ρ.a[i]? = some a ∧ RepO W h ρ a o := by
  have hi : i < ρ.a.length := by
    rw [c.len]
    rcases Nat.lt_or_ge i H.length with q | q
    · exact q
    · rw [List.getElem?_eq_none q] at e; cases e
  exact ⟨ρ.a[i], List.getElem?_eq_getElem hi, c.cell i _ o (List.getElem?_eq_getElem hi) e⟩
theorem IsTup.slots {h h' : Heap} {a : Addr} {its : Array Value} (t : IsTup h a its) (k : ∀ o, h.get? a = some o → ∃ sl, h'.get? a = some { o with slots := sl }) : IsTup h' a its := by
  obtain ⟨o, e, c, n, d⟩ := t
  obtain ⟨sl, e'⟩ := k o e
  exact ⟨_, e', c, n, d⟩
theorem Rel.stb {W : Wd} {env : Env} {h h' : Heap} {ρ ρ' : Rh} {σ : PS} (R : Rel W env h ρ σ) (x : Ext W (fp env) h ρ h' ρ') : Stb h ρ h' ρ' := by
  refine ⟨x.pre, fun a its t => IsTup.slots t fun o e => x.keep a o e (fun q => ?_) fun q => ?_, x.t⟩
  · obtain ⟨_, _, _, _, r⟩ := R.cells.get q; exact r.noTup t
  · obtain ⟨o', e', c, n, d⟩ := t
    rw [e] at e'; cases e'
    rcases List.mem_cons.mp q with rfl | q
    · obtain ⟨m, ⟨o', es, ep, e', d', _⟩, _⟩ := R.lk
      rw [e] at e'; cases e'; rw [d] at d'; cases d'
    · obtain ⟨y, hy, rfl⟩ := List.mem_map.mp q
      obtain ⟨v, o', e', d'⟩ := R.isc y hy
      rw [e] at e'; cases e'; rw [d] at d'; cases d'
theorem Cells.stb {W : Wd} {h h' : Heap} {ρ ρ' : Rh} {H : List PO} (R : Cells W h ρ H) (x : Ext W [] h ρ h' ρ') : Stb h ρ h' ρ' := by
  refine ⟨x.pre, fun a its t => IsTup.slots t fun o e => x.keep a o e (fun q => ?_) (by simp), x.t⟩
  obtain ⟨_, _, _, _, r⟩ := R.get q; exact r.noTup t
end

section
open PySem PySem.W PyProof.Rows
set_option autoImplicit false
set_option linter.unusedVariables false
set_option tactic.hygienic false
structure RR (α β : Type) where
  rel : Heap → Rh → α → β → Prop
  stb : ∀ {h h' : Heap} {ρ ρ' : Rh} {a : α} {b : β}, Stb h ρ h' ρ' → rel h ρ a b → rel h' ρ' a b
structure GG where
  P : Heap → Rh → Prop
  stb : ∀ {h h' : Heap} {ρ ρ' : Rh}, Stb h ρ h' ρ' → P h ρ → P h' ρ'
noncomputable def GG.add {α β : Type} (G : GG) (R : RR α β) (a : α) (b : β) : GG := ⟨fun h ρ => G.P h ρ ∧ R.rel h ρ a b, fun x y => ⟨G.stb x y.1, R.stb x y.2⟩⟩
noncomputable def GG.tt : GG := ⟨fun _ _ => True, fun _ _ => trivial⟩

inductive PF where
  | next | brk | cont
  | ret (v : PV)
noncomputable def RepF (h : Heap) (ρ : Rh) : Flow → PF → Prop
  | .next, .next => True
  | .brk, .brk => True
  | .cont, .cont => True
  | .ret v, .ret p => RepV h ρ v p
  | _, _ => False
theorem RepF.stb {h h' : Heap} {ρ ρ' : Rh} {f : Flow} {p : PF} (x : Stb h ρ h' ρ') (r : RepF h ρ f p) : RepF h' ρ' f p := by
  cases f <;> cases p <;> first | exact r | exact RepV.stb x r
noncomputable def rrV : RR Value PV := ⟨RepV, fun x r => RepV.stb x r⟩
noncomputable def rrU : RR Unit Unit := ⟨fun _ _ _ _ => True, fun _ _ => trivial⟩
noncomputable def rrB : RR Bool Bool := ⟨fun _ _ a b => a = b, fun _ r => r⟩
noncomputable def rrL : RR (List Value) (List PV) := ⟨fun h ρ => All2 (RepV h ρ), fun x r => r.mono fun _ _ y => RepV.stb x y⟩
noncomputable def rrF : RR Flow PF := ⟨RepF, fun x r => RepF.stb x r⟩
structure FrOk (W : Wd) (h : Heap) (ρ : Rh) (l : List Env) : Prop where
  ff : h.FunFrames W.h₀ l
  out : ∀ L ∈ l.filterMap (·.frame), L ∉ ρ.a
theorem FrOk.more {W : Wd} {h h' : Heap} {ρ ρ' : Rh} {l : List Env} (x : FrOk W h ρ l) (y : h'.FunFrames W.h₀ l) (n : ∀ a ∈ ρ'.a, a ∈ ρ.a ∨ h.get? a = none) : FrOk W h' ρ' l :=
  ⟨y, fun L m q => by
    rcases n L q with q | q
    · exact x.out L m q
    · obtain ⟨_, o, ho, _⟩ := x.ff.mem m; rw [ho] at q; cases q⟩
structure AOk (W : Wd) (d : Nat) (A : Around) (s : Shared) (ρ : Rh) : Prop where
  depth : A.depth + 2 * d + 2 < recursionLimit
  units : A.units + 100 * d + 100 < cLine
  handled : A.handled = none
  fr : ∃ l, A.frames = some l ∧ FrOk W s.heap ρ l
  tok : ρ.t ≤ s.toks
  pos : 0 < s.toks

structure ExcAt (W : Wd) (hs h : Heap) (x : Value) : Prop where
  ex : ∃ e oe vs, x = .ref e ∧ hs.get? e = none ∧ h.get? e = some oe ∧ oe.cls = .type "ValueError" ∧ oe.data = .fields vs ∧
    (vs[1]? = some .none ∨ ∃ T oT ts, vs[1]? = some (.ref T) ∧ hs.get? T = none ∧ T ≠ e ∧ h.get? T = some oT ∧ oT.data = .fields ts ∧ ts[3]? = some .none)

noncomputable def Post (W : Wd) (env : Env) {α β : Type} (R : RR α β) (s : Shared) (ρ : Rh) (Q : α → Shared → Prop) (E : Value → Shared → Prop) : Option (Res β × PS) → Prop
  | none => False
  | some (.ok b, σ') => ∀ a h' ρ' tk, Rel W env h' ρ' σ' → Ext W (fp env) s.heap ρ h' ρ' → (ρ'.t ≤ tk ∧ 0 < tk) → R.rel h' ρ' a b → Q a { s with heap := h', toks := tk }
  | some (.exc, σ') => ∀ x h' ρ' tk, Rel W env h' ρ' σ' → Ext W (fp env) s.heap ρ h' ρ' → (ρ'.t ≤ tk ∧ 0 < tk) → ExcAt W s.heap h' x → E x { s with heap := h', toks := tk }
noncomputable def Post0 (W : Wd) (env : Env) {α β : Type} (R : RR α β) (s : Shared) (ρ : Rh) (Q : α → Shared → Prop) (E : Value → Shared → Prop) : Option (Res β × PS) → Prop
  | none => False
  | some (.ok b, σ') => ∀ a h' ρ' tk, Rel W env h' ρ' σ' → Ext0 W (fp env) s.heap ρ h' ρ' → R.rel h' ρ' a b → Q a { s with heap := h', toks := tk }
  | some (.exc, σ') => ∀ x h' ρ' tk, Rel W env h' ρ' σ' → Ext0 W (fp env) s.heap ρ h' ρ' → ExcAt W s.heap h' x → E x { s with heap := h', toks := tk }

noncomputable def Sim (W : Wd) (d : Nat) (env : Env) {α β : Type} (R : RR α β) (G : GG) (t : Sem α) (p : PM β) : Prop :=
  ∀ (A : Around) (s : Shared) (ρ : Rh) (σ : PS) (Q : α → Shared → Prop) (E : Value → Shared → Prop),
    AOk W d A s ρ → Rel W env s.heap ρ σ → G.P s.heap ρ → Post W env R s ρ Q E (p σ) → wpAny (model W.prog W.w) A t Q E s
noncomputable def Sim0 (W : Wd) (d : Nat) (env : Env) {α β : Type} (R : RR α β) (G : GG) (t : Sem α) (p : PM β) : Prop :=
  ∀ (A : Around) (s : Shared) (ρ : Rh) (σ : PS) (Q : α → Shared → Prop) (E : Value → Shared → Prop),
    AOk W d A s ρ → Rel W env s.heap ρ σ → G.P s.heap ρ → Post0 W env R s ρ Q E (p σ) → wpAny (model W.prog W.w) A t Q E s
theorem Sim.of0 {W : Wd} {d : Nat} {env : Env} {α β : Type} {R : RR α β} {G : GG} {t : Sem α} {p : PM β} (h : Sim0 W d env R G t p) : Sim W d env R G t p := by
  intro A s ρ σ Q E ha hr hg hp
  refine wpAny_with_toks (Nat.le_refl _) (h A s ρ σ _ _ ha hr hg ?_)
  match p σ, hp with
  | some (.ok b, σ₁), hp => exact fun a h' ρ' tk r1 e1 q htk => hp a h' ρ' tk r1 e1.toExt ⟨by rw [e1.teq]; exact Nat.le_trans ha.tok htk, Nat.lt_of_lt_of_le ha.pos htk⟩ q
  | some (.exc, σ₁), hp => exact fun a h' ρ' tk r1 e1 q htk => hp a h' ρ' tk r1 e1.toExt ⟨by rw [e1.teq]; exact Nat.le_trans ha.tok htk, Nat.lt_of_lt_of_le ha.pos htk⟩ q

section
variable {W : Wd} {d : Nat} {env : Env}

theorem ExcAt.back {hs h1 h : Heap} {x : Value} (k : ∀ b o, hs.get? b = some o → ∃ o', h1.get? b = some o') (e : ExcAt W h1 h x) : ExcAt W hs h x := by
  have q : ∀ a, h1.get? a = none → hs.get? a = none := fun a z => by
    cases y : hs.get? a with
    | none => rfl
    | some o => obtain ⟨o', z'⟩ := k a o y; rw [z'] at z; cases z
  obtain ⟨e, oe, vs, a1, a2, a3, a4, a5, a6⟩ := e.ex
  refine ⟨e, oe, vs, a1, q _ a2, a3, a4, a5, ?_⟩
  rcases a6 with a6 | ⟨T, oT, ts, b1, b2, b3⟩
  · exact .inl a6
  · exact .inr ⟨T, oT, ts, b1, q _ b2, b3⟩

theorem FunFrames_ext {h h' : Heap} {X : List Addr} {ρ ρ' : Rh} (x : Ext W X h ρ h' ρ') (hx : ∀ a ∈ X, ∀ o, h.get? a = some o → (∀ vs, o.data ≠ .fields vs) → ∃ o', h'.get? a = some o' ∧ (∀ vs, o'.data ≠ .fields vs))
    (hr : ∀ a ∈ ρ.a, ∀ o, h'.get? a = some o → (∀ vs, o.data ≠ .fields vs)) : ∀ {l : List Env}, h.FunFrames W.h₀ l → h'.FunFrames W.h₀ l
  | [], _ => trivial
  | env :: rest, ⟨hk, ⟨L, o, hf, hn, ho, hd⟩, hrest⟩ => by
    refine ⟨hk, ?_, FunFrames_ext x hx hr hrest⟩
    by_cases m1 : L ∈ ρ.a
    · obtain ⟨o', e⟩ := x.there L o ho
      exact ⟨L, o', hf, hn, e, hr L m1 o' e⟩
    · by_cases m2 : L ∈ X
      · obtain ⟨o', e, q⟩ := hx L m2 o ho hd
        exact ⟨L, o', hf, hn, e, q⟩
      · obtain ⟨sl, e⟩ := x.keep L o ho m1 m2
        exact ⟨L, _, hf, hn, e, hd⟩

theorem RepO.noFields {h : Heap} {ρ : Rh} {a : Addr} {o : PO} (r : RepO W h ρ a o) {o' : Obj} (e : h.get? a = some o') (vs : Array Value) : o'.data ≠ .fields vs := by
  cases o with
  | list l => obtain ⟨vs, n, q, _⟩ := r; rw [q] at e; cases e; intro z; cases z
  | dct fs => obtain ⟨es, n, m, q, _⟩ := r; rw [q] at e; cases e; intro z; cases z
  | inst k => obtain ⟨d, _, q⟩ := r; rw [q] at e; cases e; intro z; cases z

theorem AOk.ext {A : Around} {s : Shared} {h' : Heap} {ρ ρ' : Rh} {σ' : PS} {tk : Nat} (x : AOk W d A s ρ) (R : Rel W env h' ρ' σ') (e : Ext W (fp env) s.heap ρ h' ρ') (l : ρ'.t ≤ tk ∧ 0 < tk) : AOk W d A { s with heap := h', toks := tk } ρ' := by
  refine ⟨x.depth, x.units, x.handled, ?_, l.1, l.2⟩
  obtain ⟨l, h1, h2⟩ := x.fr
  refine ⟨l, h1, h2.more (FunFrames_ext e (fun a m o ho _ => ?_) (fun a m o ho => ?_) h2.ff) e.new⟩
  · rcases List.mem_cons.mp m with rfl | m
    · obtain ⟨m, ⟨o', es, ep, e', d', _⟩, _⟩ := R.lk
      exact ⟨o', e', fun vs z => by rw [d'] at z; cases z⟩
    · obtain ⟨y, hy, rfl⟩ := List.mem_map.mp m
      obtain ⟨v, o', e', d'⟩ := R.isc y hy
      exact ⟨o', e', fun vs z => by rw [d'] at z; cases z⟩
  · obtain ⟨i, ei⟩ := mem_get m
    obtain ⟨_, _, _, _, r⟩ := R.cells.get (get_mem (e.pre i a ei))
    exact fun vs => r.noFields ho vs

theorem Post.trans {α β : Type} {R : RR α β} {s s₁ : Shared} {ρ ρ₁ : Rh} {Q : α → Shared → Prop} {E : Value → Shared → Prop} {r : Option (Res β × PS)}
    (hs : s₁ = { s with heap := s₁.heap, toks := s₁.toks }) (x : Ext W (fp env) s.heap ρ s₁.heap ρ₁) (h : Post W env R s ρ Q E r) : Post W env R s₁ ρ₁ Q E r := by
  match r, h with
  | some (.ok b, σ'), h =>
    intro a h' ρ' tk r1 e1 l q
    have z := h a h' ρ' tk r1 (x.trans e1) l q
    rw [hs]; exact z
  | some (.exc, σ'), h =>
    intro y h' ρ' tk r1 e1 l q
    have z := h y h' ρ' tk r1 (x.trans e1) l (q.back x.there)
    rw [hs]; exact z
theorem Post0.trans {α β : Type} {R : RR α β} {s s₁ : Shared} {ρ ρ₁ : Rh} {Q : α → Shared → Prop} {E : Value → Shared → Prop} {r : Option (Res β × PS)}
    (hs : s₁ = { s with heap := s₁.heap, toks := s₁.toks }) (x : Ext0 W (fp env) s.heap ρ s₁.heap ρ₁) (h : Post0 W env R s ρ Q E r) : Post0 W env R s₁ ρ₁ Q E r := by
  match r, h with
  | some (.ok b, σ'), h =>
    intro a h' ρ' tk r1 e1 q
    have z := h a h' ρ' tk r1 (x.trans e1) q
    rw [hs]; exact z
  | some (.exc, σ'), h =>
    intro y h' ρ' tk r1 e1 q
    have z := h y h' ρ' tk r1 (x.trans e1) (q.back x.there)
    rw [hs]; exact z

theorem Sim.bind {α β γ δ : Type} {R : RR α β} {R' : RR γ δ} {G : GG} {t : Sem α} {p : PM β} {f : α → Sem γ} {q : β → PM δ}
    (h1 : Sim W d env R G t p) (h2 : ∀ a b, Sim W d env R' (G.add R a b) (f a) (q b)) : Sim W d env R' G (t >>= f) (PM.bind p q) := by
  intro A s ρ σ Q E ha hr hg hp
  refine wpAny_bind (h1 A s ρ σ _ _ ha hr hg ?_)
  unfold PM.bind at hp
  match hq : p σ, hp with
  | some (.ok b, σ₁), hp =>
    intro a h₁ ρ₁ tk r1 e1 l r
    exact h2 a b A _ ρ₁ σ₁ Q E (ha.ext r1 e1 l) r1 ⟨G.stb (hr.stb e1) hg, r⟩ (hp.trans rfl e1)
  | some (.exc, σ₁), hp => exact hp
theorem Sim.pure {α β : Type} {R : RR α β} {G : GG} {a : α} {b : β} (h : ∀ h ρ, G.P h ρ → R.rel h ρ a b) : Sim W d env R G (pure a) (PM.pure b) := by
  apply Sim.of0
  intro A s ρ σ Q E ha hr hg hp
  exact wpAny_pure (hp a s.heap ρ s.toks hr .refl (h _ _ hg))
theorem Sim.mono {α β : Type} {R R' : RR α β} {G : GG} {t : Sem α} {p : PM β} (h : Sim W d env R G t p) (k : ∀ h ρ a b, R.rel h ρ a b → R'.rel h ρ a b) : Sim W d env R' G t p := by
  intro A s ρ σ Q E ha hr hg hp
  refine h A s ρ σ Q E ha hr hg ?_
  match p σ, hp with
  | some (.ok b, σ₁), hp => exact fun a h' ρ' tk r1 e1 l q => hp a h' ρ' tk r1 e1 l (k _ _ _ _ q)
  | some (.exc, σ₁), hp => exact hp
theorem Sim.holding {α β : Type} {R : RR α β} {G : GG} {t : Sem α} {p : PM β} {vs : List Value} (h : Sim W d env R G t p) : Sim W d env R G (holding vs t) p :=
  fun A s ρ σ Q E ha hr hg hp => wpAny_holding (h A s ρ σ Q E ha hr hg hp)
theorem Sim.seq {α β γ : Type} {R : RR α β} {G : GG} {t : Sem γ} {f : γ → Sem α} {p : PM β} (u : ∀ A s (Q : γ → Shared → Prop) E, (∀ a, Q a s) → wpAny (model W.prog W.w) A t Q E s) (h : ∀ a, Sim W d env R G (f a) p) : Sim W d env R G (t >>= f) p :=
  fun A s ρ σ Q E ha hr hg hp => wpAny_bind (u _ _ _ _ fun a => h a A s ρ σ Q E ha hr hg hp)
theorem Sim.stand {α β : Type} {R : RR α β} {G : GG} {pos : Pos} {f : Unit → Sem α} {p : PM β} (h : Sim W d env R G (f ()) p) : Sim W d env R G (standAt pos >>= f) p :=
  Sim.seq (fun _ _ _ _ h => wpAny_standAt (h ())) fun _ => h
theorem Sim.rule {α β : Type} {R : RR α β} {G : GG} {n : String} {f : Unit → Sem α} {p : PM β} (h : Sim W d env R G (f ()) p) : Sim W d env R G (PySem.rule n >>= f) p :=
  Sim.seq (fun _ _ _ _ h => wpAny_rule (h ())) fun _ => h
theorem Sim.eq {α β : Type} {R : RR α β} {G : GG} {t t' : Sem α} {p p' : PM β} (h : Sim W d env R G t' p') (e : t = t') (e' : p = p') : Sim W d env R G t p := by
  subst e e'; exact h
theorem Sim.under {α β : Type} {R : RR α β} {G : GG} {t : Sem α} {p : PM β} (h : (∃ h ρ, G.P h ρ) → Sim W d env R G t p) : Sim W d env R G t p :=
  fun A s ρ σ Q E ha hr hg hp => h ⟨_, _, hg⟩ A s ρ σ Q E ha hr hg hp
theorem wp_release {M : Model} {A : Around} {vs ks : List Value} {Q : Unit → Shared → Prop} {E : Value → Shared → Prop} {s : Shared} (h : Q () s) : wpAny M A (release vs ks) Q E s := by
  unfold release
  generalize vs.filter _ = l
  induction l with
  | nil => exact wpAny_pure h
  | cons a l ih =>
    cases l with
    | nil => exact wpAny_pure h
    | cons b l => exact wpAny_bind (wpAny_holding (wpAny_point ih))
theorem Sim.release {α β : Type} {R : RR α β} {G : GG} {vs ks : List Value} {f : Unit → Sem α} {p : PM β} (h : Sim W d env R G (f ()) p) : Sim W d env R G (PySem.release vs ks >>= f) p :=
  Sim.seq (fun _ _ _ _ h => wp_release (h ())) fun _ => h
theorem Sim.operate {G : GG} {t : Sem Value} {p : PM PV} {vs : List Value} (h : Sim W d env rrV G t p) : Sim W d env rrV G (operate vs t) p := by
  intro A s ρ σ Q E ha hr hg hp
  unfold PySem.operate
  refine wpAny_bind (wpAny_holding (h A s ρ σ _ _ ha hr hg ?_))
  match p σ, hp with
  | some (.ok b, σ₁), hp => exact fun a h' ρ' tk r1 e1 l q => wpAny_bind (wp_release (wpAny_pure (hp a h' ρ' tk r1 e1 l q)))
  | some (.exc, σ₁), hp => exact hp
end
end

section
open PySem PySem.W PyProof.Rows
set_option autoImplicit false
set_option linter.unusedVariables false
set_option tactic.hygienic false
section
variable {W : Wd} {d : Nat} {env : Env} {G : GG}

theorem Rel.base {h : Heap} {ρ : Rh} {σ : PS} (R : Rel W env h ρ σ) : ∀ b o, W.h₀.get? b = some o → h.get? b = some o := R.cells.base

noncomputable def pget (n : String) : PM PV := fun σ => match σ.loc.lookup n with
  | some v => some (.ok v, σ)
  | none => none
theorem s_name {n : String} {pos : Pos} (hd : (Str.ofString n == ("__debug__" : Str)) = false := by decide) (hc : (Str.ofString n == ("__classdict__" : Str)) = false := by decide) :
    Sim W d env rrV G (eval (.Name (Str.ofString n) pos) env) (pget n) := by
  refine Sim.of0 ?_
  intro A s ρ σ Q E ha hr hg hp
  unfold pget at hp
  match hq : σ.loc.lookup n, hp with
  | some v, hp =>
    obtain ⟨m, hn, hl⟩ := hr.lk
    obtain ⟨x, rx, na⟩ := hl n v hq
    refine wpAny_Name ?_ hd
    have z := hp x s.heap ρ s.toks hr .refl rx
    rcases na with ⟨k, e⟩ | ⟨k | k, c, e1, e2⟩
    · exact wpAny_loadName_local hr.eok.kind k hn e z
    · exact wpAny_loadName_cell hr.eok.kind k e1 e2 z
    · exact wpAny_loadName_free hr.eok.kind k e1 e2 z hc

theorem s_gname {x : Str} {pos : Pos} {v : Value} {p : PV} (hx : env.kindOf x = some .globalImplicit) (e : nsIn W.K mainGlobals x = some (some v)) (r : ∀ h ρ, RepV h ρ v p)
    (hd : (x == ("__debug__" : Str)) = false := by decide) : Sim W d env rrV G (eval (.Name x pos) env) (PM.pure p) := by
  refine Sim.of0 ?_
  intro A s ρ σ Q E ha hr hg hp
  refine Calls.Name_function_global hr.eok.kind hx (Calls.loadGlobal_global (mg := W.mg) ?_ (mg_of W.X W.g e) (hp v s.heap ρ s.toks hr .refl (r _ _))) hd
  rw [hr.eok.glob]; exact W.g.keeps hr.base
set_option tactic.hygienic true in
theorem mg_none {K : Frag} {h : Heap} {mg : Str → Option Value} {n : Str} (X : K.In h) (G : h.Ns mainGlobals mg) (e : nsIn K mainGlobals n = some none) : mg n = none := by
  obtain ⟨o, es, ep, ho, hd, _, hf⟩ := G
  unfold nsIn at e
  split at e
  · rename_i c d es' n' sl q
    have h1 := X _ _ q
    rw [h1] at ho; cases ho; cases hd
    rw [← hf]
    unfold nsFind findBy
    split at e
    · cases e
    · rename_i hz
      rw [← Array.find?_toList, hz]; rfl
  · cases e
theorem s_bname {x : Str} {pos : Pos} {v : Value} {p : PV} (hx : env.kindOf x = some .globalImplicit) (e : nsIn W.K mainGlobals x = some none) (eb : bootBuiltins x = some v) (r : ∀ h ρ, RepV h ρ v p)
    (hn : x ≠ "__name__" := by decide) (hd : (x == ("__debug__" : Str)) = false := by decide) : Sim W d env rrV G (eval (.Name x pos) env) (PM.pure p) := by
  refine Sim.of0 ?_
  intro A s ρ σ Q E ha hr hg hp
  refine Calls.Name_function_global hr.eok.kind hx (Calls.loadGlobal_builtin (mg := W.mg) (mb := W.mb) ?_ (mg_none W.X W.g e) ?_ ((W.bi x hn).trans eb) (hp v s.heap ρ s.toks hr .refl (r _ _))) hd
  · rw [hr.eok.glob]; exact W.g.keeps hr.base
  · rw [hr.eok.blt]; exact W.b.keeps hr.base
theorem s_cnone {k : Nat} {pos : Pos} : Sim W d env rrV G (eval (.Constant .none k pos) env) (PM.pure .none) :=
  Sim.pure (R := rrV) fun _ _ _ => rfl
theorem s_cbool {b : Bool} {k : Nat} {pos : Pos} : Sim W d env rrV G (eval (.Constant (.bool b) k pos) env) (PM.pure (.bool b)) :=
  Sim.pure (R := rrV) fun _ _ _ => rfl
theorem s_cint {i : Int} {k : Nat} {pos : Pos} : Sim W d env rrV G (eval (.Constant (.int i) k pos) env) (PM.pure (.int i)) :=
  Sim.of0 fun A s ρ σ Q E ha hr hg hp => wpAny_mkInt (hp _ s.heap ρ _ hr .refl ⟨_, rfl⟩)
theorem s_cstr {x : Str} {k : Nat} {pos : Pos} : Sim W d env rrV G (eval (.Constant (.str x) k pos) env) (PM.pure (.str x)) :=
  Sim.of0 fun A s ρ σ Q E ha hr hg hp => wpAny_mkText (hp _ s.heap ρ _ hr .refl ⟨_, rfl⟩)

end
end

section
open PySem PySem.W PyProof.Rows
set_option autoImplicit false
set_option linter.unusedVariables false
set_option tactic.hygienic false
noncomputable def Keeps (h h' : Heap) : Prop := ∀ b o, h.get? b = some o → h'.get? b = some o
theorem Keeps.refl {h : Heap} : Keeps h h := fun _ _ e => e
theorem Keeps.trans {h h' h'' : Heap} (x : Keeps h h') (y : Keeps h' h'') : Keeps h h'' := fun b o e => y b o (x b o e)
theorem Keeps.push {h : Heap} (o : Obj) : Keeps h (h.push o) := fun _ _ e => Heap.get?_push_of_some o e
theorem Keeps.tup {h h' : Heap} (k : Keeps h h') {a : Addr} {its : Array Value} (t : IsTup h a its) : IsTup h' a its := by
  obtain ⟨o, e, r⟩ := t; exact ⟨o, k _ _ e, r⟩
structure Pre (ρ ρ' : Rh) : Prop where
  pre : ∀ (i : Nat) (a : Addr), ρ.a[i]? = some a → ρ'.a[i]? = some a
  t : ρ.t ≤ ρ'.t
theorem Pre.refl {ρ : Rh} : Pre ρ ρ := ⟨fun _ _ e => e, Nat.le_refl _⟩
theorem Keeps.stb {h h' : Heap} {ρ ρ' : Rh} (k : Keeps h h') (p : Pre ρ ρ') : Stb h ρ h' ρ' := ⟨p.pre, fun _ _ t => k.tup t, p.t⟩
theorem pre_snoc {ρ : Rh} {x : Addr} : Pre ρ (ρ.add x) := by
  refine ⟨fun i a e => ?_, Nat.le_refl _⟩
  have hi : i < ρ.a.length := by
    rcases Nat.lt_or_ge i ρ.a.length with q | q
    · exact q
    · rw [List.getElem?_eq_none q] at e; cases e
  show (ρ.a ++ [x])[i]? = some a
  rw [List.getElem?_append_left hi]; exact e
section
variable {W : Wd} {d : Nat} {env : Env}
theorem RepO.keeps {h h' : Heap} {ρ ρ' : Rh} {a : Addr} {o : PO} (k : Keeps h h') (p : Pre ρ ρ') (r : RepO W h ρ a o) : RepO W h' ρ' a o := by
  cases o with
  | list l => obtain ⟨vs, n, e, z⟩ := r; exact ⟨vs, n, k _ _ e, z.mono fun _ _ y => y.stb (k.stb p)⟩
  | dct fs =>
    obtain ⟨es, n, m, e, hn, z, sz⟩ := r
    exact ⟨es, n, m, k _ _ e, hn.keeps k, fun x => ⟨fun q y => by obtain ⟨v, e1, e2⟩ := (z x).1 q y; exact ⟨v, e1, e2.stb (k.stb p)⟩, (z x).2⟩, sz⟩
  | inst j => obtain ⟨dd, e1, e2⟩ := r; exact ⟨dd, p.pre _ _ e1, k _ _ e2⟩
theorem Cells.keeps {h h' : Heap} {ρ : Rh} {H : List PO} (c : Cells W h ρ H) (k : Keeps h h') : Cells W h' ρ H :=
  ⟨fun b o e => k _ _ (c.base b o e), c.len, fun i a o e1 e2 => (c.cell i a o e1 e2).keeps k .refl, c.nd, c.new⟩
theorem NameAt.keeps {h h' : Heap} {m : Str → Option Value} {x : Str} {v : Value} (k : Keeps h h') (n : NameAt env h m x v) : NameAt env h' m x v := by
  rcases n with n | ⟨n, c, e1, e2⟩
  · exact .inl n
  · exact .inr ⟨n, c, e1, e2.keeps k⟩
theorem Rel.keeps {h h' : Heap} {ρ : Rh} {σ : PS} (R : Rel W env h ρ σ) (k : Keeps h h') : Rel W env h' ρ σ := by
  obtain ⟨m, hn, hl⟩ := R.lk
  exact ⟨R.eok, R.cells.keeps k, ⟨m, hn.keeps k, fun n p e => by obtain ⟨v, r, na⟩ := hl n p e; exact ⟨v, r.stb (k.stb .refl), na.keeps k⟩⟩, R.fpn, R.fpd, R.apart, fun x hx => by obtain ⟨v, c⟩ := R.isc x hx; exact ⟨v, c.keeps k⟩⟩
theorem Ext0.keeps {X : List Addr} {h h' : Heap} {ρ : Rh} (k : Keeps h h') : Ext0 W X h ρ h' ρ := ⟨⟨fun _ _ e => e, fun _ e => .inl e, fun b o e => ⟨o, k _ _ e⟩, fun b o e _ _ => ⟨o.slots, k _ _ e, fun _ => rfl⟩, Nat.le_refl _⟩, rfl⟩
theorem Ext0.snoc {X : List Addr} {h h' : Heap} {ρ : Rh} {a : Addr} (k : Keeps h h') (n : h.get? a = none) : Ext0 W X h ρ h' (ρ.add a) :=
  ⟨⟨pre_snoc.pre, fun x e => (by
    rcases List.mem_append.mp e with e | e
    · exact .inl e
    · rw [List.mem_singleton.mp e]; exact .inr n), fun b o e => ⟨o, k _ _ e⟩, fun b o e _ _ => ⟨o.slots, k _ _ e, fun _ => rfl⟩, Nat.le_refl _⟩, rfl⟩
theorem Cells.snoc {h h' : Heap} {ρ : Rh} {H : List PO} {a : Addr} {o : PO} (c : Cells W h ρ H) (k : Keeps h h') (n : h.get? a = none) (r : RepO W h' (ρ.add a) a o) : Cells W h' (ρ.add a) (H ++ [o]) := by
  have hna : a ∉ ρ.a := fun q => by
    obtain ⟨i, po, e1, e2, r⟩ := c.get q
    cases po with
    | list l => obtain ⟨vs, nn, e, _⟩ := r; rw [n] at e; cases e
    | dct fs => obtain ⟨es, nn, m, e, _⟩ := r; rw [n] at e; cases e
    | inst j => obtain ⟨dd, _, e⟩ := r; rw [n] at e; cases e
  have lt : ∀ {i : Nat} {x : Addr}, ρ.a[i]? = some x → i < ρ.a.length := fun {i x} e => by
    rcases Nat.lt_or_ge i ρ.a.length with q | q
    · exact q
    · rw [List.getElem?_eq_none q] at e; cases e
  have split : ∀ {i : Nat} {x : Addr}, (ρ.add a).a[i]? = some x → (ρ.a[i]? = some x) ∨ (i = ρ.a.length ∧ x = a) := fun {i x} e => by
    replace e : (ρ.a ++ [a])[i]? = some x := e
    rcases Nat.lt_or_ge i ρ.a.length with q | q
    · rw [List.getElem?_append_left q] at e; exact .inl e
    · rw [List.getElem?_append_right q] at e
      rcases Nat.eq_or_lt_of_le q with q | q
      · subst q; simp at e; exact .inr ⟨rfl, e.symm⟩
      · have : i - ρ.a.length ≥ 1 := by lia
        rw [List.getElem?_eq_none (by simpa using this)] at e; cases e
  refine ⟨fun b o e => k _ _ (c.base b o e), by simp [Rh.add, c.len], fun i x po e1 e2 => ?_, fun i j x e1 e2 => ?_, fun x hx => ?_⟩
  · rcases split e1 with e1 | ⟨rfl, rfl⟩
    · have hi := lt e1
      rw [c.len] at hi
      rw [List.getElem?_append_left hi] at e2
      exact (c.cell i x po e1 e2).keeps k pre_snoc
    · rw [c.len, List.getElem?_append_right (Nat.le_refl _)] at e2
      simp at e2; subst e2; exact r
  · rcases split e1 with e1 | ⟨e1, z1⟩ <;> rcases split e2 with e2 | ⟨e2, z2⟩
    · exact c.nd i j x e1 e2
    · exact absurd (z2 ▸ get_mem e1) hna
    · exact absurd (z1 ▸ get_mem e2) hna
    · rw [e1, e2]
  · rcases List.mem_append.mp hx with q | q
    · exact c.new x q
    · rw [List.mem_singleton.mp q]
      cases z : W.h₀.get? a with
      | none => rfl
      | some o => have := c.base a o z; rw [n] at this; cases this
theorem Rel.snoc {h h' : Heap} {ρ : Rh} {σ : PS} {a : Addr} {o : PO} (R : Rel W env h ρ σ) (k : Keeps h h') (n : h.get? a = none) (r : RepO W h' (ρ.add a) a o) : Rel W env h' (ρ.add a) { σ with H := σ.H ++ [o] } := by
  have R' := R.keeps k
  obtain ⟨m, hn, hl⟩ := R'.lk
  refine ⟨R.eok, R.cells.snoc k n r, ⟨m, hn, fun x p e => ?_⟩, fun x hx => ⟨(R.fpn x hx).1, fun q => ?_⟩, R.fpd, R.apart, R'.isc⟩
  · obtain ⟨v, r, na⟩ := hl x p e
    exact ⟨v, r.stb (Keeps.refl.stb pre_snoc), na⟩
  · rcases List.mem_append.mp q with q | q
    · exact (R.fpn x hx).2 q
    · rw [List.mem_singleton.mp q] at hx
      rcases List.mem_cons.mp hx with e | hx
      · obtain ⟨m, ⟨o', es, ep, e', _⟩, _⟩ := R.lk
        rw [← e, n] at e'; cases e'
      · obtain ⟨y, hy, e⟩ := List.mem_map.mp hx
        obtain ⟨v, o', e', _⟩ := R.isc y hy
        rw [e, n] at e'; cases e'

noncomputable def palloc (o : PO) : PM PV := fun σ => some (.ok (.ref σ.H.length), { σ with H := σ.H ++ [o] })
theorem ref_snoc {h : Heap} {ρ : Rh} {σ : PS} {a : Addr} (R : Rel W env h ρ σ) {h' : Heap} : RepV h' (ρ.add a) (.ref a) (.ref σ.H.length) :=
  ⟨a, rfl, by show (ρ.a ++ [a])[σ.H.length]? = some a; rw [← R.cells.len, List.getElem?_append_right (Nat.le_refl _)]; simp⟩
theorem wp_newList {A : Around} {s : Shared} {ρ : Rh} {σ : PS} {vs : List Value} {l : List PV} {Q : Value → Shared → Prop} {E : Value → Shared → Prop}
    (R : Rel W env s.heap ρ σ) (r : All2 (RepV s.heap ρ) vs l) (hsz : l.length ≤ sizeLine) (hp : Post0 W env rrV s ρ Q E (palloc (.list l) σ)) : wpAny (model W.prog W.w) A (newList vs) Q E s := by
  refine wpAny_newObj_type ?_ (by show vs.toArray.size ≤ sizeLine; rw [List.size_toArray, r.length]; exact hsz)
  have hn : s.heap.get? s.heap.objs.size = none := by
    cases q : s.heap.get? s.heap.objs.size with
    | none => rfl
    | some o => exact absurd (Heap.lt_size q) (Nat.lt_irrefl _)
  have k : Keeps s.heap (s.heap.push { cls := .type "list", data := .seq vs.toArray }) := Keeps.push _
  refine hp (.ref s.heap.objs.size) _ (ρ.add s.heap.objs.size) s.toks (R.snoc k hn ?_) (Ext0.snoc k hn) (ref_snoc (h' := s.heap.push { cls := .type "list", data := .seq vs.toArray }) R)
  exact ⟨vs, 0, Heap.get?_push_size _ rfl, r.mono fun _ _ y => y.stb (k.stb pre_snoc)⟩

noncomputable def pfail {α : Type} : PM α := fun _ => none
theorem s_fail {α β : Type} {R : RR α β} {G : GG} {t : Sem α} : Sim W d env R G t (pfail : PM β) := fun _ _ _ _ _ _ _ _ _ hp => hp.elim
noncomputable def pguard {α : Type} (c : Prop) [Decidable c] (p : PM α) : PM α := if c then p else pfail
set_option tactic.hygienic true in
theorem s_guard {α β : Type} {R : RR α β} {G : GG} {t : Sem α} {c : Prop} [Decidable c] {p : PM β} (h : c → Sim W d env R G t p) : Sim W d env R G t (pguard c p) := by
  unfold pguard
  split
  · rename_i hc; exact h hc
  · exact s_fail
noncomputable def popt {α β : Type} (o : Option α) (f : α → PM β) : PM β := match o with
  | some a => f a
  | none => pfail
noncomputable def plist {α : Type} (i : Nat) (f : List PV → PM α) : PM α := fun σ => match σ.H[i]? with
  | some (.list l) => f l σ
  | _ => none
end
end

section
open PySem PySem.W PyProof.Rows
set_option autoImplicit false
set_option linter.unusedVariables false
set_option tactic.hygienic false
section
variable {W : Wd} {d : Nat} {env : Env} {G : GG}

theorem fresh_none {h : Heap} : h.get? h.objs.size = none := by
  cases q : h.get? h.objs.size with
  | none => rfl
  | some o => exact absurd (Heap.lt_size q) (Nat.lt_irrefl _)

theorem post_val {s : Shared} {ρ : Rh} {σ : PS} {Q : Value → Shared → Prop} {E : Value → Shared → Prop} {v : Value} {p : PV} (R : Rel W env s.heap ρ σ) (hp : Post0 W env rrV s ρ Q E (PM.pure p σ)) (r : RepV s.heap ρ v p) (tk : Nat) : Q v { s with toks := tk } :=
  hp v s.heap ρ tk R .refl r
theorem post_push {s : Shared} {ρ : Rh} {σ : PS} {Q : Value → Shared → Prop} {E : Value → Shared → Prop} {v : Value} {p : PV} {o : Obj} (R : Rel W env s.heap ρ σ) (hp : Post0 W env rrV s ρ Q E (PM.pure p σ)) (r : RepV (s.heap.push o) ρ v p) (tk : Nat) : Q v { s with heap := s.heap.push o, toks := tk } :=
  hp v (s.heap.push o) ρ tk (R.keeps (Keeps.push o)) (Ext0.keeps (Keeps.push o)) r
theorem post_list {s : Shared} {ρ : Rh} {σ : PS} {Q : Value → Shared → Prop} {E : Value → Shared → Prop} {vs : List Value} {l : List PV} (R : Rel W env s.heap ρ σ) (hp : Post0 W env rrV s ρ Q E (palloc (.list l) σ)) (r : All2 (RepV s.heap ρ) vs l) (tk : Nat) :
    Q (.ref s.heap.objs.size) { s with heap := s.heap.push { cls := .type "list", data := .seq vs.toArray }, toks := tk } := by
  have k : Keeps s.heap (s.heap.push { cls := .type "list", data := .seq vs.toArray }) := Keeps.push _
  refine hp (.ref s.heap.objs.size) _ (ρ.add s.heap.objs.size) tk (R.snoc k fresh_none ?_) (Ext0.snoc k fresh_none) (ref_snoc (h' := s.heap.push { cls := .type "list", data := .seq vs.toArray }) R)
  exact ⟨vs, 0, Heap.get?_push_size _ rfl, r.mono fun _ _ y => y.stb (k.stb pre_snoc)⟩

theorem ref_inv {h : Heap} {ρ : Rh} {H : List PO} {v : Value} {i : Nat} {o : PO} (c : Cells W h ρ H) (r : RepV h ρ v (.ref i)) (e : H[i]? = some o) : ∃ a, v = .ref a ∧ ρ.a[i]? = some a ∧ RepO W h ρ a o := by
  obtain ⟨a, rfl, q⟩ := r
  exact ⟨a, rfl, q, c.cell i a o q e⟩

set_option tactic.hygienic true in
theorem plist_inv {α β : Type} {R : RR α β} {s : Shared} {ρ : Rh} {σ : PS} {Q : α → Shared → Prop} {E : Value → Shared → Prop} {i : Nat} {f : List PV → PM β} (hp : Post0 W env R s ρ Q E (plist i f σ)) : ∃ l, σ.H[i]? = some (.list l) ∧ Post0 W env R s ρ Q E (f l σ) := by
  unfold plist at hp
  split at hp
  · rename_i l e; exact ⟨l, e, hp⟩
  · exact hp.elim
theorem popt_inv {α β γ : Type} {R : RR α β} {s : Shared} {ρ : Rh} {σ : PS} {Q : α → Shared → Prop} {E : Value → Shared → Prop} {o : Option γ} {f : γ → PM β} (hp : Post0 W env R s ρ Q E (popt o f σ)) : ∃ c, o = some c ∧ Post0 W env R s ρ Q E (f c σ) := by
  cases o with
  | none => exact hp.elim
  | some c => exact ⟨c, rfl, hp⟩
set_option tactic.hygienic true in
theorem pguard_inv {α β : Type} {R : RR α β} {s : Shared} {ρ : Rh} {σ : PS} {Q : α → Shared → Prop} {E : Value → Shared → Prop} {c : Prop} [Decidable c] {p : PM β} (hp : Post0 W env R s ρ Q E (pguard c p σ)) : c ∧ Post0 W env R s ρ Q E (p σ) := by
  unfold pguard at hp
  split at hp
  · rename_i h; exact ⟨h, hp⟩
  · exact hp.elim

noncomputable def pAdd : PV → PV → PM PV
  | .int a, .int b => PM.pure (.int (a + b))
  | .str x, .str y => pguard (x.length + y.length ≤ sizeLine) (PM.pure (.str (x ++ y)))
  | .ref i, .ref j => plist i fun l => plist j fun k => pguard (l.length + k.length ≤ sizeLine) (palloc (.list (l ++ k)))
  | _, _ => pfail
theorem o_add {a b : Value} {pa pb : PV} (ga : ∀ h ρ, G.P h ρ → RepV h ρ a pa) (gb : ∀ h ρ, G.P h ρ → RepV h ρ b pb) : Sim W d env rrV G (binaryOp .Add a b) (pAdd pa pb) := by
  refine Sim.of0 ?_
  intro A s ρ σ Q E ha hr hg hp
  have ra := ga _ _ hg
  have rb := gb _ _ hg
  unfold pAdd at hp
  split at hp
  · obtain ⟨t, rfl⟩ := ra; obtain ⟨u, rfl⟩ := rb
    exact PyProof.Rows.add_int (post_val hr hp ⟨_, rfl⟩ _)
  · obtain ⟨t, rfl⟩ := ra; obtain ⟨u, rfl⟩ := rb
    obtain ⟨hsz, hp⟩ := pguard_inv hp
    exact PyProof.Rows.add_str (fun t' tk => post_val hr hp ⟨_, rfl⟩ _) hsz
  · obtain ⟨l, e1, hp⟩ := plist_inv hp
    obtain ⟨k, e2, hp⟩ := plist_inv hp
    obtain ⟨hsz, hp⟩ := pguard_inv hp
    obtain ⟨x, rfl, _, vs, n, ho, z⟩ := ref_inv hr.cells ra e1
    obtain ⟨y, rfl, _, ws, n2, ho2, z2⟩ := ref_inv hr.cells rb e2
    have e : vs.toArray ++ ws.toArray = (vs ++ ws).toArray := by simp
    refine concat_meets ⟨_, ho, rfl⟩ ⟨_, ho2, rfl⟩ noFill_list_add seq_list_add PySem.F.slot_list_add PySem.F.entry_list_add (PySem.F.args_list_add_2 _ _) (list_addW x y vs.toArray ws.toArray n n2 none none #[] #[] (by simp only [List.size_toArray, z.length, z2.length]; exact hsz)) ⟨ho, ho2, ?_⟩
    rw [e]
    exact post_list hr hp (z.append z2) s.toks
  · exact hp.elim

noncomputable def pSub : PV → PV → PM PV
  | .int a, .int b => PM.pure (.int (a - b))
  | _, _ => pfail
theorem o_sub {a b : Value} {pa pb : PV} (ga : ∀ h ρ, G.P h ρ → RepV h ρ a pa) (gb : ∀ h ρ, G.P h ρ → RepV h ρ b pb) : Sim W d env rrV G (binaryOp .Sub a b) (pSub pa pb) := by
  refine Sim.of0 ?_
  intro A s ρ σ Q E ha hr hg hp
  have ra := ga _ _ hg
  have rb := gb _ _ hg
  unfold pSub at hp
  split at hp
  · obtain ⟨t, rfl⟩ := ra; obtain ⟨u, rfl⟩ := rb
    exact PyProof.Rows.sub_int (post_val hr hp ⟨_, rfl⟩ _)
  · exact hp.elim
noncomputable def pMul : PV → PV → PM PV
  | .int a, .int b => pguard (a.natAbs < 2 ^ 64) (PM.pure (.int (a * b)))
  | .str x, .int n => pguard (0 ≤ n ∧ n ≤ 1000 ∧ x.length ≤ 1000) (PM.pure (.str (Txt.mul x n)))
  | _, _ => pfail
set_option tactic.hygienic true in
theorem o_mul {a b : Value} {pa pb : PV} (ga : ∀ h ρ, G.P h ρ → RepV h ρ a pa) (gb : ∀ h ρ, G.P h ρ → RepV h ρ b pb) : Sim W d env rrV G (binaryOp .Mult a b) (pMul pa pb) := by
  refine Sim.of0 ?_
  intro A s ρ σ Q E ha hr hg hp
  have ra := ga _ _ hg
  have rb := gb _ _ hg
  unfold pMul at hp
  split at hp
  · obtain ⟨t, rfl⟩ := ra; obtain ⟨u, rfl⟩ := rb
    obtain ⟨hsz, hp⟩ := pguard_inv hp
    refine PyProof.Rows.mul_int (post_val hr hp ⟨_, rfl⟩ _) (IntMulOk.of_left (intBits_le_64 ?_ ?_)) <;> omega
  · rename_i x n
    obtain ⟨t, rfl⟩ := ra; obtain ⟨u, rfl⟩ := rb
    obtain ⟨⟨h1, h2, h3⟩, hp⟩ := pguard_inv hp
    refine PySem.SB.mul ⟨?_, fun h4 _ => ?_, fun _ _ => ?_⟩ fun t' k => post_val hr hp ⟨_, rfl⟩ _
    · simp only [Bool.or_eq_false_iff, decide_eq_false_iff_not]; omega
    · have : (x.length : Int) ≤ (2 ^ 63 - 1) / n := by
        refine Int.le_ediv_of_mul_le (by omega) ?_
        have : (x.length : Int) * n ≤ 1000 * 1000 := Int.mul_le_mul (by omega) h2 h1 (by omega)
        omega
      omega
    · have : x.length * n.toNat ≤ 1000 * 1000 := Nat.mul_le_mul h3 (by omega)
      exact decide_eq_false (by rw [sizeLine_eq]; omega)
  · exact hp.elim
end
end

section
open PySem PySem.W PyProof.Rows
set_option autoImplicit false
set_option linter.unusedVariables false
set_option maxRecDepth 100000
set_option tactic.hygienic false
section
variable {W : Wd} {d : Nat} {env : Env} {G : GG}

noncomputable def pMod : PV → PV → PM PV
  | .int a, .int b => pguard (b ≠ 0) (PM.pure (.int (a.fmod b)))
  | _, _ => pfail
theorem o_mod {a b : Value} {pa pb : PV} (ga : ∀ h ρ, G.P h ρ → RepV h ρ a pa) (gb : ∀ h ρ, G.P h ρ → RepV h ρ b pb) : Sim W d env rrV G (binaryOp .Mod a b) (pMod pa pb) := by
  refine Sim.of0 ?_
  intro A s ρ σ Q E ha hr hg hp
  have ra := ga _ _ hg
  have rb := gb _ _ hg
  unfold pMod at hp
  split at hp
  · obtain ⟨t, rfl⟩ := ra; obtain ⟨u, rfl⟩ := rb
    obtain ⟨hb, hp⟩ := pguard_inv hp
    exact PyProof.Rows.mod_int hb (post_val hr hp ⟨_, rfl⟩ _)
  · exact hp.elim
noncomputable def pDiv : PV → PV → PM PV
  | .int a, .int b => pguard (b ≠ 0 ∧ b.natAbs < 1073741824) (PM.pure (.int (a.fdiv b)))
  | _, _ => pfail
theorem o_div {a b : Value} {pa pb : PV} (ga : ∀ h ρ, G.P h ρ → RepV h ρ a pa) (gb : ∀ h ρ, G.P h ρ → RepV h ρ b pb) : Sim W d env rrV G (binaryOp .FloorDiv a b) (pDiv pa pb) := by
  refine Sim.of0 ?_
  intro A s ρ σ Q E ha hr hg hp
  have ra := ga _ _ hg
  have rb := gb _ _ hg
  unfold pDiv at hp
  split at hp
  · obtain ⟨t, rfl⟩ := ra; obtain ⟨u, rfl⟩ := rb
    obtain ⟨hb, hp⟩ := pguard_inv hp
    exact PyProof.Rows.floordiv_int hb.1 (post_val hr hp ⟨_, rfl⟩ _) (Or.inl (PyProof.noPylong_small hb.2))
  · exact hp.elim
theorem o_idiv {a b : Value} {pa pb : PV} (ga : ∀ h ρ, G.P h ρ → RepV h ρ a pa) (gb : ∀ h ρ, G.P h ρ → RepV h ρ b pb) : Sim W d env rrV G (inplaceOp .FloorDiv a b) (pDiv pa pb) := by
  refine Sim.of0 ?_
  intro A s ρ σ Q E ha hr hg hp
  have ra := ga _ _ hg
  have rb := gb _ _ hg
  unfold pDiv at hp
  split at hp
  · obtain ⟨t, rfl⟩ := ra; obtain ⟨u, rfl⟩ := rb
    obtain ⟨hb, hp⟩ := pguard_inv hp
    exact PyProof.Rows.ifloordiv_int hb.1 (post_val hr hp ⟨_, rfl⟩ _) (Or.inl (PyProof.noPylong_small hb.2))
  · exact hp.elim
noncomputable def pPow : PV → PV → PM PV
  | .int a, .int b => pguard (0 ≤ b ∧ b ≤ 1000000 ∧ a.natAbs < 2 ^ 64) (PM.pure (.int (a ^ b.toNat)))
  | _, _ => pfail
theorem o_pow {a b : Value} {pa pb : PV} (ga : ∀ h ρ, G.P h ρ → RepV h ρ a pa) (gb : ∀ h ρ, G.P h ρ → RepV h ρ b pb) : Sim W d env rrV G (binaryOp .Pow a b) (pPow pa pb) := by
  refine Sim.of0 ?_
  intro A s ρ σ Q E ha hr hg hp
  have ra := ga _ _ hg
  have rb := gb _ _ hg
  unfold pPow at hp
  split at hp
  · obtain ⟨t, rfl⟩ := ra; obtain ⟨u, rfl⟩ := rb
    obtain ⟨hb, hp⟩ := pguard_inv hp
    exact PyProof.Rows.pow_int_small hb.1 hb.2.1 hb.2.2 (post_val hr hp ⟨_, rfl⟩ _)
  · exact hp.elim
noncomputable def pIAdd : PV → PV → PM PV
  | .int a, .int b => PM.pure (.int (a + b))
  | .str x, .str y => pguard (x.length + y.length ≤ sizeLine) (PM.pure (.str (x ++ y)))
  | _, _ => pfail
theorem o_iadd {a b : Value} {pa pb : PV} (ga : ∀ h ρ, G.P h ρ → RepV h ρ a pa) (gb : ∀ h ρ, G.P h ρ → RepV h ρ b pb) : Sim W d env rrV G (inplaceOp .Add a b) (pIAdd pa pb) := by
  refine Sim.of0 ?_
  intro A s ρ σ Q E ha hr hg hp
  have ra := ga _ _ hg
  have rb := gb _ _ hg
  unfold pIAdd at hp
  split at hp
  · obtain ⟨t, rfl⟩ := ra; obtain ⟨u, rfl⟩ := rb
    exact PyProof.Rows.iadd_int (post_val hr hp ⟨_, rfl⟩ _)
  · obtain ⟨t, rfl⟩ := ra; obtain ⟨u, rfl⟩ := rb
    obtain ⟨hsz, hp⟩ := pguard_inv hp
    exact PyProof.Rows.iadd_str (fun t' tk => post_val hr hp ⟨_, rfl⟩ _) hsz
  · exact hp.elim

end
end

section
open PySem PySem.W PyProof.Rows PySem.Spec PySem.SeqAt
set_option autoImplicit false
set_option linter.unusedVariables false
set_option maxRecDepth 100000
set_option tactic.hygienic false
noncomputable def patom : PV → Option PyData
  | .none => some .none
  | .bool b => some (.bool b)
  | .int i => some (.int i)
  | .str x => some (.str x)
  | _ => none
noncomputable def pall (f : PV → Option PyData) : List PV → Option (List PyData)
  | [] => some []
  | x :: r => match f x, pall f r with
    | some d, some ds => some (d :: ds)
    | _, _ => none
noncomputable def pdata (H : List PO) : Nat → PV → Option PyData
  | 0, p => patom p
  | n + 1, p => match p with
    | .tup l => (pall (pdata H n) l).map .tuple
    | .ref i => match H[i]? with
      | some (.list l) => (pall (pdata H n) l).map .list
      | _ => none
    | p => patom p
section
variable {W : Wd} {d : Nat} {env : Env} {G : GG}

theorem RepA.repV {h : Heap} {ρ : Rh} {v : Value} {p : PV} (r : RepA ρ v p) : RepV h ρ v p := by
  cases p with
  | tup l => exact r.elim
  | _ => exact r
set_option tactic.hygienic true in
theorem reads_of {h : Heap} {ρ : Rh} {H : List PO} (c : Cells W h ρ H) : ∀ (n : Nat) (v : Value) (p : PV) (x : PyData), RepV h ρ v p → pdata H n p = some x → ∃ as, Reads h v x as := by
  have atom : ∀ (v : Value) (p : PV) (x : PyData), RepV h ρ v p → patom p = some x → ∃ as, Reads h v x as := by
    intro v p x r e
    cases p with
    | none => cases e; cases r; exact ⟨_, .none⟩
    | bool b => cases e; cases r; exact ⟨_, .bool b⟩
    | int i => cases e; obtain ⟨t, rfl⟩ := r; exact ⟨_, .int i t⟩
    | str s => cases e; obtain ⟨t, rfl⟩ := r; exact ⟨_, .str s t⟩
    | _ => cases e
  intro n
  induction n with
  | zero => exact atom
  | succ n ih =>
    have all : ∀ (vs : List Value) (l : List PV) (xs : List PyData), All2 (RepV h ρ) vs l → pall (pdata H n) l = some xs → ∃ as, ReadsAll h vs xs as := by
      intro vs l xs z
      induction z generalizing xs with
      | nil => intro e; cases e; exact ⟨_, .nil⟩
      | cons r _ ih2 =>
        intro e
        unfold pall at e
        split at e
        · rename_i d1 d2 e1 e2
          cases e
          obtain ⟨as, q1⟩ := ih _ _ _ r e1
          obtain ⟨bs, q2⟩ := ih2 _ e2
          exact ⟨_, .cons q1 q2⟩
        · cases e
    intro v p x r e
    cases p with
    | tup l =>
      replace e : (pall (pdata H n) l).map PyData.tuple = some x := e
      obtain ⟨xs, e1, rfl⟩ := Option.map_eq_some_iff.mp e
      obtain ⟨a, vs, rfl, ⟨o, ho, hc, m, hd⟩, z⟩ := r
      obtain ⟨as, q⟩ := all vs l xs (z.mono fun _ _ y => y.repV) e1
      exact ⟨_, .tuple ho hc hd (by simpa using q)⟩
    | ref i =>
      replace e : (match H[i]? with | some (.list l) => (pall (pdata H n) l).map PyData.list | _ => none) = some x := e
      split at e
      · rename_i l el
        obtain ⟨xs, e1, rfl⟩ := Option.map_eq_some_iff.mp e
        obtain ⟨a, rfl, _, vs, m, ho, z⟩ := ref_inv c r el
        obtain ⟨as, q⟩ := all vs l xs z e1
        exact ⟨_, .list ho rfl rfl (by simpa using q)⟩
      · cases e
    | _ => exact atom _ _ _ r e

noncomputable def pdat2 (a b : PV) (f : PyData → PyData → PM PV) : PM PV := fun σ => match pdata σ.H 4 a, pdata σ.H 4 b with
  | some x, some y => f x y σ
  | _, _ => none
set_option tactic.hygienic true in
theorem pdat2_inv {s : Shared} {ρ : Rh} {σ : PS} {Q : Value → Shared → Prop} {E : Value → Shared → Prop} {a b : PV} {f : PyData → PyData → PM PV} (hp : Post0 W env rrV s ρ Q E (pdat2 a b f σ)) :
    ∃ x y, pdata σ.H 4 a = some x ∧ pdata σ.H 4 b = some y ∧ Post0 W env rrV s ρ Q E (f x y σ) := by
  unfold pdat2 at hp
  split at hp
  · rename_i x y e1 e2; exact ⟨x, y, e1, e2, hp⟩
  · exact hp.elim
noncomputable def pEq : PV → PV → PM PV
  | .int a, .int b => PM.pure (.bool (a == b))
  | .str x, .str y => PM.pure (.bool (x == y))
  | a, b => pdat2 a b fun x y => pguard (shaped x = true ∧ shaped y = true) (PM.pure (.bool (PyData.eqv x y)))
theorem o_eq {a b : Value} {pa pb : PV} (ga : ∀ h ρ, G.P h ρ → RepV h ρ a pa) (gb : ∀ h ρ, G.P h ρ → RepV h ρ b pb) : Sim W d env rrV G (compareOp .Eq a b) (pEq pa pb) := by
  refine Sim.of0 ?_
  intro A s ρ σ Q E ha hr hg hp
  have ra := ga _ _ hg
  have rb := gb _ _ hg
  unfold pEq at hp
  split at hp
  · obtain ⟨t, rfl⟩ := ra; obtain ⟨u, rfl⟩ := rb
    exact PyProof.Rows.eq_int (post_val hr hp rfl _)
  · obtain ⟨t, rfl⟩ := ra; obtain ⟨u, rfl⟩ := rb
    exact PyProof.Rows.eq_str (post_val hr hp rfl _)
  · obtain ⟨x, y, e1, e2, hp⟩ := pdat2_inv hp
    obtain ⟨⟨h1, h2⟩, hp⟩ := pguard_inv hp
    obtain ⟨as, q1⟩ := reads_of hr.cells _ _ _ _ ra e1
    obtain ⟨bs, q2⟩ := reads_of hr.cells _ _ _ _ rb e2
    exact eq_dataH q1 q2 h1 h2 (by have := ha.units; lia) (post_val hr hp rfl _)
noncomputable def pNe : PV → PV → PM PV
  | .int a, .int b => PM.pure (.bool (a != b))
  | .str x, .str y => PM.pure (.bool (x != y))
  | a, b => pdat2 a b fun x y => pguard (shaped x = true ∧ shaped y = true) (PM.pure (.bool (!PyData.eqv x y)))
theorem o_ne {a b : Value} {pa pb : PV} (ga : ∀ h ρ, G.P h ρ → RepV h ρ a pa) (gb : ∀ h ρ, G.P h ρ → RepV h ρ b pb) : Sim W d env rrV G (compareOp .NotEq a b) (pNe pa pb) := by
  refine Sim.of0 ?_
  intro A s ρ σ Q E ha hr hg hp
  have ra := ga _ _ hg
  have rb := gb _ _ hg
  unfold pNe at hp
  split at hp
  · obtain ⟨t, rfl⟩ := ra; obtain ⟨u, rfl⟩ := rb
    exact PyProof.Rows.ne_int (post_val hr hp rfl _)
  · obtain ⟨t, rfl⟩ := ra; obtain ⟨u, rfl⟩ := rb
    exact PyProof.Rows.ne_str (post_val hr hp rfl _)
  · obtain ⟨x, y, e1, e2, hp⟩ := pdat2_inv hp
    obtain ⟨⟨h1, h2⟩, hp⟩ := pguard_inv hp
    obtain ⟨as, q1⟩ := reads_of hr.cells _ _ _ _ ra e1
    obtain ⟨bs, q2⟩ := reads_of hr.cells _ _ _ _ rb e2
    exact ne_dataH q1 q2 h1 h2 (by have := ha.units; lia) (post_val hr hp rfl _)
noncomputable def pNotIn : PV → PV → PM PV
  | .str y, .str x => PM.pure (.bool (!(!(Builtin.Str.occurrences x y 0 x.length 1).isEmpty)))
  | a, b => pdat2 a b fun x y => match y with
    | .list xs => pguard (shaped x = true ∧ PyData.canLayAll0 xs = true) (PM.pure (.bool (!(xs.any fun e => PyData.eqv e x))))
    | _ => pfail
theorem o_notin {a b : Value} {pa pb : PV} (ga : ∀ h ρ, G.P h ρ → RepV h ρ a pa) (gb : ∀ h ρ, G.P h ρ → RepV h ρ b pb) : Sim W d env rrV G (compareOp .NotIn a b) (pNotIn pa pb) := by
  refine Sim.of0 ?_
  intro A s ρ σ Q E ha hr hg hp
  have ra := ga _ _ hg
  have rb := gb _ _ hg
  unfold pNotIn at hp
  split at hp
  · obtain ⟨t, rfl⟩ := ra; obtain ⟨u, rfl⟩ := rb
    exact PyProof.Rows.notIn_str (post_val hr hp rfl _)
  · obtain ⟨x, y, e1, e2, hp⟩ := pdat2_inv hp
    split at hp
    · obtain ⟨⟨h1, h2⟩, hp⟩ := pguard_inv hp
      obtain ⟨as, q1⟩ := reads_of hr.cells _ _ _ _ ra e1
      obtain ⟨bs, q2⟩ := reads_of hr.cells _ _ _ _ rb e2
      exact notIn_list_reads q2 q1 h2 (canLay_of_shaped h1) (room_in_shaped h1 (by have := ha.units; lia)) (post_val hr hp rfl _)
    · exact hp.elim
noncomputable def PV.isNone : PV → Bool
  | .none => true
  | _ => false
theorem isNone_rep {h : Heap} {ρ : Rh} {v : Value} {p : PV} (r : RepV h ρ v p) : (v == Value.none) = p.isNone := by
  cases p with
  | none => cases r; rfl
  | bool b => cases r; rfl
  | int i => obtain ⟨t, rfl⟩ := r; rfl
  | str s => obtain ⟨t, rfl⟩ := r; rfl
  | lit s => obtain ⟨t, rfl, _⟩ := r; rfl
  | typ n => cases r; rfl
  | bi n => cases r; rfl
  | glob a => cases r; rfl
  | ref i => obtain ⟨a, rfl, _⟩ := r; rfl
  | tup l => obtain ⟨a, vs, rfl, _⟩ := r; rfl
noncomputable def pIs : PV → PV → PM PV
  | p, .none => PM.pure (.bool p.isNone)
  | .typ x, .typ y => PM.pure (.bool (x == y))
  | _, _ => pfail
set_option tactic.hygienic true in
theorem o_is {a b : Value} {pa pb : PV} (ga : ∀ h ρ, G.P h ρ → RepV h ρ a pa) (gb : ∀ h ρ, G.P h ρ → RepV h ρ b pb) : Sim W d env rrV G (compareOp .Is a b) (pIs pa pb) := by
  refine Sim.of0 ?_
  intro A s ρ σ Q E ha hr hg hp
  have ra := ga _ _ hg
  have rb := gb _ _ hg
  unfold pIs at hp
  split at hp
  · cases rb
    exact is_none_gen (by rw [isNone_rep ra]; exact post_val hr hp rfl _)
  · cases ra; cases rb
    rename_i x y
    refine wpAny_is_plain rfl ?_
    have : (Value.type x == Value.type y) = (x == y) := by
      by_cases h : x = y
      · subst h; simp
      · have h2 : (x == y) = false := by simpa using h
        rw [h2]; simpa using h
    rw [this]; exact post_val hr hp rfl _
  · exact hp.elim
noncomputable def pIsNot : PV → PV → PM PV
  | p, .none => PM.pure (.bool (!p.isNone))
  | .typ x, .typ y => PM.pure (.bool (!(x == y)))
  | _, _ => pfail
set_option tactic.hygienic true in
theorem o_isnot {a b : Value} {pa pb : PV} (ga : ∀ h ρ, G.P h ρ → RepV h ρ a pa) (gb : ∀ h ρ, G.P h ρ → RepV h ρ b pb) : Sim W d env rrV G (compareOp .IsNot a b) (pIsNot pa pb) := by
  refine Sim.of0 ?_
  intro A s ρ σ Q E ha hr hg hp
  have ra := ga _ _ hg
  have rb := gb _ _ hg
  unfold pIsNot at hp
  split at hp
  · cases rb
    exact isnot_none_gen (by rw [isNone_rep ra]; exact post_val hr hp rfl _)
  · cases ra; cases rb
    rename_i x y
    refine wpAny_isNot_plain rfl ?_
    have : (Value.type x == Value.type y) = (x == y) := by
      by_cases h : x = y
      · subst h; simp
      · have h2 : (x == y) = false := by simpa using h
        rw [h2]; simpa using h
    rw [this]; exact post_val hr hp rfl _
  · exact hp.elim
noncomputable def pGe : PV → PV → PM PV
  | .int a, .int b => PM.pure (.bool (decide (b ≤ a)))
  | _, _ => pfail
theorem o_ge {a b : Value} {pa pb : PV} (ga : ∀ h ρ, G.P h ρ → RepV h ρ a pa) (gb : ∀ h ρ, G.P h ρ → RepV h ρ b pb) : Sim W d env rrV G (compareOp .GtE a b) (pGe pa pb) := by
  refine Sim.of0 ?_
  intro A s ρ σ Q E ha hr hg hp
  have ra := ga _ _ hg
  have rb := gb _ _ hg
  unfold pGe at hp
  split at hp
  · obtain ⟨t, rfl⟩ := ra; obtain ⟨u, rfl⟩ := rb
    exact PyProof.Rows.ge_int (post_val hr hp rfl _)
  · exact hp.elim
end
end

section
open PySem PySem.W PyProof.Rows PySem.Spec PySem.SeqAt
set_option autoImplicit false
set_option linter.unusedVariables false
set_option maxRecDepth 100000
set_option tactic.hygienic false
noncomputable def SE (W : Wd) (d : Nat) (env : Env) (e : Expr) (p : PM PV) : Prop := ∀ G, Sim W d env rrV G (eval e env) p
noncomputable def ST (W : Wd) (d : Nat) (env : Env) (e : Expr) (p : PM Bool) : Prop := ∀ G, Sim W d env rrB G (isTrue e env (eval e env)) p
noncomputable def SEs (W : Wd) (d : Nat) (env : Env) (es : List Expr) (p : PM (List PV)) : Prop := ∀ G pos, Sim W d env rrL G (spliced (backTo pos (starEach es env))) p

noncomputable def ptruthy : PV → PM Bool
  | .none => PM.pure false
  | .bool b => PM.pure b
  | .int i => PM.pure (i != 0)
  | .str x => pguard (x.length ≤ sizeLine) (PM.pure (decide (x.length ≠ 0)))
  | .ref i => plist i fun l => pguard (l.length ≤ sizeLine) (PM.pure (!l.isEmpty))
  | _ => pfail
section
variable {W : Wd} {d : Nat} {env : Env} {G : GG}
theorem post_b {s : Shared} {ρ : Rh} {σ : PS} {Q : Bool → Shared → Prop} {E : Value → Shared → Prop} {b : Bool} (R : Rel W env s.heap ρ σ) (hp : Post0 W env rrB s ρ Q E (PM.pure b σ)) (tk : Nat) : Q b { s with toks := tk } :=
  hp b s.heap ρ tk R .refl rfl
set_option tactic.hygienic true in
theorem o_truthy {a : Value} {pa : PV} (ga : ∀ h ρ, G.P h ρ → RepV h ρ a pa) : Sim W d env rrB G (truthy a) (ptruthy pa) := by
  refine Sim.of0 ?_
  intro A s ρ σ Q E ha hr hg hp
  have ra := ga _ _ hg
  unfold ptruthy at hp
  split at hp
  · cases ra; exact truthy_none (post_b hr hp _)
  · cases ra; exact wpAny_truthy_bool (post_b hr hp _)
  · obtain ⟨t, rfl⟩ := ra; exact PyProof.Rows.truthy_int (post_b hr hp _)
  · rename_i x
    obtain ⟨t, rfl⟩ := ra
    obtain ⟨h1, hp⟩ := pguard_inv hp
    have : ((x.length : Int) != 0) = decide (x.length ≠ 0) := by
      by_cases h : x.length = 0
      · rw [h]; rfl
      · rw [decide_eq_true h, bne_iff_ne]; lia
    exact P.truthy_str (by rw [sizeLine_eq] at h1; lia) (by rw [this]; exact post_b hr hp _)
  · obtain ⟨l, e1, hp⟩ := plist_inv hp
    obtain ⟨h1, hp⟩ := pguard_inv hp
    obtain ⟨x, rfl, _, vs, n, ho, z⟩ := ref_inv hr.cells ra e1
    have hl : vs.length = l.length := z.length
    refine wpAny_truthy_list (items := vs.toArray) ⟨_, ho, rfl, n, rfl⟩ (by rw [List.size_toArray, hl]; rw [sizeLine_eq] at h1; lia) ?_
    have : (!vs.toArray.isEmpty) = !l.isEmpty := by
      cases z with
      | nil => rfl
      | cons _ _ => simp
    rw [this]; exact post_b hr hp _
  · exact hp.elim

noncomputable def OpOk (W : Wd) (d : Nat) (env : Env) (t : Value → Value → Sem Value) (f : PV → PV → PM PV) : Prop :=
  ∀ (G : GG) (a b : Value) (pa pb : PV), (∀ h ρ, G.P h ρ → RepV h ρ a pa) → (∀ h ρ, G.P h ρ → RepV h ρ b pb) → Sim W d env rrV G (t a b) (f pa pb)

theorem s_bin {l r : Expr} {op : Operator} {pos : Pos} {p q : PM PV} {f : PV → PV → PM PV} (ho : OpOk W d env (binaryOp op) f) (hl : SE W d env l p) (hr : SE W d env r q) : SE W d env (.BinOp l op r pos) (PM.bind p fun a => PM.bind q fun b => f a b) := by
  intro G
  show Sim W d env rrV G (eval l env >>= fun a => holding [a] (eval r env) >>= fun b => standAt pos >>= fun _ => operate [a, b] (binaryOp op a b)) _
  exact Sim.bind (hl G) fun a pa => Sim.bind (Sim.holding (hr _)) fun b pb => Sim.stand (Sim.operate (ho _ a b pa pb (fun _ _ g => g.1.2) fun _ _ g => g.2))
theorem s_add {l r : Expr} {pos : Pos} {p q : PM PV} (hl : SE W d env l p) (hr : SE W d env r q) : SE W d env (.BinOp l .Add r pos) (PM.bind p fun a => PM.bind q fun b => pAdd a b) := s_bin (fun _ _ _ _ _ x y => o_add x y) hl hr
theorem s_sub {l r : Expr} {pos : Pos} {p q : PM PV} (hl : SE W d env l p) (hr : SE W d env r q) : SE W d env (.BinOp l .Sub r pos) (PM.bind p fun a => PM.bind q fun b => pSub a b) := s_bin (fun _ _ _ _ _ x y => o_sub x y) hl hr
theorem s_mul {l r : Expr} {pos : Pos} {p q : PM PV} (hl : SE W d env l p) (hr : SE W d env r q) : SE W d env (.BinOp l .Mult r pos) (PM.bind p fun a => PM.bind q fun b => pMul a b) := s_bin (fun _ _ _ _ _ x y => o_mul x y) hl hr
theorem s_mod {l r : Expr} {pos : Pos} {p q : PM PV} (hl : SE W d env l p) (hr : SE W d env r q) : SE W d env (.BinOp l .Mod r pos) (PM.bind p fun a => PM.bind q fun b => pMod a b) := s_bin (fun _ _ _ _ _ x y => o_mod x y) hl hr
theorem s_div {l r : Expr} {pos : Pos} {p q : PM PV} (hl : SE W d env l p) (hr : SE W d env r q) : SE W d env (.BinOp l .FloorDiv r pos) (PM.bind p fun a => PM.bind q fun b => pDiv a b) := s_bin (fun _ _ _ _ _ x y => o_div x y) hl hr
theorem s_pow {l r : Expr} {pos : Pos} {p q : PM PV} (hl : SE W d env l p) (hr : SE W d env r q) : SE W d env (.BinOp l .Pow r pos) (PM.bind p fun a => PM.bind q fun b => pPow a b) := s_bin (fun _ _ _ _ _ x y => o_pow x y) hl hr

theorem s_cmp {l r : Expr} {op : CmpOp} {pos : Pos} {p q : PM PV} {f : PV → PV → PM PV} (ho : OpOk W d env (compareOp op) f) (hl : SE W d env l p) (hr : SE W d env r q) (hm : behindInMarks op r = false) : SE W d env (.Compare l [op] [r] pos) (PM.bind p fun a => PM.bind q fun b => f a b) := by
  intro G
  rw [eval_Compare1, markedBehindIn_of_false hm]
  exact Sim.bind (hl G) fun a pa => Sim.bind (Sim.holding (hr _)) fun b pb => Sim.stand (Sim.operate (ho _ a b pa pb (fun _ _ g => g.1.2) fun _ _ g => g.2))
theorem t_cmp {l r : Expr} {op : CmpOp} {pos : Pos} {p q : PM PV} {f : PV → PV → PM PV} (ho : OpOk W d env (compareOp op) f) (hl : SE W d env l p) (hr : SE W d env r q) (hm : behindInMarks op r = false) : ST W d env (.Compare l [op] [r] pos) (PM.bind p fun a => PM.bind q fun b => PM.bind (f a b) ptruthy) := by
  intro G
  rw [isTrue_Compare1, markedBehindIn_of_false hm]
  exact Sim.bind (hl G) fun a pa => Sim.bind (Sim.holding (hr _)) fun b pb => Sim.stand (Sim.bind (Sim.operate (ho _ a b pa pb (fun _ _ g => g.1.2) fun _ _ g => g.2)) fun c pc => Sim.holding (o_truthy fun _ _ g => g.2))
section
variable {l r : Expr} {pos : Pos} {p q : PM PV} (hl : SE W d env l p) (hr : SE W d env r q)
include hl hr
theorem s_eq (hm : behindInMarks .Eq r = false) : SE W d env (.Compare l [.Eq] [r] pos) (PM.bind p fun a => PM.bind q fun b => pEq a b) := s_cmp (fun _ _ _ _ _ x y => o_eq x y) hl hr hm
theorem t_eq (hm : behindInMarks .Eq r = false) : ST W d env (.Compare l [.Eq] [r] pos) (PM.bind p fun a => PM.bind q fun b => PM.bind (pEq a b) ptruthy) := t_cmp (fun _ _ _ _ _ x y => o_eq x y) hl hr hm
theorem t_ne (hm : behindInMarks .NotEq r = false) : ST W d env (.Compare l [.NotEq] [r] pos) (PM.bind p fun a => PM.bind q fun b => PM.bind (pNe a b) ptruthy) := t_cmp (fun _ _ _ _ _ x y => o_ne x y) hl hr hm
theorem t_notin (hm : behindInMarks .NotIn r = false) : ST W d env (.Compare l [.NotIn] [r] pos) (PM.bind p fun a => PM.bind q fun b => PM.bind (pNotIn a b) ptruthy) := t_cmp (fun _ _ _ _ _ x y => o_notin x y) hl hr hm
theorem t_is (hm : behindInMarks .Is r = false) : ST W d env (.Compare l [.Is] [r] pos) (PM.bind p fun a => PM.bind q fun b => PM.bind (pIs a b) ptruthy) := t_cmp (fun _ _ _ _ _ x y => o_is x y) hl hr hm
theorem t_isnot (hm : behindInMarks .IsNot r = false) : ST W d env (.Compare l [.IsNot] [r] pos) (PM.bind p fun a => PM.bind q fun b => PM.bind (pIsNot a b) ptruthy) := t_cmp (fun _ _ _ _ _ x y => o_isnot x y) hl hr hm
theorem t_ge (hm : behindInMarks .GtE r = false) : ST W d env (.Compare l [.GtE] [r] pos) (PM.bind p fun a => PM.bind q fun b => PM.bind (pGe a b) ptruthy) := t_cmp (fun _ _ _ _ _ x y => o_ge x y) hl hr hm
end
theorem t_plain {e : Expr} {p : PM PV} (he : SE W d env e p) (hw : isTrue e env (eval e env) = (eval e env >>= fun v => standAt e.pos >>= fun _ => holding [v] (truthy v))) : ST W d env e (PM.bind p ptruthy) := by
  intro G
  rw [hw]
  exact Sim.bind (he G) fun a pa => Sim.stand (Sim.holding (o_truthy fun _ _ g => g.2))
noncomputable def pnot (p : PM Bool) : PM Bool := PM.bind p fun b => PM.pure (!b)
theorem t_not {e : Expr} {pos : Pos} {p : PM Bool} (he : ST W d env e p) : ST W d env (.UnaryOp .Not e pos) (pnot p) := by
  intro G
  show Sim W d env rrB G (isTrue e env (eval e env) >>= fun b => pure (!b)) _
  exact Sim.bind (he G) fun a b => Sim.pure fun _ _ g => by have : a = b := g.2; rw [this]; rfl
noncomputable def pite {α : Type} (c : PM Bool) (p q : PM α) : PM α := PM.bind c fun b => if b then p else q
theorem sim_ite {α β : Type} {R : RR α β} {b b' : Bool} {t u : Sem α} {p q : PM β} (ht : Sim W d env R G t p) (hu : Sim W d env R G u q) (hb : ∀ h ρ, G.P h ρ → b = b') : Sim W d env R G (if b = true then t else u) (if b' = true then p else q) := by
  refine Sim.under fun ⟨h, ρ, g⟩ => ?_
  rw [hb h ρ g]
  cases b' with
  | true => exact ht
  | false => exact hu
theorem s_if {t b o : Expr} {pos : Pos} {c : PM Bool} {p q : PM PV} (ht : ST W d env t c) (hb : SE W d env b p) (ho : SE W d env o q) : SE W d env (.IfExp t b o pos) (pite c p q) := by
  intro G
  rw [eval_IfExp]
  exact Sim.bind (ht G) fun a b => sim_ite (hb _) (ho _) fun _ _ g => g.2

theorem ss_nil : SEs W d env [] (PM.pure []) := fun G pos => Sim.pure fun _ _ _ => .nil
theorem star_cons {e : Expr} {es : List Expr} {env : Env} (h : isStarred e = false) : starEach (e :: es) env = (false, eval e env) :: starEach es env := by
  cases e <;> first | rfl | cases h
theorem ss_cons {e : Expr} {es : List Expr} {p : PM PV} {ps : PM (List PV)} (he : SE W d env e p) (hes : SEs W d env es ps) (hs : isStarred e = false) : SEs W d env (e :: es) (PM.bind p fun a => PM.bind ps fun l => PM.pure (a :: l)) := by
  intro G pos
  rw [star_cons hs]
  show Sim W d env rrL G (eval e env >>= fun v => (pure [v] : Sem (List Value)) >>= fun here => holding here (spliced (backTo pos (starEach es env))) >>= fun r => pure (here ++ r)) _
  refine Sim.bind (he G) fun a pa => ?_
  refine Sim.eq (t' := holding [a] (spliced (backTo pos (starEach es env))) >>= fun r => pure ([a] ++ r)) ?_ rfl rfl
  exact Sim.bind (Sim.holding (hes _ pos)) fun vs l => Sim.pure fun _ _ g => .cons g.1.2 g.2
theorem s_list {es : List Expr} {pos : Pos} {ps : PM (List PV)} (h : SEs W d env es ps) : SE W d env (.List es pos) (PM.bind ps fun l => pguard (l.length ≤ sizeLine) (palloc (.list l))) := by
  intro G
  show Sim W d env rrV G (standAt pos >>= fun _ => spliced (backTo pos (starEach es env)) >>= fun vs => newList vs) _
  refine Sim.stand (Sim.bind (h G pos) fun vs l => s_guard fun hl => ?_)
  refine Sim.of0 ?_
  intro A s ρ σ Q E ha hr hg hp
  exact wp_newList hr hg.2 hl hp
noncomputable def allAtoms : List PV → Bool
  | [] => true
  | .tup _ :: _ => false
  | _ :: r => allAtoms r
theorem atoms_rep {h : Heap} {ρ : Rh} {vs : List Value} {l : List PV} (z : All2 (RepV h ρ) vs l) (e : allAtoms l = true) : All2 (RepA ρ) vs l := by
  induction z with
  | nil => exact .nil
  | @cons a b as bs r _ ih =>
    cases b with
    | tup l => cases e
    | _ => exact .cons r (ih e)
theorem s_tuple {es : List Expr} {k : Nat} {pos : Pos} {ps : PM (List PV)} (h : SEs W d env es ps) : SE W d env (.Tuple es k pos) (PM.bind ps fun l => pguard (l.length ≤ sizeLine ∧ allAtoms l = true) (PM.pure (.tup l))) := by
  intro G
  show Sim W d env rrV G (standAt pos >>= fun _ => spliced (backTo pos (starEach es env)) >>= fun vs => newTuple vs) _
  refine Sim.stand (Sim.bind (h G pos) fun vs l => s_guard fun hl => ?_)
  refine Sim.of0 ?_
  intro A s ρ σ Q E ha hr hg hp
  have z : All2 (RepV s.heap ρ) vs l := hg.2
  refine wpAny_newObj_type ?_ (by show vs.toArray.size ≤ sizeLine; rw [List.size_toArray, z.length]; exact hl.1)
  refine post_push hr hp ?_ s.toks
  exact ⟨_, vs, rfl, ⟨_, Heap.get?_push_size _ rfl, rfl, 0, rfl⟩, atoms_rep z hl.2⟩
end
end

section
open PySem PySem.W PyProof.Rows PySem.Spec PySem.SeqAt
set_option autoImplicit false
set_option linter.unusedVariables false
set_option maxRecDepth 100000
set_option tactic.hygienic false
noncomputable def pplace (l : List PV) (k : Int) : Option PV := if 0 ≤ k then l[k.toNat]? else if -(l.length : Int) ≤ k then l[(k + l.length).toNat]? else none
noncomputable def pplaceM (l : List PV) (k : Int) : PM PV := popt (pplace l k) fun v => pguard (k.natAbs < 2 ^ 62) (PM.pure v)
noncomputable def pitem : PV → PV → PM PV
  | .ref i, .int k => plist i fun l => pplaceM l k
  | .tup l, .int k => pplaceM l k
  | .str x, .int k => popt ((seqIndex? k x.length).bind (x.cps[·]?)) fun c => pguard (k.natAbs < 2 ^ 62) (PM.pure (.str ⟨#[c]⟩))
  | _, _ => pfail
noncomputable def ppick {α : Type} (l : List α) (lo hi st : Option Int) : List α :=
  (sliceRange (sliceBounds lo hi st l.length).1 (sliceBounds lo hi st l.length).2.1 (sliceBounds lo hi st l.length).2.2).filterMap (l[·]?)
noncomputable def tpick {α : Type} (l : List α) (lo hi st : Option Int) : List α :=
  (List.range (Builtin.Slice.slicePlaces (Builtin.Slice.sliceAdjust lo hi (st.getD 1) l.length).1 (Builtin.Slice.sliceAdjust lo hi (st.getD 1) l.length).2 (st.getD 1))).filterMap
    fun (k : Nat) => l[((Builtin.Slice.sliceAdjust lo hi (st.getD 1) l.length).1 + (k : Int) * (st.getD 1)).toNat]?
noncomputable def xpick (x : Str) (lo hi st : Option Int) : Str :=
  if (st.getD 1 == 1 && (Builtin.Str.strSliceIndices lo hi (st.getD 1) x.length).length == x.length) = true then x else ⟨((Builtin.Str.strSliceIndices lo hi (st.getD 1) x.length).filterMap (x.cps[·]?)).toArray⟩
noncomputable def ppart (p : PV) (f : Option Int → PM PV) : PM PV := match p with
  | .none => f none
  | .int i => f (some i)
  | _ => pfail
noncomputable def pcut (o a b c : PV) : PM PV := ppart a fun lo => ppart b fun hi => ppart c fun st => pguard (st ≠ some 0) (match o with
  | .ref i => plist i fun l => pguard (l.length ≤ sizeLine) (palloc (.list (ppick l lo hi st)))
  | .str x => pguard (x.length ≤ sizeLine) (PM.pure (.str (xpick x lo hi st)))
  | .tup l => pguard ((tpick l lo hi st).length ≤ sizeLine) (PM.pure (.tup (tpick l lo hi st)))
  | _ => pfail)
theorem All2.filterMap {α β : Type} {R : α → β → Prop} {as : List α} {bs : List β} (x : All2 R as bs) : ∀ (is : List Nat), All2 R (is.filterMap (as[·]?)) (is.filterMap (bs[·]?))
  | [] => .nil
  | i :: is => by
    have ih := x.filterMap is
    cases h : bs[i]? with
    | none =>
      have : as[i]? = none := by
        rw [List.getElem?_eq_none_iff] at h ⊢
        rw [x.length]; exact h
      simp only [List.filterMap_cons, h, this]; exact ih
    | some b =>
      obtain ⟨a, e, r⟩ := x.get h
      simp only [List.filterMap_cons, h, e]
      exact .cons r ih
theorem All2.filterMapF {α β : Type} {R : α → β → Prop} {as : List α} {bs : List β} (x : All2 R as bs) (f : Nat → Nat) : ∀ (is : List Nat), All2 R (is.filterMap fun k => as[f k]?) (is.filterMap fun k => bs[f k]?)
  | [] => .nil
  | i :: is => by
    have ih := x.filterMapF f is
    cases h : bs[f i]? with
    | none =>
      have : as[f i]? = none := by
        rw [List.getElem?_eq_none_iff] at h ⊢
        rw [x.length]; exact h
      simp only [List.filterMap_cons, h, this]; exact ih
    | some b =>
      obtain ⟨a, e, r⟩ := x.get h
      simp only [List.filterMap_cons, h, e]
      exact .cons r ih
theorem range_all {α : Type} (l : List α) : (List.range l.length).filterMap (fun k => l[k]?) = l := by
  induction l with
  | nil => rfl
  | cons a l ih =>
    rw [List.length_cons, List.range_succ_eq_map, List.filterMap_cons, List.filterMap_map]
    simp only [List.getElem?_cons_zero]
    congr 1
section
variable {W : Wd} {d : Nat} {env : Env} {G : GG}
set_option tactic.hygienic true in
theorem place_rep {R : Value → PV → Prop} {vs : List Value} {l : List PV} (z : All2 R vs l) {k : Int} {p : PV} (e : pplace l k = some p) : (0 ≤ k ∧ ∃ v, vs[k.toNat]? = some v ∧ R v p) ∨ (k < 0 ∧ -(vs.length : Int) ≤ k ∧ ∃ v, vs[(k + vs.length).toNat]? = some v ∧ R v p) := by
  unfold pplace at e
  split at e
  · rename_i h; exact .inl ⟨h, z.get e⟩
  · split at e
    · rename_i h1 h2
      rw [← z.length] at h2 e
      exact .inr ⟨by lia, h2, z.get e⟩
    · cases e
theorem pplaceM_inv {s : Shared} {ρ : Rh} {σ : PS} {Q : Value → Shared → Prop} {E : Value → Shared → Prop} {l : List PV} {k : Int} (hp : Post0 W env rrV s ρ Q E (pplaceM l k σ)) : ∃ p, pplace l k = some p ∧ k.natAbs < 2 ^ 62 ∧ Post0 W env rrV s ρ Q E (PM.pure p σ) := by
  obtain ⟨p, e, hp⟩ := popt_inv hp
  obtain ⟨h1, hp⟩ := pguard_inv hp
  exact ⟨p, e, h1, hp⟩
theorem seqIndex_pos {k : Int} {n : Nat} (h0 : 0 ≤ k) (h1 : k < n) : seqIndex? k n = some k.toNat := by
  have hn : ¬ k < 0 := by lia
  unfold seqIndex?
  simp only [hn, if_false]
  rw [if_pos (by simp only [Bool.and_eq_true, decide_eq_true_eq]; lia)]
theorem lt_of_get {α : Type} {l : List α} {i : Nat} {a : α} (h : l[i]? = some a) : i < l.length := by
  rcases Nat.lt_or_ge i l.length with q | q
  · exact q
  · rw [List.getElem?_eq_none q] at h; cases h

theorem o_item {value slice : Expr} {a b : Value} {pa pb : PV} (ga : ∀ h ρ, G.P h ρ → RepV h ρ a pa) (gb : ∀ h ρ, G.P h ρ → RepV h ρ b pb)
    (hs : ∀ o i, subscripted slice false o i = operate [o, i] (getItem o i)) : Sim W d env rrV G (subscriptTail value slice a b) (pitem pa pb) := by
  refine Sim.of0 ?_
  intro A s ρ σ Q E ha hr hg hp
  have ra := ga _ _ hg
  have rb := gb _ _ hg
  unfold pitem at hp
  split at hp
  · obtain ⟨l, e1, hp⟩ := plist_inv hp
    obtain ⟨p, e2, hk, hp⟩ := pplaceM_inv hp
    obtain ⟨x, rfl, _, vs, n, ho, z⟩ := ref_inv hr.cells ra e1
    obtain ⟨u, rfl⟩ := rb
    have hl : s.heap.IsList x vs.toArray := ⟨_, ho, rfl, n, rfl⟩
    rcases place_rep z e2 with ⟨h0, v, ev, rv⟩ | ⟨h0, h1, v, ev, rv⟩
    · exact tail_any hl.typeIs slot_list_getitem.lookup (wpAny_getItem_list hl h0 (by lia) (by simpa using ev) (post_val hr hp rv _)) (hs _ _)
    · exact tail_any hl.typeIs slot_list_getitem.lookup (wpAny_getItem_list_neg hl h0 (by simpa using h1) (by lia) (by simpa using ev) (post_val hr hp rv _)) (hs _ _)
  · obtain ⟨p, e2, hk, hp⟩ := pplaceM_inv hp
    obtain ⟨x, vs, rfl, ht, z⟩ := ra
    obtain ⟨u, rfl⟩ := rb
    rcases place_rep z e2 with ⟨h0, v, ev, rv⟩ | ⟨h0, h1, v, ev, rv⟩
    · have lt := lt_of_get ev
      exact tail_any ht.typeIs slot_tuple_getitem.lookup (PyProof.Rows.getItem_tuple ht (by lia) (by lia) (by rw [List.size_toArray]; exact seqIndex_pos h0 (by lia)) (by simpa using ev) (post_val hr hp rv.repV _)) (hs _ _)
    · exact tail_any ht.typeIs slot_tuple_getitem.lookup (PyProof.Rows.getItem_tuple ht (by lia) (by lia) (by rw [List.size_toArray]; exact seqIndex_neg h0 h1) (by simpa using ev) (post_val hr hp rv.repV _)) (hs _ _)
  · obtain ⟨t, rfl⟩ := ra; obtain ⟨u, rfl⟩ := rb
    obtain ⟨c, e, hp⟩ := popt_inv hp
    obtain ⟨hk, hp⟩ := pguard_inv hp
    refine tail_any (typeIs_str _ _ _) slot_str_getitem.lookup (PyProof.Rows.getItem_str ?_ e (post_val hr hp ⟨_, rfl⟩ _)) (hs _ _)
    simp only [Bool.or_eq_false_iff, decide_eq_false_iff_not]; lia
  · exact hp.elim
theorem s_item {v i : Expr} {pos : Pos} {p q : PM PV} (hv : SE W d env v p) (hi : SE W d env i q) (hs : ∀ o x, subscripted i false o x = operate [o, x] (getItem o x)) : SE W d env (.Subscript v i pos) (PM.bind p fun a => PM.bind q fun b => pitem a b) := by
  intro G
  rw [eval_Subscript]
  exact Sim.bind (hv G) fun a pa => Sim.bind (Sim.holding (hi _)) fun b pb => Sim.stand (o_item (value := v) (slice := i) (fun _ _ g => g.1.2) (fun _ _ g => g.2) hs)

noncomputable def SP (W : Wd) (d : Nat) (env : Env) (e : Option Expr) (p : PM PV) : Prop := ∀ G, Sim W d env rrV G (valueOrNone (evalOpt e env)) p
theorem sp_none : SP W d env none (PM.pure .none) := fun G => Sim.pure (R := rrV) fun _ _ _ => rfl
theorem sp_some {e : Expr} {p : PM PV} (h : SE W d env e p) : SP W d env (some e) p := h
theorem ppart_inv {s : Shared} {ρ : Rh} {σ : PS} {Q : Value → Shared → Prop} {E : Value → Shared → Prop} {p : PV} {f : Option Int → PM PV} {v : Value} {h : Heap} (r : RepV h ρ v p) (hp : Post0 W env rrV s ρ Q E (ppart p f σ)) : ∃ o u, v = partValue u ∧ u.map (·.1) = o ∧ IsPart v o ∧ Post0 W env rrV s ρ Q E (f o σ) := by
  cases p with
  | none => cases r; exact ⟨none, none, rfl, rfl, .none, hp⟩
  | int i => obtain ⟨t, rfl⟩ := r; exact ⟨some i, some (i, t), rfl, rfl, .int i t, hp⟩
  | _ => exact hp.elim
theorem slicePart {prog : Program} {w : World} {A : Around} {E : Value → Shared → Prop} {s : Shared} {v : Value} {o : Option Int} {Q : Option Int → Shared → Prop} (pt : IsPart v o) (h : Q o s) : wpAny (model prog w) A (Builtin.Slice.slicePartIndex v) Q E s := by
  cases pt with
  | none => exact slicePart_none h
  | int i t => exact slicePart_int h
theorem sliceApplied_any {prog : Program} {w : World} {A : Around} {E : Value → Shared → Prop} {s : Shared} {sl : Addr} {vl vu vs : Value} {lo hi st : Option Int} {n : Nat} {Q : Int × Int × Nat → Shared → Prop} (hs : s.heap.IsSliceOf sl vl vu vs)
    (pl : IsPart vl lo) (pu : IsPart vu hi) (ps : IsPart vs st) (h0 : st ≠ some 0)
    (h : Q ((Builtin.Slice.sliceAdjust lo hi (st.getD 1) n).1, st.getD 1, Builtin.Slice.slicePlaces (Builtin.Slice.sliceAdjust lo hi (st.getD 1) n).1 (Builtin.Slice.sliceAdjust lo hi (st.getD 1) n).2 (st.getD 1)) s) :
    wpAny (model prog w) A (Builtin.Slice.sliceApplied (.ref sl) (pure (n : Int))) Q E s := by
  obtain ⟨os, hos, hcs, hds⟩ := id hs
  unfold Builtin.Slice.sliceApplied Builtin.Slice.sliceFields
  refine wpAny_bind (wpAny_bind (wpAny_field hos hds (x := vl) rfl (wpAny_bind (wpAny_field hos hds (x := vu) rfl (wpAny_bind (wpAny_field hos hds (x := vs) rfl (wpAny_pure ?_)))))))
  refine wpAny_bind (slicePart ps ?_)
  have hz : ¬ ((st.getD 1 == 0) = true) := by
    cases st with
    | none => decide
    | some k => intro e; exact h0 (by rw [beq_iff_eq] at e; exact congrArg some e)
  show wpAny _ _ (if (st.getD 1 == 0) = true then _ else _) _ _ s
  rw [if_neg hz]
  exact wpAny_bind (slicePart pl (wpAny_bind (slicePart pu (wpAny_bind (wpAny_pure (wpAny_pure h))))))
set_option tactic.hygienic true in
theorem o_cut {value : Expr} {lo hi st : Option Expr} {sp pos : Pos} {o a b c : Value} {po pa pb pc : PV} (go : ∀ h ρ, G.P h ρ → RepV h ρ o po) (ga : ∀ h ρ, G.P h ρ → RepV h ρ a pa) (gb : ∀ h ρ, G.P h ρ → RepV h ρ b pb) (gc : ∀ h ρ, G.P h ρ → RepV h ρ c pc) :
    Sim W d env rrV G (holding [o] (newFields "slice" [a, b, c]) >>= fun i => standAt pos >>= fun _ => subscriptTail value (.Slice lo hi st sp) o i) (pcut po pa pb pc) := by
  refine Sim.of0 ?_
  intro A s ρ σ Q E ha hr hg hp
  have ro := go _ _ hg
  have ra := ga _ _ hg
  have rb := gb _ _ hg
  have rc := gc _ _ hg
  unfold pcut at hp
  obtain ⟨x, u1, eu1, em1, p1, hp⟩ := ppart_inv ra hp
  obtain ⟨y, u2, eu2, em2, p2, hp⟩ := ppart_inv rb hp
  obtain ⟨z, u3, eu3, em3, p3, hp⟩ := ppart_inv rc hp
  obtain ⟨h0, hp⟩ := pguard_inv hp
  unfold newFields
  refine wpAny_bind (wpAny_holding (wpAny_newObj_type (wpAny_bind (wpAny_standAt ?_)) (by show 3 ≤ sizeLine + 2; rw [sizeLine_eq]; omega)))
  have hs : ∀ (v w : Value), subscripted (.Slice lo hi st sp) false v w = operate (match st with | none => [w, v] | some _ => [v, w]) (getItem v w) := by
    intro v w; cases st <;> rfl
  have k := Keeps.push (h := s.heap) { cls := .type "slice", data := .fields #[a, b, c] }
  have R1 := hr.keeps k
  have hp1 := hp.trans (s₁ := { s with heap := s.heap.push { cls := .type "slice", data := .fields #[a, b, c] } }) rfl (Ext0.keeps k)
  have hsl := Heap.IsSliceOf.new s.heap a b c
  cases po with
  | ref i =>
    obtain ⟨l, e1, hp1⟩ := plist_inv hp1
    obtain ⟨hsz, hp1⟩ := pguard_inv hp1
    obtain ⟨x', rfl, _, vs, n, ho, zz⟩ := ref_inv R1.cells (ro.stb (k.stb .refl)) e1
    have hl : (s.heap.push { cls := .type "slice", data := .fields #[a, b, c] }).IsList x' vs.toArray := ⟨_, ho, rfl, n, rfl⟩
    refine tail_any (s := { s with heap := s.heap.push { cls := .type "slice", data := .fields #[a, b, c] } }) hl.typeIs slot_list_getitem.lookup (wpAny_getItem_list_slice hl hsl p1 p2 p3 h0 ?_ (by rw [List.size_toArray, zz.length]; exact hsz)) (hs _ _)
    have e : slicePick vs.toArray x y z = (ppick vs x y z).toArray := by
      unfold slicePick ppick
      simp
    rw [e]
    refine post_list R1 hp1 ?_ s.toks
    unfold ppick
    rw [zz.length]
    exact zz.filterMap _
  | str t =>
    obtain ⟨hsz, hp1⟩ := pguard_inv hp1
    obtain ⟨t', rfl⟩ := ro
    subst eu1 eu2 eu3
    refine tail_any (s := { s with heap := s.heap.push { cls := .type "slice", data := .fields #[partValue u1, partValue u2, partValue u3] } }) (typeIs_str _ _ _) slot_str_getitem.lookup (wpAny_getItem_str_slice (l := u1) (u := u2) (st := u3) ?_ ?_ ?_) (hs _ _)
    · exact ⟨_, Heap.get?_push_size _ rfl, rfl, rfl⟩
    · rw [em3]
      cases z with
      | none => rfl
      | some k => show (k == 0) = false; rw [beq_eq_false_iff_ne]; intro e; exact h0 (by rw [e])
    · unfold sliceMade slicePicked
      rw [em1, em2, em3]
      unfold xpick at hp1
      split
      · rename_i hc
        rw [if_pos hc] at hp1
        exact post_val R1 hp1 ⟨_, rfl⟩ _
      · rename_i hc
        rw [if_neg hc] at hp1
        refine ⟨?_, post_val R1 hp1 ⟨_, rfl⟩ _⟩
        have h0' : z.getD 1 ≠ 0 := by
          cases z with
          | none => decide
          | some k => intro e; exact h0 (congrArg some e)
        show (List.filterMap _ _).toArray.size ≤ sizeLine
        rw [List.size_toArray]
        exact Nat.le_trans (Nat.le_trans (List.length_filterMap_le _ _) (sliceIndicesBy_le _ _ _ h0' t.length)) hsz
  | tup l =>
    obtain ⟨hsz, hp1⟩ := pguard_inv hp1
    obtain ⟨t, vs, rfl, ht, zz⟩ := ro
    have ht1 := k.tup ht
    obtain ⟨os, hos, hcs, hds⟩ := id hsl
    refine tail_any (s := { s with heap := s.heap.push { cls := .type "slice", data := .fields #[a, b, c] } }) ht1.typeIs slot_tuple_getitem.lookup ?_ (hs _ _)
    unfold getItem
    try with_reducible refine wpAny_holding ?_
    first | refine wpAny_bind (wpAny_pure ?_) | skip
    refine wpAny_bind (wpAny_sequenceKey ht1.typeIs (by decide) ?_)
    refine wpAny_bind (wpAny_callSpecial?_slot (name := Str.ofString "__getitem__") ht1.typeIs slot_tuple_getitem
      (wpAny_call_entry slot_tuple_getitem ht1.typeIs entry_tuple_getitem ?_ (args_tuple_getitem _ _)))
    show wpAny _ _ (Builtin.Tuple.tupleItemsOf (.ref t) >>= _) _ _ _
    refine wpAny_bind (tupleItemsOf_ ht1 ?_)
    refine wpAny_bind (wpAny_typeOf (T := "slice") ⟨os, hos, hcs⟩ ?_)
    rw [if_pos (by decide)]
    refine wpAny_bind (sliceApplied_any hsl p1 p2 p3 h0 ?_)
    have esz : (vs.toArray.size : Int) = (l.length : Int) := by rw [List.size_toArray, zz.length]
    have eL : ∀ lo n, ((List.range n).filterMap fun (k : Nat) => vs.toArray[(lo + (k : Int) * z.getD 1).toNat]?) = (List.range n).filterMap fun (k : Nat) => vs[(lo + (k : Int) * z.getD 1).toNat]? := by
      intro lo n; simp
    dsimp only
    rw [esz, List.size_toArray, zz.length]
    simp only [eL]
    have zt : All2 (RepA ρ) ((List.range (Builtin.Slice.slicePlaces (Builtin.Slice.sliceAdjust x y (z.getD 1) l.length).1 (Builtin.Slice.sliceAdjust x y (z.getD 1) l.length).2 (z.getD 1))).filterMap
      fun (k : Nat) => vs[((Builtin.Slice.sliceAdjust x y (z.getD 1) l.length).1 + (k : Int) * (z.getD 1)).toNat]?) (tpick l x y z) := zz.filterMapF _ _
    have fin : ∀ (A' : Around), wpAny (model W.prog W.w) A' (Builtin.Tuple.tupleExact ((List.range (Builtin.Slice.slicePlaces (Builtin.Slice.sliceAdjust x y (z.getD 1) l.length).1 (Builtin.Slice.sliceAdjust x y (z.getD 1) l.length).2 (z.getD 1))).filterMap
      fun (k : Nat) => vs[((Builtin.Slice.sliceAdjust x y (z.getD 1) l.length).1 + (k : Int) * (z.getD 1)).toNat]?).toArray >>= fun v => ret v) (fun fin s' => ∃ v, fin = Fin.done (Flow.ret v) ∧ wpAny (model W.prog W.w) A (pure v) Q E s') E
        { s with heap := s.heap.push { cls := .type "slice", data := .fields #[a, b, c] } } := by
      intro A'
      refine wpAny_bind (m := Builtin.Tuple.tupleExact _) (wpAny_newObj_type (wpAny_pure ⟨_, rfl, wpAny_pure ?_⟩) (by
        show (List.filterMap _ _).toArray.size ≤ sizeLine
        rw [List.size_toArray, zt.length]; exact hsz))
      refine post_push R1 hp1 ?_ s.toks
      exact ⟨_, _, rfl, ⟨_, Heap.get?_push_size _ rfl, rfl, 0, rfl⟩, zt⟩
    split
    · rename_i hc
      simp only [Bool.and_eq_true, beq_iff_eq] at hc
      obtain ⟨⟨c1, c2⟩, c3⟩ := hc
      have et : tpick l x y z = l := by
        unfold tpick
        rw [c3, c1, c2]
        have : (fun (k : Nat) => l[((0 : Int) + (k : Int) * 1).toNat]?) = fun k => l[k]? := by
          funext k
          have : ((0 : Int) + (k : Int) * 1).toNat = k := by omega
          rw [this]
        rw [this]; exact range_all l
      refine wpAny_bind (wpAny_bind (wpAny_typeOf ht1.typeIs (wpAny_pure ?_)))
      rw [if_pos (by decide)]
      refine wpAny_bind (wpAny_rule (wpAny_pure ⟨_, rfl, wpAny_pure ?_⟩))
      rw [et] at hp1
      exact post_val R1 hp1 ⟨_, vs, rfl, ht1, zz⟩ _
    · exact fin _
  | _ => exact hp1.elim
theorem arm_Slice (lower upper step : Option Expr) (pos : Pos) : eval (.Slice lower upper step pos) env = (do
    let l ← valueOrNone (evalOpt lower env)
    let u ← holding [l] (valueOrNone (evalOpt upper env))
    let s ← holding [l, u] (valueOrNone (evalOpt step env))
    newFields "slice" [l, u, s]) := rfl
theorem s_cut {v : Expr} {lo hi st : Option Expr} {sp pos : Pos} {p a b c : PM PV} (hv : SE W d env v p) (ha : SP W d env lo a) (hb : SP W d env hi b) (hc : SP W d env st c) :
    SE W d env (.Subscript v (.Slice lo hi st sp) pos) (PM.bind p fun o => PM.bind a fun x => PM.bind b fun y => PM.bind c fun z => pcut o x y z) := by
  intro G
  rw [eval_Subscript, arm_Slice]
  refine Sim.bind (hv G) fun o po => ?_
  refine Sim.eq (t' := holding [o] (valueOrNone (evalOpt lo env)) >>= fun l => holding [o] (holding [l] (valueOrNone (evalOpt hi env))) >>= fun u => holding [o] (holding [l, u] (valueOrNone (evalOpt st env))) >>= fun s =>
    holding [o] (newFields "slice" [l, u, s]) >>= fun i => standAt pos >>= fun _ => subscriptTail v (.Slice lo hi st sp) o i) ?_ ?_ rfl
  · refine Sim.bind (Sim.holding (ha _)) fun l pl => Sim.bind (Sim.holding (Sim.holding (hb _))) fun u pu => Sim.bind (Sim.holding (Sim.holding (hc _))) fun s ps => ?_
    exact o_cut (fun _ _ g => g.1.1.1.2) (fun _ _ g => g.1.1.2) (fun _ _ g => g.1.2) (fun _ _ g => g.2)
  · have hb : ∀ {α β : Type} (m : Sem α) (f : α → Sem β), holding [o] (m >>= f) = (holding [o] m >>= fun a => holding [o] (f a)) := fun m f => PySem.holding_bind [o] m f
    simp only [hb, bind_assoc]
    rfl
end
end

section
open PySem PySem.W PyProof.Rows PySem.Spec PySem.SeqAt
set_option autoImplicit false
set_option linter.unusedVariables false
set_option maxRecDepth 100000
set_option tactic.hygienic false
noncomputable def KwRel (h : Heap) (ρ : Rh) : List (Str × Value) → List (String × PV) → Prop := All2 fun x y => x.1 = Str.ofString y.1 ∧ RepV h ρ x.2 y.2
noncomputable def rrA : RR Args (List PV × List (String × PV)) := ⟨fun h ρ a b => All2 (RepV h ρ) a.pos b.1 ∧ KwRel h ρ a.kw b.2, fun x r => ⟨r.1.mono fun _ _ y => y.stb x, r.2.mono fun _ _ y => ⟨y.1, y.2.stb x⟩⟩⟩
noncomputable def noStar (es : List Expr) : Bool := es.all fun e => !isStarred e
noncomputable def SA (W : Wd) (d : Nat) (env : Env) (es : List Expr) (ks : List Keyword) (p : PM (List PV × List (String × PV))) : Prop :=
  ∀ G f pos, Sim W d env rrA G (evalArgs f true (backTo pos (starEach es env)) (backToKw pos (keywordEach ks env))) p
section
variable {W : Wd} {d : Nat} {env : Env} {G : GG}
theorem noStar_any {es : List Expr} {pos : Pos} (h : noStar es = true) : (backTo pos (starEach es env)).any (·.1) = false := by
  induction es with
  | nil => rfl
  | cons e es ih =>
    simp only [noStar, List.all_cons, Bool.and_eq_true] at h
    have e1 : starEach (e :: es) env = (false, eval e env) :: starEach es env := star_cons (by simpa using h.1)
    rw [e1]
    show (false || (backTo pos (starEach es env)).any (·.1)) = false
    rw [ih h.2]; rfl
theorem sa_pos {es : List Expr} {ps : PM (List PV)} (h : SEs W d env es ps) (hn : noStar es = true) : SA W d env es [] (PM.bind ps fun l => PM.pure (l, [])) := by
  intro G f pos
  cases es with
  | nil =>
    refine Sim.eq (t' := spliced (backTo pos (starEach [] env)) >>= fun vs => pure (⟨vs, []⟩ : Args)) (Sim.bind (h G pos) fun vs l => Sim.pure (R := rrA) (b := (l, [])) fun _ _ g => ⟨g.2, .nil⟩) rfl rfl
  | cons e es =>
    simp only [noStar, List.all_cons, Bool.and_eq_true] at hn
    have e1 : starEach (e :: es) env = (false, eval e env) :: starEach es env := star_cons (by simpa using hn.1)
    intro A s ρ σ Q E ha hr hg hp
    have z := h G pos
    rw [e1] at z ⊢
    refine Calls.evalArgs_plain (z A s ρ σ _ _ ha hr hg ?_)
    unfold PM.bind at hp
    match hq : ps σ, hp with
    | some (.ok b, σ₁), hp => exact fun a h' ρ' tk r1 e1 l q => hp ⟨a, []⟩ h' ρ' tk r1 e1 l ⟨q, .nil⟩
    | some (.exc, σ₁), hp => exact hp
theorem sa_kw1 {es : List Expr} {n : String} {e : Expr} {kp : Pos} {ps : PM (List PV)} {p : PM PV} (h : SEs W d env es ps) (he : SE W d env e p) (hn : noStar es = true) :
    SA W d env es [⟨some (Str.ofString n), e, kp⟩] (PM.bind ps fun l => PM.bind p fun v => PM.pure (l, [(n, v)])) := by
  intro G f pos
  have key : ∀ (vs : List Value) (l : List PV) (G' : GG), (∀ h ρ, G'.P h ρ → All2 (RepV h ρ) vs l) → ∀ (A : Around) (s : Shared) (ρ : Rh) (σ : PS) (Q : Args → Shared → Prop) (E : Value → Shared → Prop), AOk W d A s ρ → Rel W env s.heap ρ σ → G'.P s.heap ρ →
      Post W env rrA s ρ Q E ((PM.bind p fun v => PM.pure (l, [(n, v)])) σ) → wpAny (model W.prog W.w) A (evalAll ((backToKw pos (keywordEach [⟨some (Str.ofString n), e, kp⟩] env)).map (·.2))) (fun ks s₂ => Q ⟨vs, ((backToKw pos (keywordEach [⟨some (Str.ofString n), e, kp⟩] env)).filterMap (·.1)).zip ks⟩ s₂) E s := by
    intro vs l G' hv A s ρ σ Q E ha hr hg hp
    refine wpAny_evalAll_cons (wpAny_bind (he G' A s ρ σ _ _ ha hr hg ?_))
    unfold PM.bind at hp
    match hq : p σ, hp with
    | some (.ok b, σ₁), hp =>
      exact fun a h' ρ' tk r1 e1 lt q => wpAny_bind (wpAny_standAt (wpAny_pure (wpAny_evalAll_nil (hp ⟨vs, [(Str.ofString n, a)]⟩ h' ρ' tk r1 e1 lt ⟨(hv _ _ hg).mono fun _ _ y => y.stb (hr.stb e1), .cons ⟨rfl, q⟩ .nil⟩))))
    | some (.exc, σ₁), hp => exact hp
  cases es with
  | nil =>
    intro A s ρ σ Q E ha hr hg hp
    refine evalArgs_kw_nil rfl ?_
    have hz : ∀ (A : Around), wpAny (model W.prog W.w) A (spliced (backTo pos (starEach [] env))) (fun vs s₁ => wpAny (model W.prog W.w) A (evalAll ((backToKw pos (keywordEach [⟨some (Str.ofString n), e, kp⟩] env)).map (·.2))) (fun ks s₂ => Q ⟨vs, ((backToKw pos (keywordEach [⟨some (Str.ofString n), e, kp⟩] env)).filterMap (·.1)).zip ks⟩ s₂) E s₁) E s → wpAny (model W.prog W.w) A (evalAll ((backToKw pos (keywordEach [⟨some (Str.ofString n), e, kp⟩] env)).map (·.2))) (fun ks s₂ => Q ⟨[], ((backToKw pos (keywordEach [⟨some (Str.ofString n), e, kp⟩] env)).filterMap (·.1)).zip ks⟩ s₂) E s := fun A x Γ p hΓ => x Γ p hΓ Γ p hΓ
    refine hz A (h G pos A s ρ σ _ _ ha hr hg ?_)
    unfold PM.bind at hp
    match hq : ps σ, hp with
    | some (.ok b, σ₁), hp => exact fun a h' ρ' tk r1 e1 lt q => key a b ⟨fun h ρ => All2 (RepV h ρ) a b, fun x y => y.mono fun _ _ z => z.stb x⟩ (fun _ _ g => g) A _ ρ' σ₁ Q E (ha.ext r1 e1 lt) r1 q (hp.trans rfl e1)
    | some (.exc, σ₁), hp => exact hp
  | cons e' es =>
    simp only [noStar, List.all_cons, Bool.and_eq_true] at hn
    have e1 : starEach (e' :: es) env = (false, eval e' env) :: starEach es env := star_cons (by simpa using hn.1)
    intro A s ρ σ Q E ha hr hg hp
    have z := h G pos
    rw [e1] at z ⊢
    refine evalArgs_kw rfl (z A s ρ σ _ _ ha hr hg ?_)
    unfold PM.bind at hp
    match hq : ps σ, hp with
    | some (.ok b, σ₁), hp => exact fun a h' ρ' tk r1 e1 lt q => key a b ⟨fun h ρ => All2 (RepV h ρ) a b, fun x y => y.mono fun _ _ z => z.stb x⟩ (fun _ _ g => g) A _ ρ' σ₁ Q E (ha.ext r1 e1 lt) r1 q (hp.trans rfl e1)
    | some (.exc, σ₁), hp => exact hp
end

noncomputable abbrev FSpec := List PV → List (String × PV) → List PO → Option (Res PV × List PO)
noncomputable def FPost (W : Wd) (s : Shared) (ρ : Rh) (Q : Value → Shared → Prop) (E : Value → Shared → Prop) : Option (Res PV × List PO) → Prop
  | none => False
  | some (.ok v, H') => ∀ x h' ρ' tk, Cells W h' ρ' H' → Ext W [] s.heap ρ h' ρ' → (ρ'.t ≤ tk ∧ 0 < tk) → RepV h' ρ' x v → Q x { s with heap := h', toks := tk }
  | some (.exc, H') => ∀ x h' ρ' tk, Cells W h' ρ' H' → Ext W [] s.heap ρ h' ρ' → (ρ'.t ≤ tk ∧ 0 < tk) → ExcAt W s.heap h' x → E x { s with heap := h', toks := tk }
noncomputable def FHolds (W : Wd) (d : Nat) (f : Value) (spec : FSpec) : Prop :=
  ∀ (A : Around) (s : Shared) (ρ : Rh) (H : List PO) (args : List Value) (kw : List (Str × Value)) (pargs : List PV) (pkw : List (String × PV)) (Q : Value → Shared → Prop) (E : Value → Shared → Prop),
    AOk W d A s ρ → Cells W s.heap ρ H → All2 (RepV s.heap ρ) args pargs → KwRel s.heap ρ kw pkw → FPost W s ρ Q E (spec pargs pkw H) → wpAny (model W.prog W.w) A (call f args kw) Q E s
noncomputable def pcall (spec : FSpec) (args : List PV) (kw : List (String × PV)) : PM PV := fun σ => match spec args kw σ.H with
  | some (r, H') => some (r, { σ with H := H' })
  | none => none
section
variable {W : Wd} {d : Nat} {env : Env} {G : GG}
theorem ns_slots {h h' : Heap} {a : Addr} {m : Str → Option Value} (n : h.Ns a m) (k : ∀ o, h.get? a = some o → ∃ sl, h'.get? a = some { o with slots := sl }) : h'.Ns a m := by
  obtain ⟨o, es, ep, e, r⟩ := n
  obtain ⟨sl, e'⟩ := k o e
  exact ⟨_, es, ep, e', r⟩
theorem cell_slots {h h' : Heap} {a : Addr} {v : Option Value} (n : h.IsCell a v) (k : ∀ o, h.get? a = some o → ∃ sl, h'.get? a = some { o with slots := sl }) : h'.IsCell a v := by
  obtain ⟨o, e, r⟩ := n
  obtain ⟨sl, e'⟩ := k o e
  exact ⟨_, e', r⟩
theorem Rel.fpIn {h : Heap} {ρ : Rh} {σ : PS} (R : Rel W env h ρ σ) {a : Addr} (m : a ∈ fp env) : ∃ o, h.get? a = some o := by
  rcases List.mem_cons.mp m with rfl | m
  · obtain ⟨m, ⟨o', es, ep, e', d', _⟩, _⟩ := R.lk; exact ⟨o', e'⟩
  · obtain ⟨y, hy, rfl⟩ := List.mem_map.mp m
    obtain ⟨v, o', e', d'⟩ := R.isc y hy
    exact ⟨o', e'⟩
theorem Rel.after {h h' : Heap} {ρ ρ' : Rh} {σ : PS} {H' : List PO} (R : Rel W env h ρ σ) (c : Cells W h' ρ' H') (e : Ext W [] h ρ h' ρ') : Rel W env h' ρ' { σ with H := H' } := by
  have kp : ∀ a ∈ fp env, ∀ o, h.get? a = some o → ∃ sl, h'.get? a = some { o with slots := sl } := fun a m o ho => e.keep a o ho (R.fpn a m).2 (by simp)
  have st := R.cells.stb e
  obtain ⟨m, hn, hl⟩ := R.lk
  refine ⟨R.eok, c, ⟨m, ns_slots hn (kp _ (.head _)), fun n p q => ?_⟩, fun a ma => ⟨(R.fpn a ma).1, fun q => ?_⟩, R.fpd, R.apart, fun x hx => ?_⟩
  · obtain ⟨v, r, na⟩ := hl n p q
    refine ⟨v, r.stb st, ?_⟩
    rcases na with na | ⟨na, cc, e1, e2⟩
    · exact .inl na
    · exact .inr ⟨na, cc, e1, cell_slots e2 (kp _ (.tail _ (List.mem_map.mpr ⟨_, mem_of_lookup e1, rfl⟩)))⟩
  · rcases e.new a q with q | q
    · exact (R.fpn a ma).2 q
    · obtain ⟨o, z⟩ := R.fpIn ma; rw [z] at q; cases q
  · obtain ⟨v, z⟩ := R.isc x hx
    exact ⟨v, cell_slots z (kp _ (.tail _ (List.mem_map.mpr ⟨x, hx, rfl⟩)))⟩
theorem sim_call {f : Value} {spec : FSpec} (F : FHolds W d f spec) {args : List Value} {kw : List (Str × Value)} {pargs : List PV} {pkw : List (String × PV)} (ga : ∀ h ρ, G.P h ρ → All2 (RepV h ρ) args pargs) (gk : ∀ h ρ, G.P h ρ → KwRel h ρ kw pkw) :
    Sim W d env rrV G (call f args kw) (pcall spec pargs pkw) := by
  intro A s ρ σ Q E ha hr hg hp
  refine F A s ρ σ.H args kw pargs pkw Q E ha hr.cells (ga _ _ hg) (gk _ _ hg) ?_
  unfold pcall at hp
  match h : spec pargs pkw σ.H, hp with
  | some (.ok v, H'), hp => exact fun x h' ρ' tk c e l r => hp x h' ρ' tk (hr.after c e) (e.mono fun _ q => by simp at q) l r
  | some (.exc, H'), hp => exact fun x h' ρ' tk c e l r => hp x h' ρ' tk (hr.after c e) (e.mono fun _ q => by simp at q) l r

end
end

section
open PySem PySem.W PyProof.Rows PySem.Spec PySem.SeqAt
set_option autoImplicit false
set_option linter.unusedVariables false
set_option maxRecDepth 100000
set_option tactic.hygienic false
noncomputable def pstr {α : Type} (a : PV) (f : Str → PM α) : PM α := match a with
  | .str x => f x
  | _ => pfail
section
variable {W : Wd} {d : Nat} {env : Env} {G : GG}
theorem s_pstr {α β : Type} {R : RR α β} {G : GG} {t : Sem α} {a : PV} {f : Str → PM β} (h : ∀ x, a = .str x → Sim W d env R G t (f x)) : Sim W d env R G t (pstr a f) := by
  cases a with
  | str x => exact h x rfl
  | _ => exact s_fail

theorem s_meth_ {o : Expr} {name : Str} {apos pos : Pos} {es : List Expr} {ks : List Keyword} {p : PM PV} {g : PV → PM PV} (ho : SE W d env o p)
    (hg : ∀ (G : GG) (a : Value) (pa : PV), (∀ h ρ, G.P h ρ → RepV h ρ a pa) → Sim W d env rrV G (getMethod a name (do return (← importBound o env).getD true) >>= fun fm => callWith pos fm.1 fm.2 (backTo pos (starEach es env)) (backToKw pos (keywordEach ks env))) (g pa))
    (hb : ∀ t, attributeBase o name env t = t) (hf : methodCallForm (es.length + ks.length) (backTo pos (starEach es env)) (backToKw pos (keywordEach ks env)) = true) (hpos : (apos.endLine == pos.line) = true) :
    SE W d env (.Call (.Attribute o name apos) es ks pos) (PM.bind p g) := by
  intro G
  have e : eval (.Call (.Attribute o name apos) es ks pos) env = (attributeBase o name env (eval o env) >>= fun ov => standAt apos.atName >>= fun _ =>
    methodCall o name apos pos env ov (es.length + ks.length) (backTo pos (starEach es env)) (backToKw pos (keywordEach ks env))) := rfl
  rw [e, hb]
  refine Sim.bind (ho G) fun a pa => Sim.stand ?_
  unfold methodCall calleeOf
  rw [hf]
  simp only [if_true]
  have e2 : methodCallPos true o env apos pos = pure pos := by
    unfold methodCallPos
    rw [hpos]; rfl
  have z := hg (G.add rrV a pa) a pa (fun _ _ g => g.2)
  intro A s ρ σ Q E ha hr hgg hp
  have y := z A s ρ σ Q E ha hr hgg hp
  intro Γ p' hΓ
  have x := y Γ p' hΓ
  rw [Sem.wp_bind'] at x ⊢
  rw [Sem.wp_holding]
  refine Sem.wp_mono _ Γ _ (fun fm p₁ s₁ h₁ => ?_) (fun _ _ _ h => h) _ _ x
  rw [e2]
  exact h₁
noncomputable def rrArgs {β : Type} (R : RR (List Value) β) : RR Args β := ⟨fun h ρ a b => a.kw = [] ∧ R.rel h ρ a.pos b, fun x r => ⟨r.1, R.stb x r.2⟩⟩
noncomputable def SS {β : Type} (W : Wd) (d : Nat) (env : Env) (R : RR (List Value) β) (es : List Expr) (q : PM β) : Prop := ∀ G pos, Sim W d env R G (spliced (backTo pos (starEach es env))) q
theorem sa_posR {β : Type} {R : RR (List Value) β} {es : List Expr} {ps : PM β} (h : SS W d env R es ps) (hn : noStar es = true) (G : GG) (f : Value) (pos : Pos) :
    Sim W d env (rrArgs R) G (evalArgs f true (backTo pos (starEach es env)) []) ps := by
  cases es with
  | nil =>
    intro A s ρ σ Q E ha hr hg hp
    refine wpAny_bind (m := spliced (backTo pos (starEach [] env))) (f := fun vs => pure (⟨vs, []⟩ : Args)) (h G pos A s ρ σ _ _ ha hr hg ?_)
    match hq : ps σ, hp with
    | some (.ok b, σ₁), hp => exact fun a h' ρ' tk r1 e1 l q => wpAny_pure (hp ⟨a, []⟩ h' ρ' tk r1 e1 l ⟨rfl, q⟩)
    | some (.exc, σ₁), hp => exact hp
  | cons e es =>
    simp only [noStar, List.all_cons, Bool.and_eq_true] at hn
    have e1 : starEach (e :: es) env = (false, eval e env) :: starEach es env := star_cons (by simpa using hn.1)
    intro A s ρ σ Q E ha hr hg hp
    have z := h G pos
    rw [e1] at z ⊢
    refine Calls.evalArgs_plain (z A s ρ σ _ _ ha hr hg ?_)
    match hq : ps σ, hp with
    | some (.ok b, σ₁), hp => exact fun a h' ρ' tk r1 e1 l q => hp ⟨a, []⟩ h' ρ' tk r1 e1 l ⟨rfl, q⟩
    | some (.exc, σ₁), hp => exact hp
theorem wp_bm {β : Type} {R : RR (List Value) β} {a : Value} {name : Str} {id : String} {pl : Sem Bool} {es : List Expr} {pos : Pos} {q : PM β} {f : β → PM PV} {A : Around} {s : Shared} {ρ : Rh} {σ : PS} {Q : Value → Shared → Prop} {E : Value → Shared → Prop} (hes : SS W d env R es q) (hn : noStar es = true)
    (ha : AOk W d A s ρ) (hr : Rel W env s.heap ρ σ) (hg : G.P s.heap ρ) (hp : Post W env rrV s ρ Q E (PM.bind q f σ))
    (hgm : ∀ (Q : Value × List Value → Shared → Prop), Q (.builtin id, [a]) s → wpAny (model W.prog W.w) A (getMethod a name pl) Q E s)
    (hc : ∀ (vs : List Value) (l : β), Sim W d env rrV (G.add R vs l) (call (.builtin id) (a :: vs)) (f l)) :
    wpAny (model W.prog W.w) A (getMethod a name pl >>= fun fm => callWith pos fm.1 fm.2 (backTo pos (starEach es env)) (backToKw pos (keywordEach [] env))) Q E s := by
  refine wpAny_bind (hgm _ ?_)
  show wpAny _ _ (callWith pos (.builtin id) [a] (backTo pos (starEach es env)) []) _ _ _
  refine Calls.callWith_builtin (noStar_any hn) ?_
  refine sa_posR hes hn G (.builtin id) pos A s ρ σ _ _ ha hr hg ?_
  unfold PM.bind at hp
  match hq : q σ, hp with
  | some (.ok b, σ₁), hp =>
    intro x h₂ ρ₂ tk₂ r2 e2 l2 ra
    obtain ⟨ek, r1⟩ := ra
    rw [ek]
    exact hc x.pos b A _ ρ₂ σ₁ Q E (ha.ext r2 e2 l2) r2 ⟨G.stb (hr.stb e2) hg, r1⟩ (Post.trans (s := s) rfl e2 hp)
  | some (.exc, σ₁), hp => exact hp
theorem s_strmR {β : Type} {R : RR (List Value) β} {o : Expr} {name : Str} {id : String} {apos pos : Pos} {es : List Expr} {p : PM PV} {q : PM β} {f : Str → β → PM PV}
    (hgm : ∀ (A : Around) (x : Str) (t : Tok) (pl : Sem Bool) (Q : Value × List Value → Shared → Prop) (E : Value → Shared → Prop) (s : Shared), Q (.builtin id, [.str x t]) s → wpAny (model W.prog W.w) A (getMethod (.str x t) name pl) Q E s)
    (hc : ∀ (G : GG) (x : Str) (t : Tok) (vs : List Value) (l : β), (∀ h ρ, G.P h ρ → R.rel h ρ vs l) → Sim W d env rrV G (call (.builtin id) (.str x t :: vs)) (f x l))
    (ho : SE W d env o p) (hes : SS W d env R es q) (hn : noStar es = true)
    (hb : ∀ t, attributeBase o name env t = t) (hf : methodCallForm (es.length + 0) (backTo pos (starEach es env)) [] = true) (hpos : (apos.endLine == pos.line) = true) :
    SE W d env (.Call (.Attribute o name apos) es [] pos) (PM.bind p fun a => pstr a fun x => PM.bind q fun l => f x l) := by
  refine s_meth_ ho (fun G a pa ga => ?_) hb hf hpos
  refine s_pstr fun x hx => ?_
  subst hx
  refine Sim.under fun ⟨h, ρ, g⟩ => ?_
  obtain ⟨t, rfl⟩ := ga h ρ g
  exact fun A s ρ σ Q E ha hr hg hp => wp_bm hes hn ha hr hg hp (fun Q h => hgm A x t _ Q E s h) (fun vs l => hc _ x t vs l fun _ _ g => g.2)
noncomputable def StrM (W : Wd) (d : Nat) (env : Env) (name : Str) (f : Str → List PV → PM PV) : Prop :=
  ∀ {o : Expr} {apos pos : Pos} {es : List Expr} {p : PM PV} {q : PM (List PV)}, SE W d env o p → SEs W d env es q → noStar es = true → (∀ t, attributeBase o name env t = t) → methodCallForm (es.length + 0) (backTo pos (starEach es env)) [] = true → (apos.endLine == pos.line) = true →
    SE W d env (.Call (.Attribute o name apos) es [] pos) (PM.bind p fun a => pstr a fun x => PM.bind q fun l => f x l)
theorem s_strm {name : Str} {id : String} {f : Str → List PV → PM PV}
    (hgm : ∀ (A : Around) (x : Str) (t : Tok) (pl : Sem Bool) (Q : Value × List Value → Shared → Prop) (E : Value → Shared → Prop) (s : Shared), Q (.builtin id, [.str x t]) s → wpAny (model W.prog W.w) A (getMethod (.str x t) name pl) Q E s)
    (hc : ∀ (A : Around) (s : Shared) (ρ : Rh) (σ : PS) (Q : Value → Shared → Prop) (E : Value → Shared → Prop) (x : Str) (t : Tok) (vs : List Value) (l : List PV), Rel W env s.heap ρ σ → All2 (RepV s.heap ρ) vs l → Post0 W env rrV s ρ Q E (f x l σ) → wpAny (model W.prog W.w) A (call (.builtin id) (.str x t :: vs)) Q E s) :
    StrM W d env name f := by
  intro o apos pos es p q ho hes hn hb hf hpos
  refine s_strmR (R := rrL) hgm (fun G x t vs l gl => Sim.of0 ?_) ho hes hn hb hf hpos
  intro A s ρ σ Q E ha hr hg hp
  exact hc A s ρ σ Q E x t vs l hr (gl _ _ hg) hp

theorem one_inv {h : Heap} {ρ : Rh} {vs : List Value} {p : PV} (z : All2 (RepV h ρ) vs [p]) : ∃ v, vs = [v] ∧ RepV h ρ v p := by
  cases z with
  | cons r z => cases z; exact ⟨_, rfl, r⟩
theorem two_inv {h : Heap} {ρ : Rh} {vs : List Value} {p q : PV} (z : All2 (RepV h ρ) vs [p, q]) : ∃ v w, vs = [v, w] ∧ RepV h ρ v p ∧ RepV h ρ w q := by
  cases z with
  | cons r z => obtain ⟨w, rfl, r2⟩ := one_inv z; exact ⟨_, w, rfl, r, r2⟩
theorem nil_inv {h : Heap} {ρ : Rh} {vs : List Value} (z : All2 (RepV h ρ) vs []) : vs = [] := by
  cases z; rfl
noncomputable def mLower (x : Str) : List PV → PM PV
  | [] => pguard (x.length ≤ 5592405) (PM.pure (.str (Txt.lower x)))
  | _ => pfail
theorem s_lower : StrM W d env "lower" mLower := by
  refine s_strm (id := "str.lower") (fun A x t pl Q E s h => PySem.GM.lower h) (fun A s ρ σ Q E x t vs l hr z hp => ?_)
  unfold mLower at hp
  split at hp
  · rw [nil_inv z]
    obtain ⟨h1, hp⟩ := pguard_inv hp
    exact SCL.lower h1 fun _ => post_val hr hp ⟨_, rfl⟩ _
  · exact hp.elim
noncomputable def mStrip (x : Str) : List PV → PM PV
  | [.str y] => pguard (x.length ≤ sizeLine) (PM.pure (.str (Txt.stripChars x y)))
  | _ => pfail
theorem s_strip : StrM W d env "strip" mStrip := by
  refine s_strm (id := "str.strip") (fun A x t pl Q E s h => PySem.GM.strip h) (fun A s ρ σ Q E x t vs l hr z hp => ?_)
  unfold mStrip at hp
  split at hp
  · obtain ⟨v, rfl, u, rfl⟩ := one_inv z
    obtain ⟨h1, hp⟩ := pguard_inv hp
    exact SC.stripChars (fun t' k => post_val hr hp ⟨_, rfl⟩ _) h1
  · exact hp.elim
noncomputable def mIndex (x : Str) : List PV → PM PV
  | [.str y] => match Builtin.Str.occurrences x y 0 x.length 1 with
    | i :: _ => PM.pure (.int (i : Nat))
    | [] => pfail
  | _ => pfail
set_option tactic.hygienic true in
theorem s_index : StrM W d env "index" mIndex := by
  refine s_strm (id := "str.index") (fun A x t pl Q E s h => PySem.GM.index h) (fun A s ρ σ Q E x t vs l hr z hp => ?_)
  unfold mIndex at hp
  split at hp
  · obtain ⟨v, rfl, u, rfl⟩ := one_inv z
    rename_i y
    cases e : Builtin.Str.occurrences x y 0 x.length 1 with
    | cons i r => rw [e] at hp; exact SC.index e (post_val hr hp ⟨_, rfl⟩ _)
    | nil => rw [e] at hp; exact hp.elim
  · exact hp.elim
noncomputable def mPartition (x : Str) : List PV → PM PV
  | [.str y] => pguard ((y.length == 0) = false ∧ x.length ≤ sizeLine) (PM.pure (.tup [.str (Txt.partition x y).1, .str (Txt.partition x y).2.1, .str (Txt.partition x y).2.2]))
  | _ => pfail
set_option tactic.hygienic true in
theorem s_partition : StrM W d env "partition" mPartition := by
  refine s_strm (id := "str.partition") (fun A x t pl Q E s h => PySem.GM.partition h) (fun A s ρ σ Q E x t vs l hr z hp => ?_)
  unfold mPartition at hp
  split at hp
  · rename_i y
    obtain ⟨v, rfl, u, rfl⟩ := one_inv z
    obtain ⟨h1, hp⟩ := pguard_inv hp
    refine call_meets F.slot_str_partition (typeIs_str _ _ _) F.entry_str_partition (F.args_str_partition_2 _ _) (meets_str_partition x y t u h1.1 h1.2) ?_
    unfold Txt.partition at hp
    split
    · rename_i i r e
      rw [e] at hp
      refine post_push hr hp ?_ _
      exact ⟨_, _, rfl, ⟨_, Heap.get?_push_size _ rfl, rfl, 0, rfl⟩, .cons ⟨_, rfl⟩ (.cons ⟨_, rfl⟩ (.cons ⟨_, rfl⟩ .nil))⟩
    · rename_i e
      rw [e] at hp
      refine post_push hr hp ?_ _
      exact ⟨_, _, rfl, ⟨_, Heap.get?_push_size _ rfl, rfl, 0, rfl⟩, .cons ⟨_, rfl⟩ (.cons ⟨_, rfl⟩ (.cons ⟨_, rfl⟩ .nil))⟩
  · exact hp.elim
theorem strs_rep {h : Heap} {ρ : Rh} : ∀ l : List (Str × Tok), All2 (RepV h ρ) (strValues l) ((l.map (·.1)).map .str)
  | [] => .nil
  | (x, t) :: l => .cons ⟨t, rfl⟩ (strs_rep l)
end
end

section
open PySem PySem.W PyProof.Rows PySem.Spec PySem.SeqAt
set_option autoImplicit false
set_option linter.unusedVariables false
set_option maxRecDepth 100000
set_option tactic.hygienic false
section
variable {W : Wd} {d : Nat} {env : Env} {G : GG}

theorem RepO.moved {h h' : Heap} {ρ ρ' : Rh} {b : Addr} {o : PO} (st : Stb h ρ h' ρ') (e : ∀ x, h.get? b = some x → h'.get? b = some x) (r : RepO W h ρ b o) : RepO W h' ρ' b o := by
  cases o with
  | list l => obtain ⟨vs, n, q, z⟩ := r; exact ⟨vs, n, e _ q, z.mono fun _ _ y => y.stb st⟩
  | dct fs =>
    obtain ⟨es, n, m, q, hn, z, sz⟩ := r
    obtain ⟨o', es', ep, e', hr⟩ := hn
    exact ⟨es, n, m, e _ q, ⟨o', es', ep, e _ e', hr⟩, fun x => ⟨fun q y => by obtain ⟨v, e1, e2⟩ := (z x).1 q y; exact ⟨v, e1, e2.stb st⟩, (z x).2⟩, sz⟩
  | inst j => obtain ⟨dd, e1, e2⟩ := r; exact ⟨dd, st.pre _ _ e1, e _ e2⟩
theorem RepO.there {h : Heap} {ρ : Rh} {a : Addr} {o : PO} (r : RepO W h ρ a o) : ∃ x, h.get? a = some x := by
  cases o with
  | list l => obtain ⟨vs, n, q, z⟩ := r; exact ⟨_, q⟩
  | dct fs => obtain ⟨es, n, m, q, _⟩ := r; exact ⟨_, q⟩
  | inst j => obtain ⟨dd, e1, e2⟩ := r; exact ⟨_, e2⟩
theorem Cells.stbSet {h h' : Heap} {ρ : Rh} {H : List PO} {a : Addr} (c : Cells W h ρ H) (m : a ∈ ρ.a) (sb : ∀ b, b ≠ a → h'.get? b = h.get? b) : Stb h ρ h' ρ := by
  refine ⟨fun _ _ e => e, fun b its t => ?_, Nat.le_refl _⟩
  by_cases q : b = a
  · subst q; obtain ⟨_, _, _, _, r⟩ := c.get m; exact (r.noTup t).elim
  · obtain ⟨o, e, z⟩ := t; exact ⟨o, by rw [sb b q]; exact e, z⟩
theorem Cells.set {h h' : Heap} {ρ : Rh} {H : List PO} {i : Nat} {a : Addr} {o : PO} (c : Cells W h ρ H) (ei : ρ.a[i]? = some a) (sb : ∀ b, b ≠ a → h'.get? b = h.get? b) (r : RepO W h' ρ a o) : Cells W h' ρ (H.set i o) := by
  have st := c.stbSet (get_mem ei) sb
  refine ⟨fun b x e => ?_, by rw [List.length_set]; exact c.len, fun j b x e1 e2 => ?_, c.nd, c.new⟩
  · by_cases q : b = a
    · subst q; rw [c.new b (get_mem ei)] at e; cases e
    · rw [sb b q]; exact c.base b x e
  · by_cases q : j = i
    · subst q
      rw [ei] at e1; cases e1
      have hj : j < H.length := by rw [← c.len]; exact lt_of_get ei
      rw [List.getElem?_set_self hj] at e2; cases e2; exact r
    · rw [List.getElem?_set_ne (fun z => q z.symm)] at e2
      have hb : b ≠ a := fun z => q (c.nd j i a (z ▸ e1) ei)
      exact (c.cell j b x e1 e2).moved st fun y z => by rw [sb b hb]; exact z
theorem Rel.set {h h' : Heap} {ρ : Rh} {σ : PS} {i : Nat} {a : Addr} {o : PO} (R : Rel W env h ρ σ) (ei : ρ.a[i]? = some a) (sb : ∀ b, b ≠ a → h'.get? b = h.get? b) (r : RepO W h' ρ a o) : Rel W env h' ρ { σ with H := σ.H.set i o } := by
  have st := R.cells.stbSet (get_mem ei) sb
  have kp : ∀ b ∈ fp env, b ≠ a := fun b m e => (R.fpn b m).2 (e ▸ get_mem ei)
  have ks : ∀ b ∈ fp env, ∀ o, h.get? b = some o → ∃ sl, h'.get? b = some { o with slots := sl } := fun b m o ho => ⟨o.slots, by rw [sb b (kp b m)]; exact ho⟩
  obtain ⟨m, hn, hl⟩ := R.lk
  refine ⟨R.eok, R.cells.set ei sb r, ⟨m, ns_slots hn (ks _ (.head _)), fun n p q => ?_⟩, R.fpn, R.fpd, R.apart, fun x hx => ?_⟩
  · obtain ⟨v, r, na⟩ := hl n p q
    refine ⟨v, r.stb st, ?_⟩
    rcases na with na | ⟨na, cc, e1, e2⟩
    · exact .inl na
    · exact .inr ⟨na, cc, e1, cell_slots e2 (ks _ (.tail _ (List.mem_map.mpr ⟨_, mem_of_lookup e1, rfl⟩)))⟩
  · obtain ⟨v, z⟩ := R.isc x hx
    exact ⟨v, cell_slots z (ks _ (.tail _ (List.mem_map.mpr ⟨x, hx, rfl⟩)))⟩
theorem Ext0.set {X : List Addr} {h h' : Heap} {ρ : Rh} {a : Addr} {o : PO} (m : a ∈ ρ.a) (sb : ∀ b, b ≠ a → h'.get? b = h.get? b) (r : RepO W h' ρ a o) : Ext0 W X h ρ h' ρ := by
  refine ⟨⟨fun _ _ e => e, fun _ e => .inl e, fun b x e => ?_, fun b x e n1 n2 => ⟨x.slots, ?_, fun _ => rfl⟩, Nat.le_refl _⟩, rfl⟩
  · by_cases q : b = a
    · subst q; exact r.there
    · exact ⟨x, by rw [sb b q]; exact e⟩
  · have q : b ≠ a := fun z => n1 (z ▸ m)
    rw [sb b q]; exact e
noncomputable def pset (i : Nat) (o : PO) (v : PV) : PM PV := fun σ => some (.ok v, { σ with H := σ.H.set i o })
theorem post_set {s : Shared} {ρ : Rh} {σ : PS} {Q : Value → Shared → Prop} {E : Value → Shared → Prop} {i : Nat} {a : Addr} {o : PO} {p : PV} {v : Value} {h' : Heap} (R : Rel W env s.heap ρ σ) (hp : Post0 W env rrV s ρ Q E (pset i o p σ)) (ei : ρ.a[i]? = some a) (sb : ∀ b, b ≠ a → h'.get? b = s.heap.get? b) (r : RepO W h' ρ a o) (rv : RepV h' ρ v p) (tk : Nat) :
    Q v { s with heap := h', toks := tk } :=
  hp v h' ρ tk (R.set ei sb r) (Ext0.set (get_mem ei) sb r) rv

noncomputable def ListM (W : Wd) (d : Nat) (env : Env) (name : Str) (f : Nat → List PV → PM PV) : Prop :=
  ∀ {o : Expr} {apos pos : Pos} {es : List Expr} {p : PM PV} {q : PM (List PV)}, SE W d env o p → SEs W d env es q → noStar es = true → (∀ t, attributeBase o name env t = t) → methodCallForm (es.length + 0) (backTo pos (starEach es env)) [] = true → (apos.endLine == pos.line) = true →
    SE W d env (.Call (.Attribute o name apos) es [] pos) (PM.bind p fun a => match a with
      | .ref i => plist i fun _ => PM.bind q fun l => f i l
      | _ => pfail)
set_option tactic.hygienic true in
theorem s_plist {α β : Type} {R : RR α β} {t : Sem α} {i : Nat} {f : PM β} (h : ∀ A s ρ σ Q E l, AOk W d A s ρ → Rel W env s.heap ρ σ → G.P s.heap ρ → σ.H[i]? = some (.list l) → Post W env R s ρ Q E (f σ) → wpAny (model W.prog W.w) A t Q E s) : Sim W d env R G t (plist i fun _ => f) := by
  intro A s ρ σ Q E ha hr hg hp
  unfold plist at hp
  split at hp
  · rename_i l e; exact h A s ρ σ Q E l ha hr hg e hp
  · exact hp.elim
theorem s_listm {name : Str} {id : String} {f : Nat → List PV → PM PV} (slot : Slot "list" name id) (hty : typeOf (.builtin id) = pure (.type "method_descriptor"))
    (hc : ∀ (A : Around) (s : Shared) (ρ : Rh) (σ : PS) (Q : Value → Shared → Prop) (E : Value → Shared → Prop) (i : Nat) (a : Addr) (vs : List Value) (l : List PV), AOk W d A s ρ → Rel W env s.heap ρ σ → ρ.a[i]? = some a → All2 (RepV s.heap ρ) vs l → Post0 W env rrV s ρ Q E (f i l σ) → wpAny (model W.prog W.w) A (call (.builtin id) (.ref a :: vs)) Q E s) :
    ListM W d env name f := by
  intro o apos pos es p q ho hes hn hb hf hpos
  refine s_meth_ ho (fun G a pa ga => ?_) hb hf hpos
  cases pa with
  | ref i =>
    refine s_plist fun A s ρ σ Q E l ha hr hg e hp => ?_
    obtain ⟨x, rfl, ex, vs, n, hx, _⟩ := ref_inv hr.cells (ga _ _ hg) e
    refine wp_bm (G := G.add rrV (.ref x) (.ref i)) (id := id) hes hn ha hr ⟨hg, ga _ _ hg⟩ hp (fun Q h => getMethod_builtin ⟨_, hx, rfl⟩ PySem.F.plainAttrs_list slot hty (fun a e => by cases e; exact ⟨_, hx, rfl⟩) h) (fun ws l => Sim.of0 ?_)
    · intro A s ρ σ Q E ha hr hg hp
      obtain ⟨y, ey, e2⟩ := hg.1.2
      cases ey
      exact hc A s ρ σ Q E i x ws l ha hr e2 hg.2 hp
  | _ => exact s_fail
noncomputable def mAppend (i : Nat) : List PV → PM PV
  | [p] => plist i fun l => pguard (l.length ≤ sizeLine) (pset i (.list (l ++ [p])) .none)
  | _ => pfail
theorem s_append : ListM W d env "append" mAppend := by
  refine s_listm PySem.F.slot_list_append PySem.F.type_list_append fun A s ρ σ Q E i a vs l ha hr ei z hp => ?_
  unfold mAppend at hp
  split at hp
  · obtain ⟨v, rfl, rv⟩ := one_inv z
    obtain ⟨l, e1, hp⟩ := plist_inv hp
    obtain ⟨h1, hp⟩ := pguard_inv hp
    obtain ⟨ws, n, hw, zw⟩ := hr.cells.cell i a _ ei e1
    refine append_at hw (fun h' sb ho => ?_) (by rw [List.size_toArray, zw.length]; exact h1)
    have st := hr.cells.stbSet (get_mem ei) sb.2
    refine post_set hr hp ei sb.2 ?_ rfl s.toks
    exact ⟨ws ++ [v], n + 1, by rw [ho]; simp, (zw.mono fun _ _ y => y.stb st).append (.cons (rv.stb st) .nil)⟩
  · exact hp.elim
end
end

section
open PySem PySem.W PyProof.Rows PySem.Spec PySem.SeqAt
set_option autoImplicit false
set_option linter.unusedVariables false
set_option maxRecDepth 100000
set_option tactic.hygienic false
section
variable {W : Wd} {d : Nat} {env : Env} {G : GG}

theorem post_keep {s : Shared} {ρ : Rh} {σ : PS} {Q : Value → Shared → Prop} {E : Value → Shared → Prop} {v : Value} {p : PV} {h' : Heap} (R : Rel W env s.heap ρ σ) (hp : Post0 W env rrV s ρ Q E (PM.pure p σ)) (k : Keeps s.heap h') (r : RepV h' ρ v p) (tk : Nat) : Q v { s with heap := h', toks := tk } :=
  hp v h' ρ tk (R.keeps k) (Ext0.keeps k) r

noncomputable def pstrs : List PV → Option (List Str)
  | [] => some []
  | .str x :: r => (pstrs r).map (x :: ·)
  | _ => none
theorem pstrs_rep {h : Heap} {ρ : Rh} {vs : List Value} {l : List PV} {xs : List Str} (z : All2 (RepV h ρ) vs l) (e : pstrs l = some xs) : ∃ ps : List (Str × Tok), vs = strValues ps ∧ ps.map (·.1) = xs := by
  induction z generalizing xs with
  | nil => cases e; exact ⟨[], rfl, rfl⟩
  | @cons a b as bs r _ ih =>
    cases b with
    | str x =>
      unfold pstrs at e
      obtain ⟨ys, e1, rfl⟩ := Option.map_eq_some_iff.mp e
      obtain ⟨ps, rfl, rfl⟩ := ih e1
      obtain ⟨t, rfl⟩ := r
      exact ⟨(x, t) :: ps, rfl, rfl⟩
    | _ => cases e
noncomputable def pints : List PV → Option (List Int)
  | [] => some []
  | .int x :: r => (pints r).map (x :: ·)
  | _ => none
theorem pints_rep {h : Heap} {ρ : Rh} {vs : List Value} {l : List PV} {xs : List Int} (z : All2 (RepV h ρ) vs l) (e : pints l = some xs) : IntsAre vs xs := by
  induction z generalizing xs with
  | nil => cases e; exact .nil
  | @cons a b as bs r _ ih =>
    cases b with
    | int x =>
      unfold pints at e
      obtain ⟨ys, e1, rfl⟩ := Option.map_eq_some_iff.mp e
      obtain ⟨t, rfl⟩ := r
      exact .cons _ _ (ih e1)
    | _ => cases e
open Builtin.Str in
noncomputable def mSplit (x : Str) : List PV → PM PV
  | [.str y] => pguard ((y.length == 0) = false ∧ x.length ≤ sizeLine ∧ (partsBetween x (occurrences x y 0 x.length (x.length + 1)) y.length).length ≤ sizeLine) (palloc (.list ((Txt.split x y).map .str)))
  | _ => pfail
open Builtin.Str in
set_option tactic.hygienic true in
theorem s_split : StrM W d env "split" mSplit := by
  refine s_strm (id := "str.split") (fun A x t pl Q E s h => PySem.GM.split h) (fun A s ρ σ Q E x t vs l hr z hp => ?_)
  unfold mSplit at hp
  split at hp
  · rename_i y
    obtain ⟨v, rfl, u, rfl⟩ := one_inv z
    obtain ⟨⟨hy, hx, hn⟩, hp⟩ := pguard_inv hp
    have fin : ∀ (ps : List (Str × Tok)) (tk : Nat), ps.map (·.1) = Txt.split x y → Q (.ref s.heap.objs.size) { s with heap := s.heap.push { cls := .type "list", data := .seq (strValues ps).toArray }, toks := tk } := fun ps tk e => by
      rw [← e] at hp
      exact post_list hr hp (strs_rep ps) tk
    cases h1 : (decide (x.length < y.length) || decide (strKind x < strKind y))
    · cases hf : (occurrences x y 0 x.length (x.length + 1)).isEmpty
      · refine call_meets F.slot_str_split (typeIs_str _ _ _) F.entry_str_split (F.args_str_split_2 _ _) (meets_str_split_sep x y t u h1 hy hf hx hn) ?_
        show Q _ { s with toks := _, heap := s.heap.push { cls := .type "list", data := .seq (strsFrom s.toks (partsBetween x (occurrences x y 0 x.length (x.length + 1)) y.length)).toArray } }
        rw [strsFrom_eq]
        exact fin (numbered s.toks _) _ ((numbered_texts _ _).trans ((if_neg (ne_true_of_eq_false h1)).trans (if_neg (ne_true_of_eq_false hf))).symm)
      · exact call_meets F.slot_str_split (typeIs_str _ _ _) F.entry_str_split (F.args_str_split_2 _ _) (meets_str_split_not_found x y t u h1 hy hf)
          (fin [(x, t)] s.toks ((if_neg (ne_true_of_eq_false h1)).trans (if_pos hf)).symm)
    · exact call_meets F.slot_str_split (typeIs_str _ _ _) F.entry_str_split (F.args_str_split_2 _ _) (meets_str_split_cannot_occur x y t u h1)
        (fin [(x, t)] s.toks (if_pos h1).symm)
  · exact hp.elim
noncomputable def mJoin (x : Str) : List PV → PM PV
  | [.ref i] => plist i fun l => popt (pstrs l) fun xs => pguard (JoinOk x xs = true) (PM.pure (.str (Txt.join x xs)))
  | _ => pfail
set_option tactic.hygienic true in
theorem s_join : StrM W d env "join" mJoin := by
  refine s_strm (id := "str.join") (fun A x t pl Q E s h => PySem.GM.join h) (fun A s ρ σ Q E x t vs l hr z hp => ?_)
  unfold mJoin at hp
  split at hp
  · rename_i i
    obtain ⟨v, rfl, rv⟩ := one_inv z
    obtain ⟨l, e1, hp⟩ := plist_inv hp
    obtain ⟨xs, e2, hp⟩ := popt_inv hp
    obtain ⟨h1, hp⟩ := pguard_inv hp
    obtain ⟨a, rfl, _, ws, n, ho, zw⟩ := ref_inv hr.cells rv e1
    obtain ⟨ps, rfl, e3⟩ := pstrs_rep zw e2
    exact SC.join ⟨_, ho, rfl, n, rfl⟩ e3 h1 fun t' k => post_val hr hp ⟨_, rfl⟩ _
  · exact hp.elim
theorem Rel.tup {h : Heap} {ρ : Rh} {σ : PS} {t : Nat} (R : Rel W env h ρ σ) (ht : ρ.t ≤ t) : Rel W env h ⟨ρ.a, t⟩ σ := by
  have p : Pre ρ ⟨ρ.a, t⟩ := ⟨fun _ _ e => e, ht⟩
  have st : Stb h ρ h ⟨ρ.a, t⟩ := Keeps.refl.stb p
  obtain ⟨m, hn, hl⟩ := R.lk
  refine ⟨R.eok, ⟨R.cells.base, R.cells.len, fun i a o e1 e2 => (R.cells.cell i a o e1 e2).keeps .refl p, R.cells.nd, R.cells.new⟩, ⟨m, hn, fun n q e => ?_⟩, R.fpn, R.fpd, R.apart, R.isc⟩
  obtain ⟨v, r, na⟩ := hl n q e
  exact ⟨v, r.stb st, na⟩
theorem s_clit {x : Str} {k : Nat} {pos : Pos} : SE W d env (.Constant (.str x) k pos) (PM.pure (.lit x)) := by
  intro G A s ρ σ Q E ha hr hg hp
  refine wpAny_mkText ?_
  refine hp _ s.heap ⟨ρ.a, s.toks + 1⟩ _ (hr.tup (Nat.le_trans ha.tok (Nat.le_succ _))) ⟨fun _ _ e => e, fun _ e => .inl e, fun b o e => ⟨o, e⟩, fun b o e _ _ => ⟨o.slots, e, fun _ => rfl⟩, Nat.le_trans ha.tok (Nat.le_succ _)⟩ ⟨Nat.le_refl _, Nat.succ_pos _⟩ ⟨s.toks, rfl, ha.pos, Nat.lt_succ_self _⟩
noncomputable def rrT2 : RR (List Value) (Str × Str) := ⟨fun _ _ vs b => ∃ u v : Tok, vs = [.str b.1 u, .str b.2 v] ∧ u ≠ 0 ∧ v ≠ 0 ∧ u ≠ v, fun _ r => r⟩
noncomputable def plitOf (n : String) (y : Str) : PM (Str × Str) := fun σ => match σ.loc.lookup n with
  | some (.lit z) => some (.ok (y, z), σ)
  | _ => none
theorem ss_two {R : RR (List Value) (Str × Str)} {e1 e2 : Expr} {q : PM (Str × Str)} (h1 : isStarred e1 = false) (h2 : isStarred e2 = false)
    (h : ∀ A s ρ σ (Q : List Value → Shared → Prop) E, AOk W d A s ρ → Rel W env s.heap ρ σ → Post0 W env R s ρ Q E (q σ) → wpAny (model W.prog W.w) A (eval e1 env) (fun a s => wpAny (model W.prog W.w) A (eval e2 env) (fun b s => Q [a, b] s) E s) E s) : SS W d env R [e1, e2] q := by
  intro G pos
  refine Sim.of0 ?_
  intro A s ρ σ Q E ha hr hg hp
  have s1 : starEach [e1, e2] env = [(false, eval e1 env), (false, eval e2 env)] := by
    rw [star_cons h1, star_cons h2]; rfl
  rw [s1]
  refine wpAny_bind (wpAny_mono (h A s ρ σ Q E ha hr hp) (fun a s' ha => ?_) fun _ _ x => x)
  refine wpAny_bind (wpAny_pure (wpAny_bind (wpAny_holding ?_)))
  refine wpAny_bind (wpAny_mono ha (fun b s'' hb => ?_) fun _ _ x => x)
  exact wpAny_bind (wpAny_pure (wpAny_bind (wpAny_holding (wpAny_pure (wpAny_pure (wpAny_pure hb))))))

set_option tactic.hygienic true in
theorem ss_cname {y : Str} {k : Nat} {p1 p2 : Pos} {n : String} (hd : (Str.ofString n == ("__debug__" : Str)) = false := by decide) (hc : (Str.ofString n == ("__classdict__" : Str)) = false := by decide) :
    SS W d env rrT2 [.Constant (.str y) k p1, .Name (Str.ofString n) p2] (plitOf n y) := by
  refine ss_two rfl rfl fun A s ρ σ Q E ha hr hp => ?_
  refine wpAny_mkText ?_
  unfold plitOf at hp
  split at hp
  · rename_i z hq
    obtain ⟨m, hn, hl⟩ := hr.lk
    obtain ⟨x, ⟨t, rfl, t0, t1⟩, na⟩ := hl n _ hq
    have hne : s.toks ≠ t := fun e => Nat.lt_irrefl t (Nat.lt_of_lt_of_le t1 (e ▸ ha.tok))
    have z := hp [.str y s.toks, .str z t] s.heap ρ (s.toks + 1) hr .refl ⟨s.toks, t, rfl, Nat.ne_of_gt ha.pos, Nat.ne_of_gt t0, hne⟩
    refine wpAny_Name ?_ hd
    rcases na with ⟨k, e⟩ | ⟨k | k, c, e1, e2⟩
    · exact wpAny_loadName_local hr.eok.kind k hn e z
    · exact wpAny_loadName_cell hr.eok.kind k e1 e2 z
    · exact wpAny_loadName_free hr.eok.kind k e1 e2 z hc
  · exact hp.elim
theorem ss_cc {y z : Str} {k1 k2 : Nat} {p1 p2 : Pos} : SS W d env rrT2 [.Constant (.str y) k1 p1, .Constant (.str z) k2 p2] (PM.pure (y, z)) := by
  refine ss_two rfl rfl fun A s ρ σ Q E ha hr hp => ?_
  refine wpAny_mkText (wpAny_mkText ?_)
  exact hp _ s.heap ρ (s.toks + 1 + 1) hr .refl ⟨s.toks, s.toks + 1, rfl, Nat.ne_of_gt ha.pos, Nat.succ_ne_zero _, Nat.ne_of_lt (Nat.lt_succ_self _)⟩
noncomputable def mReplace (x : Str) (yz : Str × Str) : PM PV := pguard (x.length + (x.length + 1) * yz.2.length ≤ 16777216) (PM.pure (.str (Txt.replace x yz.1 yz.2)))
theorem nobook_keeps {h h' : Heap} (k : Keeps h h') (n : NoneBooked h) : NoneBooked h' := by
  obtain ⟨mc, hn, e⟩ := n; exact ⟨mc, hn.keeps k, e⟩
theorem s_replace {o : Expr} {apos pos : Pos} {es : List Expr} {p : PM PV} {q : PM (Str × Str)} (ho : SE W d env o p) (hes : SS W d env rrT2 es q) (hn : noStar es = true)
    (hb : ∀ t, attributeBase o "replace" env t = t) (hf : methodCallForm (es.length + 0) (backTo pos (starEach es env)) [] = true) (hpos : (apos.endLine == pos.line) = true) :
    SE W d env (.Call (.Attribute o "replace" apos) es [] pos) (PM.bind p fun a => pstr a fun x => PM.bind q fun l => mReplace x l) := by
  refine s_strmR (id := "str.replace") (fun A x t pl Q E s h => PySem.GM.replace h) (fun G x t vs l gl => Sim.of0 ?_) ho hes hn hb hf hpos
  intro A s ρ σ Q E ha hr hg hp
  obtain ⟨u, v, rfl, h1, h2, h3⟩ := gl _ _ hg
  unfold mReplace at hp
  obtain ⟨h4, hp⟩ := pguard_inv hp
  exact SC.replaceA h1 h2 h3 h4 (fun t' k => post_val hr hp ⟨_, rfl⟩ _) (nobook_keeps hr.base W.nobook)

noncomputable def mLIndex (i : Nat) : List PV → PM PV
  | [.int k] => plist i fun l => popt (pints l) fun ns => pguard (k ∈ ns ∧ ns.length ≤ 1000) (PM.pure (.int (ns.idxOf k : Nat)))
  | _ => pfail
set_option tactic.hygienic true in
theorem s_lindex : ListM W d env "index" mLIndex := by
  refine s_listm PySem.F.slot_list_index PySem.F.type_list_index fun A s ρ σ Q E i a vs l ha hr ei z hp => ?_
  unfold mLIndex at hp
  split at hp
  · rename_i k
    obtain ⟨v, rfl, t, rfl⟩ := one_inv z
    obtain ⟨l, e1, hp⟩ := plist_inv hp
    obtain ⟨ns, e2, hp⟩ := popt_inv hp
    obtain ⟨⟨h1, h2⟩, hp⟩ := pguard_inv hp
    obtain ⟨ws, n, hw, zw⟩ := hr.cells.cell i a _ ei e1
    have hi := pints_rep zw e2
    have hlen := hi.length
    have hj : ns.idxOf k < ns.length := List.idxOf_lt_length_iff.mpr h1
    refine call_meets PySem.F.slot_list_index ⟨_, hw, rfl⟩ PySem.F.entry_list_index (PySem.F.args_list_index_2 _ _)
      (MeetsSeq.list_index a ws.toArray n (.int k t) (isInt k) (fun y hy => eq_isInt k t hi y (by simpa using hy)) (ns.idxOf k) (by simpa [hlen] using hj) (by omega) ?_ ?_) ⟨hw, ?_⟩
    · show isInt k ws[ns.idxOf k] = true
      rw [isInt_at k hi _ (by omega) hj]
      simpa using List.getElem_idxOf hj
    · intro j hjs hlt
      show isInt k ws[j] = false
      rw [isInt_at k hi j (by simpa using hjs) (by omega)]
      exact ne_of_lt_idxOf hlt _
    · exact post_val hr hp ⟨_, rfl⟩ _
  · exact hp.elim

theorem s_bcall {x : Str} {px pos : Pos} {id : String} {es : List Expr} {q : PM (List PV)} {f : List PV → PM PV} (hx : env.kindOf x = some .globalImplicit) (e : nsIn W.K mainGlobals x = some none) (eb : bootBuiltins x = some (.builtin id))
    (hes : SEs W d env es q) (hn : noStar es = true) (hc : ∀ (G : GG) (vs : List Value) (l : List PV), (∀ h ρ, G.P h ρ → All2 (RepV h ρ) vs l) → Sim W d env rrV G (call (.builtin id) vs) (f l))
    (hnm : x ≠ "__name__" := by decide) (hd : (x == ("__debug__" : Str)) = false := by decide) : SE W d env (.Call (.Name x px) es [] pos) (PM.bind q f) := by
  intro G
  rw [arm_eval_Call_Name']
  intro A s ρ σ Q E ha hr hg hp
  refine wpAny_bind (s_bname (d := d) (p := .bi id) hx e eb (fun _ _ => rfl) hnm hd A s ρ σ _ _ ha hr hg ?_)
  intro g h' ρ' tk r1 e1 l1 rf
  cases rf
  show wpAny _ _ (callWith pos (.builtin id) [] (backTo pos (starEach es env)) []) _ _ _
  refine Calls.callWith_builtin (noStar_any hn) ?_
  refine sa_posR (R := rrL) hes hn G (.builtin id) pos A _ ρ' σ _ _ (ha.ext r1 e1 l1) r1 (G.stb (hr.stb e1) hg) ?_
  have hp := Post.trans (s := s) (s₁ := { s with heap := h', toks := tk }) rfl e1 hp
  unfold PM.bind at hp
  match hq : q σ, hp with
  | some (.ok b, σ₁), hp =>
    intro x h₂ ρ₂ tk₂ r2 e2 l2 ra
    obtain ⟨ek, r3⟩ := ra
    rw [ek]
    exact hc ⟨fun h ρ => All2 (RepV h ρ) x.pos b, fun x y => rrL.stb x y⟩ x.pos b (fun _ _ g => g) A _ ρ₂ σ₁ Q E ((ha.ext r1 e1 l1).ext r2 e2 l2) r2 r3 (Post.trans (s := { s with heap := h', toks := tk }) rfl e2 hp)
  | some (.exc, σ₁), hp => exact hp
theorem s_tcall {x : Str} {px pos : Pos} {T : String} {es : List Expr} {q : PM (List PV)} {f : List PV → PM PV} (hx : env.kindOf x = some .globalImplicit) (e : nsIn W.K mainGlobals x = some none) (eb : bootBuiltins x = some (.type T))
    (hes : SEs W d env es q) (hn : noStar es = true) (hc : ∀ (G : GG) (vs : List Value) (l : List PV), (∀ h ρ, G.P h ρ → All2 (RepV h ρ) vs l) → Sim W d env rrV G (call (.type T) vs) (f l))
    (hnm : x ≠ "__name__" := by decide) (hd : (x == ("__debug__" : Str)) = false := by decide) : SE W d env (.Call (.Name x px) es [] pos) (PM.bind q f) := by
  intro G
  rw [arm_eval_Call_Name']
  intro A s ρ σ Q E ha hr hg hp
  refine wpAny_bind (s_bname (d := d) (p := .typ T) hx e eb (fun _ _ => rfl) hnm hd A s ρ σ _ _ ha hr hg ?_)
  intro g h' ρ' tk r1 e1 l1 rf
  cases rf
  show wpAny _ _ (callWith pos (.type T) [] (backTo pos (starEach es env)) []) _ _ _
  refine PySem.callWith_type (noStar_any hn) ?_
  refine sa_posR (R := rrL) hes hn G (.type T) pos A _ ρ' σ _ _ (ha.ext r1 e1 l1) r1 (G.stb (hr.stb e1) hg) ?_
  have hp := Post.trans (s := s) (s₁ := { s with heap := h', toks := tk }) rfl e1 hp
  unfold PM.bind at hp
  match hq : q σ, hp with
  | some (.ok b, σ₁), hp =>
    intro x h₂ ρ₂ tk₂ r2 e2 l2 ra
    obtain ⟨ek, r3⟩ := ra
    rw [ek]
    exact hc ⟨fun h ρ => All2 (RepV h ρ) x.pos b, fun x y => rrL.stb x y⟩ x.pos b (fun _ _ g => g) A _ ρ₂ σ₁ Q E ((ha.ext r1 e1 l1).ext r2 e2 l2) r2 r3 (Post.trans (s := { s with heap := h', toks := tk }) rfl e2 hp)
  | some (.exc, σ₁), hp => exact hp
end
end

section
open PySem PySem.W PyProof.Rows PySem.Spec PySem.SeqAt
set_option autoImplicit false
set_option linter.unusedVariables false
set_option maxRecDepth 100000
set_option tactic.hygienic false
section
variable {W : Wd} {d : Nat} {env : Env} {G : GG}
noncomputable def CallOk (W : Wd) (d : Nat) (env : Env) (v : Value) (f : List PV → PM PV) : Prop := ∀ (G : GG) (vs : List Value) (l : List PV), (∀ h ρ, G.P h ρ → All2 (RepV h ρ) vs l) → Sim W d env rrV G (call v vs) (f l)
theorem CallOk.mk {v : Value} {f : List PV → PM PV} (h : ∀ (A : Around) (s : Shared) (ρ : Rh) (σ : PS) (Q : Value → Shared → Prop) (E : Value → Shared → Prop) (vs : List Value) (l : List PV), AOk W d A s ρ → Rel W env s.heap ρ σ → All2 (RepV s.heap ρ) vs l → Post0 W env rrV s ρ Q E (f l σ) → wpAny (model W.prog W.w) A (call v vs) Q E s) : CallOk W d env v f :=
  fun G vs l gl => Sim.of0 fun A s ρ σ Q E ha hr hg hp => h A s ρ σ Q E vs l ha hr (gl _ _ hg) hp
noncomputable def fInt : List PV → PM PV
  | [.int n] => PM.pure (.int n)
  | [.str x] => popt (PySem.intText? x) fun n => pguard (x.length ≤ 640) (PM.pure (.int n))
  | _ => pfail
theorem c_int : CallOk W d env (.type "int") fInt := CallOk.mk fun A s ρ σ Q E vs l ha hr z hp => by
  unfold fInt at hp
  split at hp
  · obtain ⟨v, rfl, t, rfl⟩ := one_inv z
    exact call_int_int (post_val hr hp ⟨_, rfl⟩ _)
  · obtain ⟨v, rfl, t, rfl⟩ := one_inv z
    obtain ⟨n, e, hp⟩ := popt_inv hp
    obtain ⟨h1, hp⟩ := pguard_inv hp
    exact PySem.W.KIN.call_text e h1 (post_val hr hp ⟨_, rfl⟩ _)
  · exact hp.elim
noncomputable def fStr : List PV → PM PV
  | [.int n] => pguard (n.natAbs < 2 ^ 64) (PM.pure (.str (Str.ofString (toString n))))
  | _ => pfail
set_option tactic.hygienic true in
theorem c_str : CallOk W d env (.type "str") fStr := CallOk.mk fun A s ρ σ Q E vs l ha hr z hp => by
  unfold fStr at hp
  split at hp
  · rename_i n
    obtain ⟨v, rfl, t, rfl⟩ := one_inv z
    obtain ⟨h1, hp⟩ := pguard_inv hp
    refine P.str_of_int ?_ (post_val hr hp ⟨_, rfl⟩ _)
    by_cases h0 : n.natAbs = 0
    · rw [h0]; decide
    · exact Nat.lt_trans ((Nat.log2_lt h0).mpr h1) (by decide)
  · exact hp.elim
noncomputable def fType : List PV → PM PV
  | [.str _] => PM.pure (.typ "str")
  | [.ref i] => plist i fun _ => PM.pure (.typ "list")
  | _ => pfail
theorem c_type : CallOk W d env (.type "type") fType := CallOk.mk fun A s ρ σ Q E vs l ha hr z hp => by
  unfold fType at hp
  split at hp
  · obtain ⟨v, rfl, t, rfl⟩ := one_inv z
    exact call_type_of (typeIs_str _ _ _) (by decide) (post_val hr hp rfl _)
  · obtain ⟨v, rfl, r⟩ := one_inv z
    obtain ⟨l, e, hp⟩ := plist_inv hp
    obtain ⟨a, rfl, _, ws, n, ho, zw⟩ := ref_inv hr.cells r e
    exact call_type_of (Tx := "list") ⟨_, ho, rfl⟩ (by decide) (post_val hr hp rfl _)
  · exact hp.elim
noncomputable def fLen : List PV → PM PV
  | [.str x] => pguard (x.length ≤ sizeLine) (PM.pure (.int x.length))
  | [.ref i] => plist i fun l => pguard (l.length ≤ sizeLine) (PM.pure (.int l.length))
  | _ => pfail
theorem c_len : CallOk W d env (.builtin "len") fLen := CallOk.mk fun A s ρ σ Q E vs l ha hr z hp => by
  unfold fLen at hp
  split at hp
  · obtain ⟨v, rfl, t, rfl⟩ := one_inv z
    obtain ⟨h1, hp⟩ := pguard_inv hp
    exact P.len_str (by rw [sizeLine_eq] at h1; lia) (post_val hr hp ⟨_, rfl⟩ _)
  · obtain ⟨v, rfl, r⟩ := one_inv z
    obtain ⟨l, e, hp⟩ := plist_inv hp
    obtain ⟨h1, hp⟩ := pguard_inv hp
    obtain ⟨a, rfl, _, ws, n, ho, zw⟩ := ref_inv hr.cells r e
    have hl : ws.length = l.length := zw.length
    refine len_list (items := ws.toArray) ⟨_, ho, rfl, n, rfl⟩ (by rw [List.size_toArray, hl]; rw [sizeLine_eq] at h1; lia) ?_
    rw [List.size_toArray, hl]
    exact post_val hr hp ⟨_, rfl⟩ _
  · exact hp.elim
noncomputable def fSum : List PV → PM PV
  | [.ref i] => plist i fun l => popt (pints l) fun ns => PM.pure (.int ns.sum)
  | _ => pfail
theorem c_sum : CallOk W d env (.builtin "sum") fSum := CallOk.mk fun A s ρ σ Q E vs l ha hr z hp => by
  unfold fSum at hp
  split at hp
  · obtain ⟨v, rfl, r⟩ := one_inv z
    obtain ⟨l, e, hp⟩ := plist_inv hp
    obtain ⟨ns, e2, hp⟩ := popt_inv hp
    obtain ⟨a, rfl, _, ws, n, ho, zw⟩ := ref_inv hr.cells r e
    have hi := pints_rep zw e2
    obtain ⟨xs, ex⟩ := hi.allInts.items
    have hs : (numsOf ws.toArray.toList).sum = ns.sum := by rw [show ws.toArray.toList = ws from rfl, hi.numsOf]
    rw [ex, nums_intItems] at hs
    refine sum_intListG (xs := xs) ha.handled (by rw [← ex]; exact ⟨_, ho, rfl, n, rfl⟩) fun h' tk t' hk => ?_
    rw [preSum_eq, List.take_of_length_le (by simp), hs]
    exact post_keep hr hp hk ⟨_, rfl⟩ _
  · exact hp.elim
noncomputable def fChr : List PV → PM PV
  | [.int i] => pguard (0 ≤ i ∧ i ≤ 1114111) (PM.pure (.str ⟨#[i.toNat]⟩))
  | _ => pfail
theorem c_chr : CallOk W d env (.builtin "chr") fChr := CallOk.mk fun A s ρ σ Q E vs l ha hr z hp => by
  unfold fChr at hp
  split at hp
  · obtain ⟨v, rfl, t, rfl⟩ := one_inv z
    obtain ⟨h1, hp⟩ := pguard_inv hp
    exact chr_of_range h1.1 h1.2 (post_val hr hp ⟨_, rfl⟩ _)
  · exact hp.elim
end
end

section
open PySem PySem.W PyProof.Rows PySem.Spec PySem.SeqAt
set_option autoImplicit false
set_option linter.unusedVariables false
set_option maxRecDepth 100000
set_option tactic.hygienic false
theorem ofString_inj {a b : String} (h : Str.ofString a = Str.ofString b) : a = b := by
  rw [Str.ofString_eq_toList, Str.ofString_eq_toList] at h
  have h1 : (a.toList.map Char.toNat) = (b.toList.map Char.toNat) := by
    have := congrArg (fun x : Str => x.cps.toList) h
    simpa using this
  have h2 : a.toList = b.toList := by
    have inj : ∀ (l k : List Char), l.map Char.toNat = k.map Char.toNat → l = k := by
      intro l
      induction l with
      | nil => intro k e; cases k with
        | nil => rfl
        | cons _ _ => cases e
      | cons c l ih => intro k e; cases k with
        | nil => cases e
        | cons c' k =>
          simp only [List.map_cons, List.cons.injEq] at e
          rw [ih k e.2, show c = c' from Char.ext (UInt32.toNat_inj.mp e.1)]
    exact inj _ _ h1
  exact String.toList_inj.mp h2
noncomputable def Stores (env : Env) (n : String) : Prop := env.kindOf (Str.ofString n) = some .local ∨ (env.kindOf (Str.ofString n) = some .cell ∧ ∃ c, env.cells.lookup (Str.ofString n) = some c)
noncomputable def pput (n : String) (p : PV) : PM Unit := fun σ => some (.ok (), { σ with loc := lset n p σ.loc })
section
variable {W : Wd} {d : Nat} {env : Env} {G : GG}
theorem lookup_apart : ∀ {l : List (Str × Addr)} {x y : Str} {a b : Addr}, (l.Pairwise fun x y => x.2 ≠ y.2) → l.lookup x = some a → l.lookup y = some b → x ≠ y → a ≠ b
  | [], x, y, a, b, _, h, _, _ => by cases h
  | (z, c) :: l, x, y, a, b, hp, h1, h2, hn => by
    obtain ⟨hp1, hp2⟩ := List.pairwise_cons.mp hp
    rw [List.lookup_cons] at h1 h2
    by_cases hx : x = z
    · subst hx
      simp only [beq_self_eq_true] at h1
      have hy : (y == x) = false := by simpa using fun e : y = x => hn e.symm
      simp only [hy] at h2
      cases h1
      exact hp1 _ (mem_of_lookup h2)
    · have hx' : (x == z) = false := by simpa using hx
      simp only [hx'] at h1
      by_cases hy : y = z
      · subst hy
        simp only [beq_self_eq_true] at h2
        cases h2
        exact (hp1 _ (mem_of_lookup h1)).symm
      · have hy' : (y == z) = false := by simpa using hy
        simp only [hy'] at h2
        exact lookup_apart hp2 h1 h2 hn
theorem Rel.stbFp {h h' : Heap} {ρ : Rh} {σ : PS} {a : Addr} (R : Rel W env h ρ σ) (m : a ∈ fp env) (sb : ∀ b, b ≠ a → h'.get? b = h.get? b) : Stb h ρ h' ρ := by
  refine ⟨fun _ _ e => e, fun b its t => ?_, Nat.le_refl _⟩
  by_cases q : b = a
  · subst q
    obtain ⟨o', e', c, n, dd⟩ := t
    rcases List.mem_cons.mp m with rfl | m
    · obtain ⟨m, ⟨o, es, ep, e, d', _⟩, _⟩ := R.lk
      rw [e] at e'; cases e'; rw [dd] at d'; cases d'
    · obtain ⟨y, hy, rfl⟩ := List.mem_map.mp m
      obtain ⟨v, o, e, d'⟩ := R.isc y hy
      rw [e] at e'; cases e'; rw [dd] at d'; cases d'
  · obtain ⟨o, e, z⟩ := t; exact ⟨o, by rw [sb b q]; exact e, z⟩
theorem Cells.fpSet {h h' : Heap} {ρ : Rh} {H : List PO} {a : Addr} (c : Cells W h ρ H) (st : Stb h ρ h' ρ) (n0 : W.h₀.get? a = none) (n1 : a ∉ ρ.a) (sb : ∀ b, b ≠ a → h'.get? b = h.get? b) : Cells W h' ρ H := by
  refine ⟨fun b x e => ?_, c.len, fun j b x e1 e2 => ?_, c.nd, c.new⟩
  · have q : b ≠ a := fun q => by subst q; rw [n0] at e; cases e
    rw [sb b q]; exact c.base b x e
  · have q : b ≠ a := fun q => n1 (q ▸ get_mem e1)
    exact (c.cell j b x e1 e2).moved st fun y z => by rw [sb b q]; exact z
theorem Ext0.fpSet {h h' : Heap} {ρ : Rh} {a : Addr} {X : List Addr} (m : a ∈ X) (t : ∃ x, h'.get? a = some x) (sb : ∀ b, b ≠ a → h'.get? b = h.get? b) : Ext0 W X h ρ h' ρ := by
  refine ⟨⟨fun _ _ e => e, fun _ e => .inl e, fun b x e => ?_, fun b x e n1 n2 => ⟨x.slots, ?_, fun _ => rfl⟩, Nat.le_refl _⟩, rfl⟩
  · by_cases q : b = a
    · subst q; exact t
    · exact ⟨x, by rw [sb b q]; exact e⟩
  · have q : b ≠ a := fun z => n2 (z ▸ m)
    rw [sb b q]; exact e
theorem wp_store {A : Around} {s : Shared} {ρ : Rh} {σ : PS} {n : String} {v : Value} {p : PV} {Q : Unit → Shared → Prop} {E : Value → Shared → Prop} (hs : Stores env n) (R : Rel W env s.heap ρ σ) (rv : RepV s.heap ρ v p)
    (h : ∀ h' tk, Rel W env h' ρ { σ with loc := lset n p σ.loc } → Ext0 W (fp env) s.heap ρ h' ρ → Q () { s with heap := h', toks := tk }) : wpAny (model W.prog W.w) A (storeName env (Str.ofString n) v) Q E s := by
  have hcls : (env.scope.kind == .class || (env.scope.kind == .module && env.locals != env.globals)) = false := by rw [R.eok.kind]; rfl
  obtain ⟨m, hn, hl⟩ := R.lk
  rcases hs with hs | ⟨hs, c, hc⟩
  · refine wpAny_storeName_local hs hn (fun h' hn' sb => ?_) hcls
    have mL : env.locals ∈ fp env := .head _
    have st := R.stbFp mL sb.2
    have t : ∃ x, h'.get? env.locals = some x := by obtain ⟨o, _, _, e, _⟩ := hn'; exact ⟨o, e⟩
    refine h h' (s.toks + 1) ⟨R.eok, R.cells.fpSet st (R.fpn _ mL).1 (R.fpn _ mL).2 sb.2, ⟨_, hn', fun x q e => ?_⟩, R.fpn, R.fpd, R.apart, fun x hx => ?_⟩ (Ext0.fpSet mL t sb.2)
    · rw [lset_lookup] at e
      by_cases hx : x = n
      · subst hx
        rw [if_pos rfl] at e; cases e
        exact ⟨v, rv.stb st, .inl ⟨hs, by simp⟩⟩
      · rw [if_neg hx] at e
        obtain ⟨w, rw', na⟩ := hl x q e
        refine ⟨w, rw'.stb st, ?_⟩
        have hne : Str.ofString x ≠ Str.ofString n := fun z => hx (ofString_inj z)
        rcases na with ⟨k1, k2⟩ | ⟨k, cc, e1, e2⟩
        · exact .inl ⟨k1, by simp [hne, k2]⟩
        · refine .inr ⟨k, cc, e1, cell_slots e2 fun o ho => ⟨o.slots, ?_⟩⟩
          rw [sb.2 cc (R.fpd _ (mem_of_lookup e1))]; exact ho
    · obtain ⟨v, z⟩ := R.isc x hx
      exact ⟨v, cell_slots z fun o ho => ⟨o.slots, by rw [sb.2 x.2 (R.fpd _ hx)]; exact ho⟩⟩
  · have mc : c ∈ fp env := .tail _ (List.mem_map.mpr ⟨_, mem_of_lookup hc, rfl⟩)
    obtain ⟨v₀, hv₀⟩ := R.isc _ (mem_of_lookup hc)
    refine wpAny_storeName_cell R.eok.kind hs hc hv₀ fun h' hc' sb => ?_
    have st := R.stbFp mc sb.2
    have hcL : env.locals ≠ c := fun e => R.fpd _ (mem_of_lookup hc) e.symm
    have t : ∃ x, h'.get? c = some x := by obtain ⟨o, e, _⟩ := hc'; exact ⟨o, e⟩
    refine h h' s.toks ⟨R.eok, R.cells.fpSet st (R.fpn _ mc).1 (R.fpn _ mc).2 sb.2, ⟨m, ns_slots hn fun o ho => ⟨o.slots, by rw [sb.2 _ hcL]; exact ho⟩, fun x q e => ?_⟩, R.fpn, R.fpd, R.apart, fun x hx => ?_⟩ (Ext0.fpSet mc t sb.2)
    · rw [lset_lookup] at e
      by_cases hx : x = n
      · subst hx
        rw [if_pos rfl] at e; cases e
        exact ⟨v, rv.stb st, .inr ⟨.inl hs, c, hc, hc'⟩⟩
      · rw [if_neg hx] at e
        obtain ⟨w, rw', na⟩ := hl x q e
        refine ⟨w, rw'.stb st, ?_⟩
        have hne : Str.ofString x ≠ Str.ofString n := fun z => hx (ofString_inj z)
        rcases na with ⟨k1, k2⟩ | ⟨k, cc, e1, e2⟩
        · exact .inl ⟨k1, k2⟩
        · refine .inr ⟨k, cc, e1, cell_slots e2 fun o ho => ⟨o.slots, ?_⟩⟩
          rw [sb.2 cc (lookup_apart R.apart e1 hc hne)]; exact ho
    · by_cases q : x.2 = c
      · rw [q]; exact ⟨_, hc'⟩
      · obtain ⟨v, z⟩ := R.isc x hx
        exact ⟨v, cell_slots z fun o ho => ⟨o.slots, by rw [sb.2 x.2 q]; exact ho⟩⟩

noncomputable def SAs (W : Wd) (d : Nat) (env : Env) (t : Expr) (a : PV → PM Unit) : Prop := ∀ (G : GG) (v : Value) (p : PV), (∀ h ρ, G.P h ρ → RepV h ρ v p) → Sim W d env rrU G (assign t env v) (a p)
theorem sim_bind {n : String} {v : Value} {p : PV} (hs : Stores env n) (gv : ∀ h ρ, G.P h ρ → RepV h ρ v p) : Sim W d env rrU G (bindName env (Str.ofString n) v) (pput n p) := by
  refine Sim.of0 ?_
  intro A s ρ σ Q E ha hr hg hp
  exact wpAny_bindName (wp_store hs hr (gv _ _ hg) fun h' tk r e => hp () h' ρ tk r e trivial)
theorem a_name {n : String} {pos : Pos} (hs : Stores env n) : SAs W d env (.Name (Str.ofString n) pos) (pput n) := by
  intro G v p gv
  rw [PySem.assign_Name]
  exact Sim.stand (sim_bind hs gv)
noncomputable def passign : List (PV → PM Unit) → List PV → PM Unit
  | a :: as, p :: l => PM.bind (a p) fun _ => passign as l
  | _, _ => PM.pure ()
theorem sim_inOrder : ∀ {ts : List (Value → Sem Unit)} {as : List (PV → PM Unit)} {vs : List Value} {l : List PV} {G : GG},
    All2 (fun t a => ∀ (G : GG) (v : Value) (p : PV), (∀ h ρ, G.P h ρ → RepV h ρ v p) → Sim W d env rrU G (t v) (a p)) ts as → (∀ h ρ, G.P h ρ → All2 (RepV h ρ) vs l) → Sim W d env rrU G (assignInOrder ts vs) (passign as l) := by
  intro ts as vs l G z
  induction z generalizing vs l G with
  | nil => intro _; exact Sim.pure fun _ _ _ => trivial
  | @cons t a ts as ht _ ih =>
    intro gl
    refine Sim.under fun ⟨h, ρ, g⟩ => ?_
    cases vs with
    | nil =>
      have := gl h ρ g
      cases this; exact Sim.pure fun _ _ _ => trivial
    | cons v vs =>
      cases l with
      | nil => have := gl h ρ g; cases this
      | cons p l =>
        refine Sim.bind (Sim.holding (ht G v p fun h ρ g => ?_)) fun _ _ => ih fun h ρ g => ?_
        · have := gl h ρ g; cases this; assumption
        · have := gl h ρ g.1; cases this; assumption
noncomputable def ptup {α : Type} (p : PV) (f : List PV → PM α) : PM α := match p with
  | .tup l => f l
  | _ => pfail
theorem assign_cons {e : Expr} {es : List Expr} (h : isStarred e = false) : assignEach (e :: es) env = (false, assign e env) :: assignEach es env := by
  cases e <;> first | rfl | cases h
theorem assignEach_plain : ∀ {elts : List Expr}, noStar elts = true → assignEach elts env = elts.map fun t => (false, assign t env)
  | [], _ => rfl
  | e :: es, h => by
    simp only [noStar, List.all_cons, Bool.and_eq_true] at h
    rw [assign_cons (by simpa using h.1), assignEach_plain h.2]; rfl
theorem wp_unpack {A : Around} {s : Shared} {ρ : Rh} {σ : PS} {elts : List Expr} {k : Nat} {pos : Pos} {v : Value} {l : List PV} {Q : Unit → Shared → Prop} {E : Value → Shared → Prop} (hn : noStar elts = true) (ha : AOk W d A s ρ) (R : Rel W env s.heap ρ σ) (rv : RepV s.heap ρ v (.tup l)) (hl : l.length = elts.length)
    (h : ∀ vs h', Keeps s.heap h' → All2 (RepV h' ρ) vs l → wpAny (model W.prog W.w) A (assignInOrder (elts.map fun t => assign t env) vs) Q E { s with heap := h' }) : wpAny (model W.prog W.w) A (assign (.Tuple elts k pos) env v) Q E s := by
  obtain ⟨a, vs, rfl, ht, z⟩ := rv
  have e1 := assignEach_plain (env := env) hn
  refine assign_Tuple_tuple ha.handled ht (by rw [e1, List.length_map, List.size_toArray, z.length, hl]) ?_ fun h' hx => ?_
  · rw [e1]
    rw [List.findIdx?_eq_none_iff]
    intro x hx
    obtain ⟨t, _, rfl⟩ := List.mem_map.mp hx
    rfl
  · have k : Keeps s.heap h' := fun b o e => hx b o (Nat.ne_of_lt (Heap.lt_size e)) e
    have e2 : (assignEach elts env).map (·.2) = elts.map fun t => assign t env := by rw [e1, List.map_map]; rfl
    rw [e2]
    exact h vs h' k (z.mono fun _ _ y => y.repV)
theorem a_tuple {elts : List Expr} {as : List (PV → PM Unit)} {k : Nat} {pos : Pos} (hz : All2 (SAs W d env) elts as) (hn : noStar elts = true) : SAs W d env (.Tuple elts k pos) fun p => ptup p fun l => pguard (l.length = elts.length) (passign as l) := by
  intro G v p gv
  cases p with
  | tup l =>
    refine s_guard fun hl => ?_
    intro A s ρ σ Q E ha hr hg hp
    refine wp_unpack hn ha hr (gv _ _ hg) hl fun vs h' kk zz => ?_
    have r1 := hr.keeps kk
    have e1 : Ext0 W (fp env) s.heap ρ h' ρ := Ext0.keeps kk
    have hz' : All2 (fun (t : Value → Sem Unit) a => ∀ (G : GG) (v : Value) (p : PV), (∀ h ρ, G.P h ρ → RepV h ρ v p) → Sim W d env rrU G (t v) (a p)) (elts.map fun t => assign t env) as := by
      clear hl hn gv hp
      induction hz with
      | nil => exact .nil
      | cons r _ ih => exact .cons r ih
    exact sim_inOrder (G := ⟨fun h ρ => All2 (RepV h ρ) vs l, fun x y => rrL.stb x y⟩) hz' (fun _ _ g => g) A _ ρ σ Q E (ha.ext r1 e1.toExt ⟨ha.tok, ha.pos⟩) r1 zz (Post.trans (s := s) rfl e1.toExt hp)
  | _ => exact s_fail
end
end

section
open PySem PySem.W PyProof.Rows PySem.Spec PySem.SeqAt
set_option autoImplicit false
set_option linter.unusedVariables false
set_option maxRecDepth 100000
set_option tactic.hygienic false
noncomputable def SSt (W : Wd) (d : Nat) (env : Env) (st : Stmt) (p : PM PF) : Prop := ∀ G, Sim W d env rrF G (exec st env) p
noncomputable def SB (W : Wd) (d : Nat) (env : Env) (b : List Stmt) (p : PM PF) : Prop := ∀ G, Sim W d env rrF G (execs b env) p
noncomputable def pseq (p q : PM PF) : PM PF := PM.bind p fun f => match f with
  | .next => q
  | f => PM.pure f
section
variable {W : Wd} {d : Nat} {env : Env} {G : GG}
theorem b_nil : SB W d env [] (PM.pure .next) := fun G => Sim.pure (R := rrF) fun _ _ _ => trivial
theorem RepF.inv {h : Heap} {ρ : Rh} {f : Flow} {p : PF} (r : RepF h ρ f p) : (f = .next ∧ p = .next) ∨ (f = .brk ∧ p = .brk) ∨ (f = .cont ∧ p = .cont) ∨ ∃ v q, f = .ret v ∧ p = .ret q ∧ RepV h ρ v q := by
  cases f <;> cases p <;> first | exact .inl ⟨rfl, rfl⟩ | exact .inr (.inl ⟨rfl, rfl⟩) | exact .inr (.inr (.inl ⟨rfl, rfl⟩)) | exact .inr (.inr (.inr ⟨_, _, rfl, rfl, r⟩)) | exact r.elim
theorem b_cons {st : Stmt} {b : List Stmt} {p q : PM PF} (hs : SSt W d env st p) (hb : SB W d env b q) : SB W d env (st :: b) (pseq p q) := by
  intro G
  rw [execs_cons]
  refine Sim.bind (hs G) fun f pf => ?_
  refine Sim.under fun ⟨h, ρ, g⟩ => ?_
  rcases RepF.inv g.2 with ⟨rfl, rfl⟩ | ⟨rfl, rfl⟩ | ⟨rfl, rfl⟩ | ⟨v, q, rfl, rfl, _⟩
  · exact hb _
  · exact Sim.pure (R := rrF) fun _ _ g => trivial
  · exact Sim.pure (R := rrF) fun _ _ g => trivial
  · exact Sim.pure (R := rrF) fun _ _ g => g.2
theorem b_one {st : Stmt} {p : PM PF} (hs : SSt W d env st p) : SB W d env [st] p := by
  have z := b_cons hs (b_nil (W := W) (d := d) (env := env))
  have e : pseq p (PM.pure .next) = p := by
    funext σ
    unfold pseq PM.bind PM.pure
    cases p σ with
    | none => rfl
    | some r => obtain ⟨r, σ'⟩ := r
                cases r with
                | exc => rfl
                | ok f => cases f <;> rfl
  rw [e] at z; exact z
theorem st_ret {e : Expr} {pos : Pos} {p : PM PV} (h : SE W d env e p) : SSt W d env (.Return (some e) pos) (PM.bind p fun v => PM.pure (.ret v)) := by
  intro G
  rw [exec_Return_some]
  exact Sim.stand (Sim.bind (h G) fun v q => Sim.pure (R := rrF) fun _ _ g => g.2)
theorem st_if {t : Expr} {b o : List Stmt} {pos : Pos} {c : PM Bool} {p q : PM PF} (ht : ST W d env t c) (hb : SB W d env b p) (ho : SB W d env o q) : SSt W d env (.If t b o pos) (pite c p q) := by
  intro G
  rw [exec_If]
  exact Sim.stand (Sim.bind (ht G) fun x y => sim_ite (hb _) (ho _) fun _ _ g => g.2)
theorem st_expr {e : Expr} {pos : Pos} {p : PM PV} (h : SE W d env e p) (hi : interactive env = false) (hs : swapsWith e none pos.line env = pure false) : SSt W d env (.Expr e pos) (PM.bind p fun _ => PM.pure .next) := by
  intro G A s ρ σ Q E ha hr hg hp
  refine wpAny_Expr_any (h G A s ρ σ _ _ ha hr hg ?_) hi hs
  unfold PM.bind at hp
  match hq : p σ, hp with
  | some (.ok b, σ₁), hp => exact fun a h' ρ' tk r1 e1 l q => hp .next h' ρ' tk r1 e1 l trivial
  | some (.exc, σ₁), hp => exact hp
theorem st_assign {t e : Expr} {pos : Pos} {p : PM PV} {a : PV → PM Unit} (h : SE W d env e p) (ht : SAs W d env t a) (hst : isStarred t = false) (hs : swapsWithSole [t] e pos.line env = pure false) (hw : swappedStores [t] e env = pure none) :
    SSt W d env (.Assign [t] e pos) (PM.bind p fun v => PM.bind (a v) fun _ => PM.pure .next) := by
  intro G
  rw [PyProof.Rows.exec_Assign, hs]
  have e1 : (assignEach [t] env).map (·.2) = [assign t env] := by
    cases t <;> first | rfl | cases hst
  refine Sim.stand (Sim.eq (t' := eval e env >>= fun v => assign t env v >>= fun _ => pure .next) (Sim.bind (h G) fun v q => Sim.bind (ht _ v q fun _ _ g => g.2) fun _ _ => Sim.pure (R := rrF) (a := Flow.next) (b := PF.next) fun _ _ _ => trivial) ?_ rfl)
  show (eval e env >>= fun v => (swappedStores [t] e env >>= fun w => assignStores env v w ((assignEach [t] env).map (·.2)))) = _
  rw [hw, e1]; rfl
noncomputable def pswap (ns : List String) (p : PV) : PM Unit := ptup p fun l => pguard (l.length = ns.length) (passign (ns.reverse.map pput) l.reverse)
theorem st_swap {ts : List Expr} {k : Nat} {tp : Pos} {e : Expr} {pos : Pos} {p : PM PV} {ns : List String} (h : SE W d env e p) (hn : ∀ n ∈ ns, Stores env n) (hs : swapsWithSole [.Tuple ts k tp] e pos.line env = pure false) (hw : swappedStores [.Tuple ts k tp] e env = pure (some (ns.map Str.ofString))) :
    SSt W d env (.Assign [.Tuple ts k tp] e pos) (PM.bind p fun v => PM.bind (pswap ns v) fun _ => PM.pure .next) := by
  intro G
  rw [PyProof.Rows.exec_Assign, hs]
  refine Sim.stand (Sim.eq (t' := eval e env >>= fun v => PySem.rule "assign.swapped-stores" >>= fun _ => ((unpackItems v (ns.map Str.ofString).length none >>= fun items => assignInOrder ((ns.map Str.ofString).reverse.map fun n => bindName env n) items.reverse) >>= fun _ => pure .next)) (Sim.bind (h G) fun v q => Sim.rule (Sim.bind (R := rrU) ?_ fun _ _ => Sim.pure (R := rrF) (a := Flow.next) (b := PF.next) fun _ _ _ => trivial)) ?_ rfl)
  · cases q with
    | tup l =>
      refine s_guard fun hl => ?_
      intro A s ρ σ Q E ha hr hg hp
      obtain ⟨a, vs, rfl, ht, z⟩ := hg.2
      have hz : vs.toArray.size = (ns.map Str.ofString).length := by rw [List.size_toArray, z.length, hl, List.length_map]
      rw [← hz]
      refine wpAny_bind (unpackItems_tuple ha.handled ht fun h' hx => ?_)
      have kk : Keeps s.heap h' := fun b o e => hx b o (Nat.ne_of_lt (Heap.lt_size e)) e
      have r1 := hr.keeps kk
      have e1 : Ext0 W (fp env) s.heap ρ h' ρ := Ext0.keeps kk
      have hz' : All2 (fun (t : Value → Sem Unit) a => ∀ (G : GG) (v : Value) (p : PV), (∀ h ρ, G.P h ρ → RepV h ρ v p) → Sim W d env rrU G (t v) (a p)) ((ns.map Str.ofString).reverse.map fun n => bindName env n) (ns.reverse.map pput) := by
        rw [← List.map_reverse]
        have hn' : ∀ n ∈ ns.reverse, Stores env n := fun n m => hn n (List.mem_reverse.mp m)
        generalize ns.reverse = ms at hn' ⊢
        clear hp hl hz hw hn
        induction ms with
        | nil => exact .nil
        | cons n ms ih => exact .cons (fun G v p gv => sim_bind (hn' n (.head _)) gv) (ih fun n m => hn' n (.tail _ m))
      have z1 : All2 (RepV h' ρ) vs.reverse l.reverse := (z.mono fun _ _ y => y.repV).reverse
      exact sim_inOrder (G := ⟨fun h ρ => All2 (RepV h ρ) vs.reverse l.reverse, fun x y => rrL.stb x y⟩) hz' (fun _ _ g => g) A _ ρ σ Q E (ha.ext r1 e1.toExt ⟨ha.tok, ha.pos⟩) r1 z1 (Post.trans (s := s) rfl e1.toExt hp)
    | _ => exact s_fail
  · show (eval e env >>= fun v => (swappedStores [.Tuple ts k tp] e env >>= fun w => assignStores env v w _)) = _
    rw [hw]
    congr 1; funext v
    simp only [bind_assoc]
    rfl
theorem st_aug {n : String} {op : Operator} {e : Expr} {npos pos : Pos} {p : PM PV} {f : PV → PV → PM PV} (ho : OpOk W d env (inplaceOp op) f) (h : SE W d env e p) (hst : Stores env n) (hd : (Str.ofString n == ("__debug__" : Str)) = false := by decide) (hc : (Str.ofString n == ("__classdict__" : Str)) = false := by decide) :
    SSt W d env (.AugAssign (.Name (Str.ofString n) npos) op e pos) (PM.bind (pget n) fun a => PM.bind p fun b => PM.bind (f a b) fun c => PM.bind (pput n c) fun _ => PM.pure .next) := by
  intro G
  rw [exec_AugAssign_Name]
  have e1 : (do standAt npos; loadName env (Str.ofString n) : Sem Value) = eval (.Name (Str.ofString n) npos) env := (eval_Name _ _ _ hd).symm
  refine Sim.eq (t' := eval (.Name (Str.ofString n) npos) env >>= fun old => holding [old] (eval e env) >>= fun v => standAt pos >>= fun _ => operate [old, v] (inplaceOp op old v) >>= fun new => standAt npos >>= fun _ => bindName env (Str.ofString n) new >>= fun _ => pure .next) ?_ (by rw [← e1]; simp only [bind_assoc]) rfl
  refine Sim.bind (s_name hd hc) fun a pa => Sim.bind (Sim.holding (h _)) fun b pb => Sim.stand (Sim.bind (Sim.operate (ho _ a b pa pb (fun _ _ g => g.1.2) fun _ _ g => g.2)) fun c pc => Sim.stand (Sim.bind (sim_bind hst fun _ _ g => g.2) fun _ _ => Sim.pure (R := rrF) (a := Flow.next) (b := PF.next) fun _ _ _ => trivial))
end
end

section
open PySem PySem.W PyProof.Rows PySem.Spec PySem.SeqAt
set_option autoImplicit false
set_option linter.unusedVariables false
set_option maxRecDepth 100000
set_option tactic.hygienic false
noncomputable def pnoexc {α : Type} (p : PM α) : PM α := fun σ => match p σ with
  | some (.ok a, σ') => some (.ok a, σ')
  | _ => none
noncomputable def pturn (f : PF) (again : PM PF) : PM PF := match f with
  | .next => again
  | .cont => again
  | .brk => PM.pure .next
  | .ret v => PM.pure (.ret v)
noncomputable def pwhile (c : PM Bool) (b : PM PF) : Nat → PM PF
  | 0 => pfail
  | f + 1 => PM.bind (pnoexc c) fun t => if t = true then PM.bind (pnoexc b) fun r => pturn r (pwhile c b f) else PM.pure .next
noncomputable def pfor (nx : Nat → List PO → Option (Option PV)) (asg : PV → PM Unit) (b : PM PF) : Nat → Nat → PM PF
  | 0, _ => pfail
  | f + 1, j => fun σ => match nx j σ.H with
    | none => none
    | some none => some (.ok .next, σ)
    | some (some p) => PM.bind (pnoexc (asg p)) (fun _ => PM.bind (pnoexc b) fun r => pturn r (pfor nx asg b f (j + 1))) σ
section
variable {W : Wd} {d : Nat} {env : Env} {G : GG}
theorem bind_noexc {α β γ δ : Type} {R : RR α β} {R' : RR γ δ} {t : Sem α} {p : PM β} {q : β → PM δ} {A : Around} {s₀ s : Shared} {ρ₀ ρ : Rh} {σ : PS} {Q : α → Shared → Prop} {E E₀ : Value → Shared → Prop} {Q₀ : γ → Shared → Prop} {G : GG}
    (hs : s = { s₀ with heap := s.heap, toks := s.toks }) (h : Sim W d env R G t p) (ha : AOk W d A s ρ) (hr : Rel W env s.heap ρ σ) (hg : G.P s.heap ρ) (ex : Ext W (fp env) s₀.heap ρ₀ s.heap ρ) (hp : Post W env R' s₀ ρ₀ Q₀ E₀ (PM.bind (pnoexc p) q σ))
    (k : ∀ a b σ' h' ρ' tk, AOk W d A { s₀ with heap := h', toks := tk } ρ' → Rel W env h' ρ' σ' → Ext W (fp env) s.heap ρ h' ρ' → Ext W (fp env) s₀.heap ρ₀ h' ρ' → R.rel h' ρ' a b → Post W env R' s₀ ρ₀ Q₀ E₀ (q b σ') → Q a { s₀ with heap := h', toks := tk }) :
    wpAny (model W.prog W.w) A t Q E s := by
  refine h A s ρ σ Q E ha hr hg ?_
  unfold PM.bind pnoexc at hp
  match hq : p σ, hp with
  | some (.ok b, σ'), hp =>
    intro a h' ρ' tk r1 e1 l q
    have z := k a b σ' h' ρ' tk
    rw [hs]
    refine z ?_ r1 e1 (ex.trans e1) q hp
    have y := ha.ext r1 e1 l
    rw [hs] at y
    exact y

theorem st_while {t : Expr} {body : List Stmt} {pos : Pos} {c : PM Bool} {b : PM PF} (N : Nat) (ht : ST W d env t c) (hb : SB W d env body b) : SSt W d env (.While t body [] pos) (pwhile c b N) := by
  intro G A s ρ σ Q E ha hr hg hp
  refine wpAny_While (codeAny_whileLoop (fun n s' => ∃ ρ' σ', s' = { s with heap := s'.heap, toks := s'.toks } ∧ AOk W d A s' ρ' ∧ Rel W env s'.heap ρ' σ' ∧ Ext W (fp env) s.heap ρ s'.heap ρ' ∧ Post W env rrF s ρ Q E (pwhile c b n σ')) ?_ N ⟨ρ, σ, rfl, ha, hr, .refl, hp⟩)
  rintro n s₁ ⟨ρ₁, σ₁, es, ha, hr, ex, hp⟩
  cases n with
  | zero => exact hp.elim
  | succ n =>
    refine bind_noexc es (ht GG.tt) ha hr trivial ex hp fun a b' σ₂ h₂ ρ₂ tk₂ ha₂ hr₂ _ ex₂ q hp₂ => ?_
    cases q
    cases a with
    | false => exact wpAny_execs_nil (hp₂ .next h₂ ρ₂ tk₂ hr₂ ex₂ ⟨ha₂.tok, ha₂.pos⟩ trivial)
    | true =>
      refine bind_noexc (s := { s with heap := h₂, toks := tk₂ }) rfl (hb GG.tt) ha₂ hr₂ trivial ex₂ hp₂ fun f pf σ₃ h₃ ρ₃ tk₃ ha₃ hr₃ _ ex₃ q hp₃ => ?_
      rcases RepF.inv q with ⟨rfl, rfl⟩ | ⟨rfl, rfl⟩ | ⟨rfl, rfl⟩ | ⟨v, q', rfl, rfl, rv⟩
      · exact ⟨n, Nat.lt_succ_self _, ρ₃, σ₃, rfl, ha₃, hr₃, ex₃, hp₃⟩
      · exact hp₃ .next h₃ ρ₃ tk₃ hr₃ ex₃ ⟨ha₃.tok, ha₃.pos⟩ trivial
      · exact ⟨n, Nat.lt_succ_self _, ρ₃, σ₃, rfl, ha₃, hr₃, ex₃, hp₃⟩
      · exact hp₃ (.ret v) h₃ ρ₃ tk₃ hr₃ ex₃ ⟨ha₃.tok, ha₃.pos⟩ rv

noncomputable def But (own : List Addr) (h h' : Heap) : Prop := ∀ b o, b ∉ own → h.get? b = some o → h'.get? b = some o
structure Own (W : Wd) (env : Env) (own : List Addr) (h₁ h : Heap) (ρ : Rh) : Prop where
  fresh : ∀ b ∈ own, h₁.get? b = none
  n0 : ∀ b ∈ own, W.h₀.get? b = none
  nfp : ∀ b ∈ own, b ∉ fp env
  nρ : ∀ b ∈ own, b ∉ ρ.a
  fld : ∀ b ∈ own, ∃ o vs, h.get? b = some o ∧ o.data = .fields vs
theorem Own.noTup {own : List Addr} {h₁ h : Heap} {ρ : Rh} (w : Own W env own h₁ h ρ) {b : Addr} (m : b ∈ own) {its : Array Value} (t : IsTup h b its) : False := by
  obtain ⟨o, vs, e, dd⟩ := w.fld b m
  obtain ⟨o', e', c, n, d'⟩ := t
  rw [e] at e'; cases e'; rw [dd] at d'; cases d'
theorem Own.stb {own : List Addr} {h₁ h h' : Heap} {ρ : Rh} (w : Own W env own h₁ h ρ) (bt : But own h h') : Stb h ρ h' ρ := by
  refine ⟨fun _ _ e => e, fun b its t => ?_, Nat.le_refl _⟩
  have hb : b ∉ own := fun m => w.noTup m t
  obtain ⟨o, e, r⟩ := t
  exact ⟨o, bt b o hb e, r⟩
theorem Own.rel {own : List Addr} {h₁ h h' : Heap} {ρ : Rh} {σ : PS} (w : Own W env own h₁ h ρ) (bt : But own h h') (R : Rel W env h ρ σ) : Rel W env h' ρ σ := by
  have st := w.stb bt
  have kf : ∀ a ∈ fp env, ∀ o, h.get? a = some o → ∃ sl, h'.get? a = some { o with slots := sl } := fun a m o e => ⟨o.slots, bt a o (fun q => w.nfp a q m) e⟩
  obtain ⟨m, hn, hl⟩ := R.lk
  refine ⟨R.eok, ⟨fun b o e => bt b o (fun q => by rw [w.n0 b q] at e; cases e) (R.cells.base b o e), R.cells.len, fun i a o e1 e2 => (R.cells.cell i a o e1 e2).moved st fun x e => bt a x (fun q => w.nρ a q (get_mem e1)) e, R.cells.nd, R.cells.new⟩, ⟨m, ns_slots hn (kf _ (.head _)), fun n p e => ?_⟩, R.fpn, R.fpd, R.apart, fun x hx => ?_⟩
  · obtain ⟨v, r, na⟩ := hl n p e
    refine ⟨v, r.stb st, ?_⟩
    rcases na with na | ⟨na, cc, e1, e2⟩
    · exact .inl na
    · exact .inr ⟨na, cc, e1, cell_slots e2 (kf _ (.tail _ (List.mem_map.mpr ⟨_, mem_of_lookup e1, rfl⟩)))⟩
  · obtain ⟨v, z⟩ := R.isc x hx
    exact ⟨v, cell_slots z (kf _ (.tail _ (List.mem_map.mpr ⟨x, hx, rfl⟩)))⟩
theorem Own.ext {own : List Addr} {h₁ h h' : Heap} {ρ₁ ρ : Rh} (w : Own W env own h₁ h ρ) (bt : But own h h') (x : Ext W (fp env) h₁ ρ₁ h ρ) : Ext W (fp env) h₁ ρ₁ h' ρ := by
  refine ⟨x.pre, x.new, fun b o e => ?_, fun b o e n1 n2 => ?_, x.t⟩
  · obtain ⟨o', e'⟩ := x.there b o e
    exact ⟨o', bt b o' (fun q => by rw [w.fresh b q] at e; cases e) e'⟩
  · obtain ⟨sl, e', f⟩ := x.kept b o e n1 n2
    exact ⟨sl, bt b _ (fun q => by rw [w.fresh b q] at e; cases e) e', f⟩
theorem Own.funFrames {own : List Addr} {h₁ h h' base : Heap} {ρ : Rh} (w : Own W env own h₁ h ρ) (bt : But own h h') : ∀ {l : List Env}, h.FunFrames base l → h'.FunFrames base l
  | [], _ => trivial
  | e :: rest, ⟨hk, ⟨L, o, hf, hn, ho, hd⟩, hrest⟩ => by
    refine ⟨hk, ⟨L, o, hf, hn, bt L o (fun q => ?_) ho, hd⟩, w.funFrames bt hrest⟩
    obtain ⟨o', vs, e', d'⟩ := w.fld L q
    rw [ho] at e'; cases e'; exact hd vs d'
theorem Own.aok {own : List Addr} {h₁ h' : Heap} {A : Around} {s : Shared} {ρ : Rh} {tk : Nat} (w : Own W env own h₁ s.heap ρ) (bt : But own s.heap h') (ha : AOk W d A s ρ) (ht : s.toks ≤ tk) : AOk W d A { s with heap := h', toks := tk } ρ := by
  obtain ⟨l, e, f⟩ := ha.fr
  exact ⟨ha.depth, ha.units, ha.handled, ⟨l, e, f.more (w.funFrames bt f.ff) fun _ q => .inl q⟩, Nat.le_trans ha.tok ht, Nat.lt_of_lt_of_le ha.pos ht⟩
theorem Own.after {own : List Addr} {h₁ h h' : Heap} {ρ ρ' : Rh} (w : Own W env own h₁ h ρ) (x : Ext W (fp env) h ρ h' ρ') : Own W env own h₁ h' ρ' := by
  refine ⟨w.fresh, w.n0, w.nfp, fun b m q => ?_, fun b m => ?_⟩
  · rcases x.new b q with q | q
    · exact w.nρ b m q
    · obtain ⟨o, vs, e, _⟩ := w.fld b m; rw [e] at q; cases q
  · obtain ⟨o, vs, e, dd⟩ := w.fld b m
    exact ⟨o, vs, x.fields e dd (w.nρ b m) (w.nfp b m), dd⟩
theorem Own.moved {own : List Addr} {h₁ h h' : Heap} {ρ : Rh} (w : Own W env own h₁ h ρ) (t : ∀ b ∈ own, ∃ o vs, h'.get? b = some o ∧ o.data = .fields vs) : Own W env own h₁ h' ρ := ⟨w.fresh, w.n0, w.nfp, w.nρ, t⟩

structure Src (W : Wd) (own : List Addr) (it : Value) (target : Expr) (nx : Nat → List PO → Option (Option PV)) (Inv : Nat → Heap → Rh → Prop) : Prop where
  fld : ∀ {j h ρ}, Inv j h ρ → ∀ b ∈ own, ∃ o vs, h.get? b = some o ∧ o.data = .fields vs
  keep : ∀ {j h h' ρ ρ'}, Inv j h ρ → Stb h ρ h' ρ' → (∀ b ∈ own, ∀ o, h.get? b = some o → h'.get? b = some o) → Inv j h' ρ'
  item : ∀ {j A s ρ H p} {Q : Option Value → Shared → Prop} {E : Value → Shared → Prop}, A.handled = none → Cells W s.heap ρ H → Inv j s.heap ρ → nx j H = some (some p) →
    (∀ v h' tk, But own s.heap h' → (∀ b ∈ own, ∃ o vs, h'.get? b = some o ∧ o.data = .fields vs) → RepV h' ρ v p →
      (∀ A' s' (Q' : Unit → Shared → Prop) E', s'.heap = h' → (∀ h'', But own h' h'' → Inv (j + 1) h'' ρ → Q' () { s' with heap := h'' }) → wpAny (model W.prog W.w) A' (letOwnedTupleGo target it v) Q' E' s') → Q (some v) { s with heap := h', toks := tk }) →
    wpAny (model W.prog W.w) A (pyNext it) Q E s
  self : ∀ {j A s ρ} {Q : Value → Shared → Prop} {E : Value → Shared → Prop}, Inv j s.heap ρ → Q it s → wpAny (model W.prog W.w) A (pyIter it) Q E s
  stop : ∀ {j A s ρ H} {Q : Option Value → Shared → Prop} {E : Value → Shared → Prop}, A.handled = none → Cells W s.heap ρ H → Inv j s.heap ρ → nx j H = some none →
    (∀ h' tk, But own s.heap h' → Q none { s with heap := h', toks := tk }) → wpAny (model W.prog W.w) A (pyNext it) Q E s

theorem for_run {own : List Addr} {it : Value} {target : Expr} {nx : Nat → List PO → Option (Option PV)} {Inv : Nat → Heap → Rh → Prop} {asg : PV → PM Unit} {body : List Stmt} {b : PM PF} (S : Src W own it target nx Inv) (hasg : SAs W d env target asg) (hb : SB W d env body b)
    {A : Around} {s₀ s : Shared} {ρ₀ ρ : Rh} {σ : PS} {Q : Flow → Shared → Prop} {E : Value → Shared → Prop} {N j : Nat} (es : s = { s₀ with heap := s.heap, toks := s.toks }) (ha : AOk W d A s ρ) (hr : Rel W env s.heap ρ σ) (ow : Own W env own s₀.heap s.heap ρ) (iv : Inv j s.heap ρ) (ex : Ext W (fp env) s₀.heap ρ₀ s.heap ρ)
    (hp : Post W env rrF s₀ ρ₀ Q E (pfor nx asg b N j σ)) : codeAny (model W.prog W.w) A (.forLoop target it body [] env) (fun r s' => match r with | .ok f => Q f s' | .error e => cameBackBy (model W.prog W.w) A env E e s') s := by
  refine codeAny_forLoop_any (fun n s' => ∃ ρ' σ' j', s' = { s₀ with heap := s'.heap, toks := s'.toks } ∧ AOk W d A s' ρ' ∧ Rel W env s'.heap ρ' σ' ∧ Own W env own s₀.heap s'.heap ρ' ∧ Inv j' s'.heap ρ' ∧ Ext W (fp env) s₀.heap ρ₀ s'.heap ρ' ∧ Post W env rrF s₀ ρ₀ Q E (pfor nx asg b n j' σ')) ?_ N ⟨ρ, σ, j, es, ha, hr, ow, iv, ex, hp⟩
  clear es ha hr ow iv ex hp
  rintro n s ⟨ρ, σ, j, es, ha, hr, ow, iv, ex, hp⟩
  cases n with
  | zero => exact hp.elim
  | succ n =>
    unfold pfor at hp
    refine wpAny_with_toks (Nat.le_refl _) ?_
    cases hx : nx j σ.H with
    | none => rw [hx] at hp; exact hp.elim
    | some o =>
      rw [hx] at hp
      cases o with
      | none =>
        refine S.stop ha.handled hr.cells iv hx fun h' tk bt ht => ?_
        have ha' := ow.aok bt ha ht
        refine wpAny_execs_nil ?_
        rw [es]
        exact hp .next h' ρ tk (ow.rel bt hr) (ow.ext bt ex) ⟨ha'.tok, ha'.pos⟩ trivial
      | some p =>
        refine S.item ha.handled hr.cells iv hx fun v h' tk bt fl rv go ht => ?_
        have ha' := ow.aok bt ha ht
        have ow' := ow.moved fl
        refine wpAny_with_toks (n := tk) (Nat.le_refl _) (go A _ _ _ rfl fun h₂ bt₂ iv₂ _ => ?_)
        have ha₂ : AOk W d A { s with heap := h₂, toks := tk } ρ := Own.aok (s := { s with heap := h', toks := tk }) ow' bt₂ ha' (Nat.le_refl _)
        have r₂ : Rel W env h₂ ρ σ := ow'.rel bt₂ (ow.rel bt hr)
        have ow₂ : Own W env own s₀.heap h₂ ρ := ow'.moved (S.fld iv₂)
        have ex₂ : Ext W (fp env) s₀.heap ρ₀ h₂ ρ := ow'.ext bt₂ (ow.ext bt ex)
        have rv₂ : RepV h₂ ρ v p := rv.stb (ow'.stb bt₂)
        refine bind_noexc (s := { s with heap := h₂, toks := tk }) (s₀ := s₀) (by rw [es]) (hasg ⟨fun h ρ => RepV h ρ v p, fun x y => y.stb x⟩ v p fun _ _ g => g) ha₂ r₂ rv₂ ex₂ hp fun _ _ σ₃ h₃ ρ₃ tk₃ ha₃ hr₃ e₃ ex₃ _ hp₃ => ?_
        have ow₃ := ow₂.after e₃
        have iv₃ : Inv (j + 1) h₃ ρ₃ := S.keep iv₂ (r₂.stb e₃) fun b m o e => by
          obtain ⟨o', vs, e', dd⟩ := ow₂.fld b m
          rw [e] at e'; cases e'
          exact e₃.fields e dd (ow₂.nρ b m) (ow₂.nfp b m)
        refine bind_noexc (s := { s₀ with heap := h₃, toks := tk₃ }) rfl (hb GG.tt) ha₃ hr₃ trivial ex₃ hp₃ fun f pf σ₄ h₄ ρ₄ tk₄ ha₄ hr₄ e₄ ex₄ q hp₄ => ?_
        have ow₄ := ow₃.after e₄
        have iv₄ : Inv (j + 1) h₄ ρ₄ := S.keep iv₃ (hr₃.stb e₄) fun b m o e => by
          obtain ⟨o', vs, e', dd⟩ := ow₃.fld b m
          rw [e] at e'; cases e'
          exact e₄.fields e dd (ow₃.nρ b m) (ow₃.nfp b m)
        rcases RepF.inv q with ⟨rfl, rfl⟩ | ⟨rfl, rfl⟩ | ⟨rfl, rfl⟩ | ⟨v, q', rfl, rfl, rv⟩
        · exact ⟨n, Nat.lt_succ_self _, ρ₄, σ₄, j + 1, rfl, ha₄, hr₄, ow₄, iv₄, ex₄, hp₄⟩
        · exact hp₄ .next h₄ ρ₄ tk₄ hr₄ ex₄ ⟨ha₄.tok, ha₄.pos⟩ trivial
        · exact ⟨n, Nat.lt_succ_self _, ρ₄, σ₄, j + 1, rfl, ha₄, hr₄, ow₄, iv₄, ex₄, hp₄⟩
        · exact hp₄ (.ret v) h₄ ρ₄ tk₄ hr₄ ex₄ ⟨ha₄.tok, ha₄.pos⟩ rv
end
end

section
open PySem PySem.W PyProof.Rows
set_option autoImplicit false
set_option linter.unusedVariables false
set_option maxRecDepth 100000
set_option tactic.hygienic false
noncomputable def Gone (hs : Heap) (fr : List Addr) (h h' : Heap) : Prop :=
  ∀ b o, h.get? b = some o → ((∀ vs, o.data ≠ .fields vs) ∨ ∃ o₀, hs.get? b = some o₀) → (b ∉ fr → h'.get? b = some o) ∧ ∃ sl, h'.get? b = some { o with slots := sl }
section
variable {W : Wd} {d : Nat} {env : Env}
theorem Gone.stb {hs h h' : Heap} {fr : List Addr} {ρ : Rh} (g : Gone hs fr h h') : Stb h ρ h' ρ := by
  refine ⟨fun _ _ e => e, fun b its t => ?_, Nat.le_refl _⟩
  have t' := t
  obtain ⟨o', e', c, n, d'⟩ := t'
  refine IsTup.slots t fun o e => ?_
  rw [e] at e'; cases e'
  exact (g b _ e (.inl fun vs q => by rw [d'] at q; cases q)).2
theorem Cells.gone {hs h h' : Heap} {ρ : Rh} {H : List PO} {l : List Env} (c : Cells W h ρ H) (g : Gone hs (l.filterMap (·.frame)) h h') (hout : ∀ L ∈ l.filterMap (·.frame), L ∉ ρ.a) (hb : ∀ b o, W.h₀.get? b = some o → hs.get? b = some o) (ff : h.FunFrames W.h₀ l) : Cells W h' ρ H := by
  refine ⟨fun b o e => ?_, c.len, fun i a o e1 e2 => ?_, c.nd, c.new⟩
  · refine (g b o (c.base b o e) (.inr ⟨_, hb b o e⟩)).1 fun q => ?_
    rw [(ff.mem q).1] at e; cases e
  · have r := c.cell i a o e1 e2
    exact r.moved g.stb fun x ex => (g a x ex (.inl (r.noFields ex))).1 fun q => hout a q (get_mem e1)
theorem Ext.gone {X : List Addr} {hs h₀ h h' : Heap} {ρ ρ' : Rh} {l : List Env} {base : Heap} (x : Ext W X h₀ ρ h ρ') (g : Gone hs (l.filterMap (·.frame)) h h') (hsub : ∀ b o, h₀.get? b = some o → ∃ o', hs.get? b = some o') (ff : h.FunFrames base l) : Ext W X h₀ ρ h' ρ' := by
  refine ⟨x.pre, x.new, fun b o e => ?_, fun b o e n1 n2 => ?_, x.t⟩
  · obtain ⟨o', e'⟩ := x.there b o e
    obtain ⟨sl, e''⟩ := (g b o' e' (.inr (hsub b o e))).2
    exact ⟨_, e''⟩
  · obtain ⟨sl, e', f'⟩ := x.kept b o e n1 n2
    obtain ⟨k1, sl', e''⟩ := g b _ e' (.inr (hsub b o e))
    refine ⟨sl', e'', fun z => ?_⟩
    have hb : b ∉ l.filterMap (·.frame) := fun q => by
      obtain ⟨_, o', ho, hn⟩ := ff.mem q
      rw [e'] at ho; cases ho
      obtain ⟨vs, hv⟩ := z
      exact hn vs hv
    have e3 := k1 hb
    rw [e''] at e3
    have : sl' = sl := congrArg Obj.slots (Option.some.inj e3)
    rw [this]; exact f' z
theorem entry_new {M : Model} {A : Around} {E : Value → Shared → Prop} {s : Shared} {base : Heap} {outer : List Env} {L e : Addr} {oe : Obj} {vs : Array Value} {head : Value} {hadNext : Bool} {Q : Unit → Shared → Prop}
    (hfr : A.frames = some (env :: outer)) (hl : s.heap.FunFrames base (env :: outer)) (hf : env.frame = some L) (he : s.heap.get? e = some oe) (hd : oe.data = .fields vs) (hsz : 1 < vs.size)
    (h : ∀ h' T, s.heap.get? T = none → T ≠ e → (∃ oe' vs', h'.get? e = some oe' ∧ oe'.cls = oe.cls ∧ oe'.data = .fields vs' ∧ vs'[1]? = some (.ref T)) → (∃ oT ts, h'.get? T = some oT ∧ oT.data = .fields ts ∧ ts[3]? = some .none) →
      (∀ b o, s.heap.get? b = some o → b ≠ e → (b ∉ (env :: outer).filterMap (·.frame) → h'.get? b = some o) ∧ ∃ sl, h'.get? b = some { o with slots := sl }) → Q () { s with heap := h' }) :
    wpAny M A (do let a ← frameOf env; let pl ← entryPlaceOf L hadNext; let b ← EntryCells.newEntry head a .none (rawInt L) .none pl; setField (.ref e) 1 b) (fun _ s' => wpAny M A (setFlight (.ref e) none) Q E s') E s := by
  have hne : e ∉ (env :: outer).filterMap (·.frame) := fun q => by
    obtain ⟨_, o, ho, hn⟩ := hl.mem q
    rw [he] at ho; cases ho; exact hn vs hd
  refine wpAny_bind (wpAny_frameOf_fun hfr hl hf fun h₁ hs₁ => wpAny_bind (wpAny_entryPlaceOf fun pl hpl => ?_))
  unfold EntryCells.newEntry newFields
  refine wpAny_bind (wpAny_newObj_type ?_ (hpl.sizeOk5 _ _ _ _ _))
  generalize hts : ([head, .ref L, .none, rawInt L, .none] ++ (if pl.isEmpty then List.replicate 6 Value.none else pl)).toArray = ts
  have htsz : 3 < ts.size := by
    rw [← hts]
    simp only [List.size_toArray, List.length_append, List.length_cons, List.length_nil] <;> lia
  have e1 : h₁.get? e = some oe := (hs₁.2.1 e hne).trans he
  have e2 : (h₁.push { cls := .type "traceback", dict := none, data := .fields ts }).get? e = some oe := Heap.get?_push_of_some _ e1
  have t2 : (h₁.push { cls := .type "traceback", dict := none, data := .fields ts }).get? h₁.objs.size = some { cls := .type "traceback", dict := none, data := .fields ts } := Heap.get?_push_size h₁ rfl
  have hTe : h₁.objs.size ≠ e := fun q => by rw [← q] at e1; exact absurd (Heap.lt_size e1) (Nat.lt_irrefl _)
  refine wpAny_setField e2 hd hsz ?_
  have d3 := Obj.data_mapFields hd (·.setIfInBounds 1 (Value.ref h₁.objs.size))
  have e3 := Heap.get?_update_self (Obj.mapFields (·.setIfInBounds 1 (Value.ref h₁.objs.size))) e2 (Obj.isFreed_of_fields d3)
  have t3 := (Heap.get?_update_other (h₁.push { cls := .type "traceback", dict := none, data := .fields ts }) (Obj.mapFields (·.setIfInBounds 1 (Value.ref h₁.objs.size))) (Ne.symm hTe)).trans t2
  unfold setFlight
  refine wpAny_bind (wpAny_field e3 d3 (x := .ref h₁.objs.size) (by simp [hsz]) ?_)
  rw [if_pos (show (Value.ref h₁.objs.size != Value.none) = true from by simp)]
  have dT : ({ cls := .type "traceback", dict := none, data := .fields ts } : Obj).data = .fields ts := rfl
  refine wpAny_setField t3 rfl htsz (h _ h₁.objs.size ?_ hTe ?_ ?_ fun b o ho hb => ?_)
  · cases q : s.heap.get? h₁.objs.size with
    | none => rfl
    | some o => rw [hs₁.1] at q; exact absurd (Heap.lt_size q) (Nat.lt_irrefl _)
  · refine ⟨_, _, ?_, Obj.cls_mapFields _ _, d3, by simp [hsz]⟩
    rw [Heap.get?_update_other _ _ hTe]; exact e3
  · exact ⟨_, _, Heap.get?_update_self _ t3 (Obj.isFreed_of_fields (Obj.data_mapFields rfl _)), Obj.data_mapFields rfl _, by simp [htsz]⟩
  · have keep : ∀ {o'}, h₁.get? b = some o' → (((h₁.push { cls := .type "traceback", dict := none, data := .fields ts }).update e (Obj.mapFields (·.setIfInBounds 1 (Value.ref h₁.objs.size)))).update h₁.objs.size (Obj.mapFields (·.setIfInBounds 3 ((none : Option Addr).elim Value.none fun f => rawInt f)))).get? b = some o' := fun {o'} q => by
      have hbT : h₁.objs.size ≠ b := fun z => by rw [← z] at q; exact absurd (Heap.lt_size q) (Nat.lt_irrefl _)
      rw [Heap.get?_update_other _ _ hbT, Heap.get?_update_other _ _ (Ne.symm hb)]
      exact Heap.get?_push_of_some _ q
    obtain ⟨sl, q⟩ := hs₁.2.2 b o ho
    exact ⟨fun n => keep ((hs₁.2.1 b n).trans ho), sl, keep q⟩
structure ExcT (hs h : Heap) (x : Value) : Prop where
  ex : ∃ e oe vs T oT ts, x = .ref e ∧ hs.get? e = none ∧ h.get? e = some oe ∧ oe.cls = .type "ValueError" ∧ oe.data = .fields vs ∧ vs[1]? = some (.ref T) ∧ hs.get? T = none ∧ T ≠ e ∧ h.get? T = some oT ∧ oT.data = .fields ts ∧ ts[3]? = some .none
theorem ExcT.at {hs h : Heap} {x : Value} (q : ExcT hs h x) : ExcAt W hs h x := by
  obtain ⟨e, oe, vs, T, oT, ts, h1, h2, h3, h4, h5, h6, h7⟩ := q.ex
  exact ⟨e, oe, vs, h1, h2, h3, h4, h5, .inr ⟨T, oT, ts, h6, h7⟩⟩
theorem note_exc {M : Model} {A : Around} {E : Value → Shared → Prop} {s : Shared} {hs : Heap} {outer : List Env} {L : Addr} {x : Value} {ρ : Rh} {Q : Unit → Shared → Prop}
    (hfr : A.frames = some (env :: outer)) (hl : FrOk W s.heap ρ (env :: outer)) (hf : env.frame = some L) (q : ExcAt W hs s.heap x) (there : ∀ b o, hs.get? b = some o → ∃ o', s.heap.get? b = some o')
    (h : ∀ h', ExcT hs h' x → Gone hs ((env :: outer).filterMap (·.frame)) s.heap h' → Q () { s with heap := h' }) : wpAny M A (noteFrame x env) (fun _ s' => wpAny M A (setFlight x none) Q E s') E s := by
  obtain ⟨e, oe, vs, rfl, hn, he, hc, hd, ht⟩ := q.ex
  have none_back : ∀ T, s.heap.get? T = none → hs.get? T = none := fun T z => by
    cases y : hs.get? T with
    | none => rfl
    | some o => obtain ⟨o', y'⟩ := there T o y; rw [z] at y'; cases y'
  unfold noteFrame
  simp only [hf]
  rcases ht with h1 | ⟨T, oT, ts, h1, hnT, hTe, hT, hdT, h3⟩
  · refine wpAny_bind (wpAny_field he hd h1 ?_)
    rw [if_neg (by decide)]
    refine entry_new hfr hl.ff hf he hd (Array.getElem?_eq_some_iff.mp h1).1 fun h' T hnT hTe ⟨oe', vs', x1, x2, x3, x4⟩ ⟨oT, ts, y1, y2, y3⟩ k => h h' ⟨e, oe', vs', T, oT, ts, rfl, hn, x1, x2.trans hc, x3, x4, none_back T hnT, hTe, y1, y2, y3⟩ fun b o ho hor => ?_
    refine k b o ho fun z => ?_
    subst z
    rw [he] at ho; cases ho
    rcases hor with w | ⟨o₀, w⟩
    · exact w vs hd
    · rw [hn] at w; cases w
  · refine wpAny_bind (wpAny_field he hd h1 ?_)
    rw [if_pos (show (Value.ref T != Value.none) = true from by simp)]
    refine wpAny_bind (wpAny_field hT hdT h3 ?_)
    rw [if_neg (show ¬ ((Value.none == rawInt L) = true) from by simp [rawInt])]
    refine wpAny_bind (wpAny_setField hT hdT (Array.getElem?_eq_some_iff.mp h3).1 ?_)
    have other : ∀ b, b ≠ T → (s.heap.update T (Obj.mapFields (·.setIfInBounds 3 Value.none))).get? b = s.heap.get? b := fun b hb => Heap.get?_update_other _ _ (Ne.symm hb)
    refine entry_new hfr (hl.ff.of_keeps fun b o ho hnf => ⟨o, (other b fun z => by subst z; rw [hT] at ho; cases ho; exact hnf ts hdT).trans ho, rfl⟩) hf ((other e (Ne.symm hTe)).trans he) hd (Array.getElem?_eq_some_iff.mp h1).1
      fun h' T' hnT' hTe' ⟨oe', vs', x1, x2, x3, x4⟩ ⟨oT', ts', y1, y2, y3⟩ k => h h' ⟨e, oe', vs', T', oT', ts', rfl, hn, x1, x2.trans hc, x3, x4, none_back T' ?_, hTe', y1, y2, y3⟩ fun b o ho hor => ?_
    · by_cases z : T' = T
      · subst z
        have := Heap.get?_update_self (Obj.mapFields (·.setIfInBounds 3 Value.none)) hT (Obj.isFreed_of_fields (Obj.data_mapFields hdT _))
        rw [this] at hnT'; cases hnT'
      · exact (other T' z).symm.trans hnT'
    · have hbT : b ≠ T := fun z => by
        subst z
        rw [hT] at ho; cases ho
        rcases hor with w | ⟨o₀, w⟩
        · exact w ts hdT
        · rw [hnT] at w; cases w
      refine k b o ((other b hbT).trans ho) fun z => ?_
      subst z
      rw [he] at ho; cases ho
      rcases hor with w | ⟨o₀, w⟩
      · exact w vs hd
      · rw [hn] at w; cases w
theorem leave_exc {M : Model} {A : Around} {E : Value → Shared → Prop} {s : Shared} {hs : Heap} {outer : List Env} {L : Addr} {x : Value} {ρ : Rh} {Q : Unit → Shared → Prop}
    (hfr : A.frames = some (env :: outer)) (hl : FrOk W s.heap ρ (env :: outer)) (hf : env.frame = some L) (q : ExcAt W hs s.heap x) (there : ∀ b o, hs.get? b = some o → ∃ o', s.heap.get? b = some o')
    (h : ∀ h', ExcAt W hs h' x → Gone hs ((env :: outer).filterMap (·.frame)) s.heap h' → Q () { s with heap := h' }) : wpAny M A (leaving env x) Q E s := by
  unfold leaving
  exact wpAny_bind (note_exc hfr hl hf q there fun h' t g => h h' t.at g)
theorem flight_exc {M : Model} {A : Around} {E : Value → Shared → Prop} {s : Shared} {hs : Heap} {x : Value} {Q : Unit → Shared → Prop} (q : ExcT hs s.heap x) (fr : List Addr)
    (h : ∀ h', Gone hs fr s.heap h' → Q () { s with heap := h' }) : wpAny M A (setFlight x none) Q E s := by
  obtain ⟨e, oe, vs, T, oT, ts, rfl, hn, he, hc, hd, h1, hnT, hTe, hT, hdT, h3⟩ := q.ex
  unfold setFlight
  refine wpAny_bind (wpAny_field he hd h1 ?_)
  rw [if_pos (show (Value.ref T != Value.none) = true from by simp)]
  refine wpAny_setField hT hdT (Array.getElem?_eq_some_iff.mp h3).1 (h _ fun b o ho hor => ?_)
  have hb : b ≠ T := fun z => by
    subst z
    rw [hT] at ho; cases ho
    rcases hor with w | ⟨o₀, w⟩
    · exact w ts hdT
    · rw [hnT] at w; cases w
  have e1 := (Heap.get?_update_other s.heap (Obj.mapFields (·.setIfInBounds 3 ((none : Option Addr).elim Value.none fun f => rawInt f))) (Ne.symm hb)).trans ho
  exact ⟨fun _ => e1, o.slots, e1⟩
theorem Gone.trans {hs h h' h'' : Heap} {fr : List Addr} (x : Gone hs fr h h') (y : Gone hs fr h' h'') : Gone hs fr h h'' := fun b o ho hor => by
  obtain ⟨k1, sl, e1⟩ := x b o ho hor
  obtain ⟨k2, sl2, e2⟩ := y b _ e1 hor
  refine ⟨fun n => ?_, sl2, e2⟩
  have e3 := k1 n
  rw [e1] at e3
  have := (y b _ e1 hor).1 n
  rw [this]; exact e3
theorem Rel.gone {hs h h' : Heap} {ρ : Rh} {σ : PS} {l : List Env} (R : Rel W env h ρ σ) (g : Gone hs (l.filterMap (·.frame)) h h') (hout : ∀ L ∈ l.filterMap (·.frame), L ∉ ρ.a) (hb : ∀ b o, W.h₀.get? b = some o → hs.get? b = some o) (ff : h.FunFrames W.h₀ l) : Rel W env h' ρ σ := by
  obtain ⟨m, hn, hl⟩ := R.lk
  have cell : ∀ {c : Addr} {v : Option Value}, h.IsCell c v → h'.IsCell c v := fun {c v} z => by
    have z' := z
    obtain ⟨o, e, dd⟩ := z'
    refine cell_slots z fun o' e' => ?_
    rw [e] at e'; cases e'
    exact (g c o e (.inl fun vs q => by rw [dd] at q; cases q)).2
  refine ⟨R.eok, R.cells.gone g hout hb ff, ⟨m, ?_, fun n p e => ?_⟩, R.fpn, R.fpd, R.apart, fun x hx => ?_⟩
  · have hn' := hn
    obtain ⟨o, es, ep, e, dd, _⟩ := hn'
    refine ns_slots hn fun o' e' => ?_
    rw [e] at e'; cases e'
    exact (g _ o e (.inl fun vs q => by rw [dd] at q; cases q)).2
  · obtain ⟨v, r, na⟩ := hl n p e
    refine ⟨v, r.stb g.stb, ?_⟩
    rcases na with na | ⟨na, c, e1, e2⟩
    · exact .inl na
    · exact .inr ⟨na, c, e1, cell e2⟩
  · obtain ⟨v, z⟩ := R.isc x hx
    exact ⟨v, cell z⟩
end
end

section
open PySem PySem.W PyProof.Rows PySem.Spec PySem.SeqAt
set_option autoImplicit false
set_option linter.unusedVariables false
set_option maxRecDepth 100000
set_option tactic.hygienic false
noncomputable def BRel (h : Heap) (ρ : Rh) : List (Str × Value) → List (String × PV) → Prop := All2 fun x y => x.1 = Str.ofString y.1 ∧ RepV h ρ x.2 y.2
section
variable {W : Wd} {d : Nat} {env : Env} {G : GG}
theorem bindL_out {kindOf : Str → Option NameKind} {h : Heap} {ρ : Rh} {binds : List (Str × Value)} {l : List (String × PV)} (z : BRel h ρ binds l) {n : String} (hn : n ∉ l.map (·.1)) : ∀ (m : Str → Option Value), bindL kindOf binds m (Str.ofString n) = m (Str.ofString n) ∧ bindC kindOf binds m (Str.ofString n) = m (Str.ofString n) := by
  induction z with
  | nil => intro m; exact ⟨rfl, rfl⟩
  | @cons a b as bs r _ ih =>
    intro m
    obtain ⟨x, v⟩ := a
    obtain ⟨e, _⟩ := r
    simp only [List.map_cons, List.mem_cons, not_or] at hn
    have hne : Str.ofString n ≠ x := fun q => hn.1 (ofString_inj (q.trans e))
    unfold bindL bindC
    obtain ⟨h1, _⟩ := ih hn.2 (if kindOf x = some .local then fun y => if y = x then some v else m y else m)
    obtain ⟨_, h2⟩ := ih hn.2 (if kindOf x = some .local then m else fun y => if y = x then some v else m y)
    rw [h1, h2]
    constructor <;> split <;> simp [hne]
theorem bind_get {kindOf : Str → Option NameKind} {h : Heap} {ρ : Rh} {binds : List (Str × Value)} {l : List (String × PV)} (z : BRel h ρ binds l) {n : String} {p : PV} : ∀ (m m' : Str → Option Value), (l.map (·.1)).Nodup → l.lookup n = some p → ∃ v, RepV h ρ v p ∧ (kindOf (Str.ofString n) = some .local → bindL kindOf binds m (Str.ofString n) = some v) ∧ (kindOf (Str.ofString n) ≠ some .local → bindC kindOf binds m' (Str.ofString n) = some v) := by
  induction z with
  | nil => intro m m' _ h; cases h
  | @cons a b as bs r z ih =>
    intro m m' hnd hl
    obtain ⟨x, v⟩ := a
    obtain ⟨y, q⟩ := b
    obtain ⟨e, rv⟩ := r
    simp only at e rv
    simp only [List.map_cons, List.nodup_cons] at hnd
    rw [List.lookup_cons] at hl
    by_cases hy : n = y
    · subst hy
      simp only [beq_self_eq_true] at hl
      cases hl
      refine ⟨v, rv, fun hk => ?_, fun hk => ?_⟩
      · unfold bindL
        rw [(bindL_out z hnd.1 _).1, if_pos (by rw [e]; exact hk)]; simp [e]
      · unfold bindC
        rw [(bindL_out z hnd.1 _).2, if_neg (by rw [e]; exact hk)]; simp [e]
    · have : (n == y) = false := by simpa using hy
      simp only [this] at hl
      unfold bindL bindC
      exact ih _ _ hnd.2 hl
noncomputable def BindOk (W : Wd) (fd : FuncData) (pb : List PV → List (String × PV) → List PO → Option (List (String × PV) × List PO)) : Prop :=
  ∀ (M : Model) (A : Around) (s : Shared) (ρ : Rh) (H : List PO) (args : List Value) (kw : List (Str × Value)) (pargs : List PV) (pkw : List (String × PV)) (l : List (String × PV)) (H' : List PO) (Q : List (Str × Value) → Shared → Prop) (E : Value → Shared → Prop),
    Cells W s.heap ρ H → All2 (RepV s.heap ρ) args pargs → KwRel s.heap ρ kw pkw → pb pargs pkw H = some (l, H') →
    (∀ binds h' ρ' tk, Cells W h' ρ' H' → Keeps s.heap h' → Ext W [] s.heap ρ h' ρ' → ρ'.t = ρ.t → s.toks ≤ tk → BRel h' ρ' binds l → Q binds { s with heap := h', toks := tk }) → wpAny M A (bindArgs fd ⟨args, kw⟩) Q E s
noncomputable def fspec (pb : List PV → List (String × PV) → List PO → Option (List (String × PV) × List PO)) (p : PM PF) : FSpec := fun a kw H => match pb a kw H with
  | none => none
  | some (l, H₁) => match p ⟨l, H₁⟩ with
    | some (.ok (.ret v), σ) => some (.ok v, σ.H)
    | some (.ok .next, σ) => some (.ok .none, σ.H)
    | _ => none
noncomputable abbrev fenv (fd : FuncData) (L fa : Addr) : Env := callEnvC fd L fa
noncomputable def CHolds (W : Wd) (d : Nat) (f : Value) (spec : FSpec) : Prop :=
  ∀ (A : Around) (s : Shared) (ρ : Rh) (H : List PO) (args : List Value) (kw : List (Str × Value)) (pargs : List PV) (pkw : List (String × PV)) (R : Result → Shared → Prop),
    AOk W d A s ρ → Cells W s.heap ρ H → All2 (RepV s.heap ρ) args pargs → KwRel s.heap ρ kw pkw → FPost W s ρ (fun v s' => R (.ok (.ret v)) s') (fun e s' => R (.error e) s') (spec pargs pkw H) → codeAny (model W.prog W.w) A (.call f ⟨args, kw⟩) R s
theorem CHolds.f {W : Wd} {d : Nat} {f : Value} {spec : FSpec} (h : CHolds W d f spec) : FHolds W d f spec := by
  intro A s ρ H args kw pargs pkw Q E ha hc hra hrk hp
  exact wpAny_call (h A s ρ H args kw pargs pkw _ ha hc hra hrk hp)
theorem AOk.less {W : Wd} {d d' : Nat} {A : Around} {s : Shared} {ρ : Rh} (h : AOk W d A s ρ) (l : d' ≤ d) : AOk W d' A s ρ := ⟨by have := h.depth; lia, by have := h.units; lia, h.handled, h.fr, h.tok, h.pos⟩
theorem CHolds.more {W : Wd} {d d' : Nat} {f : Value} {spec : FSpec} (h : CHolds W d f spec) (l : d ≤ d') : CHolds W d' f spec := fun A s ρ H args kw pargs pkw R ha => h A s ρ H args kw pargs pkw R (ha.less l)
theorem FHolds.more {W : Wd} {d d' : Nat} {f : Value} {spec : FSpec} (h : FHolds W d f spec) (l : d ≤ d') : FHolds W d' f spec := fun A s ρ H args kw pargs pkw Q E ha => h A s ρ H args kw pargs pkw Q E (ha.less l)
structure DefOk (W : Wd) (fa : Addr) (fd : FuncData) (body : List Stmt) (ns : List String) : Prop where
  obj : ∃ o, W.K.lookup fa = some o ∧ o.data = .func fd
  body : fd.body = .stmts body
  code : codeIn W.K fd.code fd.qualname = true
  glob : fd.globals = mainGlobals
  blt : fd.builtins = builtinsNs
  clo : fd.closure = []
  co : fd.scope.isCoroutine = false
  gen : fd.scope.isGenerator = false
  kind : fd.scope.kind = .function
  names : ∀ k, ∀ n ∈ ns, fd.scope.names.lookup (Str.ofString n) = some .local ∨ (fd.scope.names.lookup (Str.ofString n) = some .cell ∧ ((cellsFrom k fd.scope.names []).lookup (Str.ofString n)).isSome = true)
  nd : ns.Nodup
  cnd : ((cellsFrom 0 fd.scope.names []).map (·.1)).Nodup
noncomputable def SBf (W : Wd) (d : Nat) (env : Env) (b : List Stmt) (p : PM PF) : Prop :=
  ∀ (A : Around) (s : Shared) (ρ : Rh) (σ : PS) (Q : Flow → Shared → Prop) (E : Value → Shared → Prop), (∃ outer, A.frames = some (env :: outer)) → AOk W d A s ρ → Rel W env s.heap ρ σ → Post W env rrF s ρ Q E (p σ) → wpAny (model W.prog W.w) A (execs b env) Q E s
theorem SB.f {b : List Stmt} {p : PM PF} (h : SB W d env b p) : SBf W d env b p := fun A s ρ σ Q E _ ha hr hp => h GG.tt A s ρ σ Q E ha hr trivial hp
noncomputable def fspecX (pb : List PV → List (String × PV) → List PO → Option (List (String × PV) × List PO)) (p : PM PF) : FSpec := fun a kw H => match pb a kw H with
  | none => none
  | some (l, H₁) => match p ⟨l, H₁⟩ with
    | some (.ok (.ret v), σ) => some (.ok v, σ.H)
    | some (.ok .next, σ) => some (.ok .none, σ.H)
    | some (.exc, σ) => some (.exc, σ.H)
    | _ => none
theorem fspec_X {pb : List PV → List (String × PV) → List PO → Option (List (String × PV) × List PO)} {p : PM PF} {a : List PV} {kw : List (String × PV)} {H : List PO} {r : Res PV × List PO} (h : fspec pb p a kw H = some r) : fspecX pb p a kw H = some r := by
  unfold fspec at h
  unfold fspecX
  cases hb : pb a kw H with
  | none => rw [hb] at h; cases h
  | some lH =>
    obtain ⟨l, H₁⟩ := lH
    rw [hb] at h
    dsimp only at h ⊢
    generalize p ⟨l, H₁⟩ = q at h ⊢
    match q, h with
    | some (.ok (.ret v), σ), h => exact h
    | some (.ok .next, σ), h => exact h
theorem c_defG {fa : Addr} {fd : FuncData} {body : List Stmt} {ns : List String} {pb : List PV → List (String × PV) → List PO → Option (List (String × PV) × List PO)} {spec : FSpec} (D : DefOk W fa fd body ns) (hb : BindOk W fd pb) (hns : ∀ a kw H l H', pb a kw H = some (l, H') → l.map (·.1) = ns)
    (hbody : ∀ L, ∃ p, SBf W d (fenv fd L fa) body p ∧ ∀ a kw H r, spec a kw H = some r → fspecX pb p a kw H = some r) : CHolds W (d + 1) (.ref fa) spec := by
  intro A s ρ H args kw pargs pkw R₀ ha hc hra hrk hp
  let Q : Value → Shared → Prop := fun v s' => R₀ (.ok (.ret v)) s'
  let E : Value → Shared → Prop := fun e s' => R₀ (.error e) s'
  obtain ⟨o, ho, hd⟩ := D.obj
  have hof := hc.base _ _ (W.X _ _ ho)
  have hK : W.K.In s.heap := W.X.keeps hc.base
  have hlim : s.heap.NoLimit := W.nolimit.keeps hc.base
  refine codeAny_call_function (by have := ha.depth; lia) hof hd D.co D.gen D.body (codeRec_of hK D.code) ?_
  cases hsp : spec pargs pkw H with
  | none => rw [hsp] at hp; exact hp.elim
  | some r₀ =>
  rw [hsp] at hp
  cases hpb : pb pargs pkw H with
  | none =>
    obtain ⟨p, _, hl⟩ := hbody 0
    have := hl _ _ _ _ hsp
    unfold fspecX at this
    rw [hpb] at this; cases this
  | some lH =>
    obtain ⟨l, H₁⟩ := lH
    refine hb _ _ s ρ H args kw pargs pkw l H₁ _ _ hc hra hrk hpb fun binds h₁ ρ₁ tk₁ hc₁ hk₁ he₁ hrt ht₁ hbr => ?_
    have hnm := hns _ _ _ _ _ hpb
    rw [D.clo]
    refine wpAny_with_toks (n := tk₁) (Nat.le_refl _) (wpAny_newFunctionEnv_cells D.kind (fun x hx => ?_) fun env he s' x htk => ?_)
    · have : ∃ n ∈ ns, x.1 = Str.ofString n := by
        rw [← hnm]
        clear hpb hp hnm
        induction hbr with
        | nil => cases hx
        | @cons a b as bs r z ih =>
          rcases List.mem_cons.mp hx with rfl | hx
          · exact ⟨b.1, by simp, r.1⟩
          · obtain ⟨n, hn, e⟩ := ih hx; exact ⟨n, by simp at hn ⊢; exact .inr hn, e⟩
      obtain ⟨n, hn, e⟩ := this
      rw [e]; exact D.names _ n hn
    · have hE : env = fenv fd h₁.objs.size fa := he
      refine ⟨(hlim.keeps hk₁).keeps x.toInCall.keep, codeAny_func ?_⟩
      obtain ⟨h₂, tk₂, es', hk₂⟩ := x.done
      have hk₂' : Keeps h₁ h₂ := hk₂
      have hns₂ := x.toInCall.ns
      have hcell := x.cell
      have habove := x.above
      have hap := x.apart
      rw [es'] at hns₂ hcell
      have hL : env.locals = h₁.objs.size := by rw [hE]; rfl
      have fresh : ∀ a, h₁.objs.size ≤ a → h₁.get? a = none := fun a q => by
        cases e : h₁.get? a with
        | none => rfl
        | some o' => exact absurd (Heap.lt_size e) (Nat.not_lt.mpr q)
      have hfp : ∀ a ∈ fp env, h₁.get? a = none := fun a q => by
        rcases List.mem_cons.mp q with rfl | q
        · exact fresh _ (by rw [hL]; exact Nat.le_refl _)
        · obtain ⟨y, hy, rfl⟩ := List.mem_map.mp q
          exact fresh _ (Nat.le_of_lt (by rw [← hL]; exact habove y.1 y.2 hy))
      have hcs : Cells W h₂ ρ₁ H₁ := hc₁.keeps hk₂'
      have inh : ∀ a ∈ ρ₁.a, ∃ ob, h₁.get? a = some ob := fun a q => by
        obtain ⟨_, _, _, _, r⟩ := hc₁.get q; exact r.there
      have cellIn : ∀ y ∈ env.cells, ∃ v, h₂.IsCell y.2 v := fun y hy => by
        have : ∃ n, env.cells.lookup n = some y.2 := by
          rw [hE] at hy ⊢
          exact ⟨y.1, lookup_of_mem_nodup (cellsFrom_names fd.scope.names 0 (h₁.objs.size + 1) [] [] rfl ▸ D.cnd) hy⟩
        obtain ⟨n, e⟩ := this
        exact ⟨_, hcell n y.2 e⟩
      have R : Rel W env h₂ ρ₁ ⟨l, H₁⟩ := by
        refine ⟨⟨by rw [hE]; exact D.kind, by rw [hE]; exact D.glob, by rw [hE]; exact D.blt⟩, hcs, ⟨_, hns₂, fun n q hl => ?_⟩, fun a q => ⟨?_, fun z => ?_⟩, fun y hy e => ?_, hap, cellIn⟩
        · obtain ⟨v, rv, h1, h2⟩ := bind_get (kindOf := env.kindOf) hbr (fun _ => none) (fun _ => none) (by rw [hnm]; exact D.nd) hl
          refine ⟨v, rv.stb (hk₂'.stb .refl), ?_⟩
          have hmem : n ∈ ns := by
            rw [← hnm]
            clear hp hpb hnm h1 h2 rv hbr
            induction l with
            | nil => cases hl
            | cons b l ih =>
              rw [List.lookup_cons] at hl
              by_cases q : n = b.1
              · simp [q]
              · have : (n == b.1) = false := by simpa using q
                rw [this] at hl
                have := ih hl
                simp at this ⊢; exact .inr this
          have hk := D.names (h₁.objs.size + 1) n hmem
          have hkk : env.kindOf (Str.ofString n) = fd.scope.names.lookup (Str.ofString n) := by rw [hE]; rfl
          rcases hk with hk | ⟨hk, hc⟩
          · exact .inl ⟨hkk.trans hk, h1 (hkk.trans hk)⟩
          · obtain ⟨c, hc⟩ := Option.isSome_iff_exists.mp hc
            have hc' : env.cells.lookup (Str.ofString n) = some c := by rw [hE]; exact hc
            refine .inr ⟨.inl (hkk.trans hk), c, hc', ?_⟩
            have := hcell _ _ hc'
            rw [h2 (by rw [hkk, hk]; decide)] at this
            exact this
        · cases e : W.h₀.get? a with
          | none => rfl
          | some o' => have := hc₁.base a o' e; rw [hfp a q] at this; cases this
        · obtain ⟨ob, e⟩ := inh a z; rw [hfp a q] at e; cases e
        · exact Nat.ne_of_gt (habove y.1 y.2 hy) e
      have hA : AOk W d (A.deeper env) s' ρ₁ := by
        obtain ⟨fl, hfl, hff⟩ := ha.fr
        refine ⟨by have := ha.depth; show A.depth + 1 + 2 * d + 2 < recursionLimit; lia, by have := ha.units; show A.units + 3 + 100 * d + 100 < cLine; lia, ha.handled, ⟨env :: fl, Around.frames_deeper hfl, ⟨?_, fun Lx m q => ?_⟩⟩, ?_, ?_⟩
        · rw [es']
          refine Heap.FunFrames.cons (by rw [hE]; show fd.scope.kind ≠ _; rw [D.kind]; decide) (L := env.locals) (by rw [hE]; rfl) hns₂ (R.fpn _ (.head _)).1 ?_
          exact hff.ff.of_keeps fun b o e _ => ⟨o, hk₂' b o (hk₁ b o e), rfl⟩
        · have hfe : env.frame = some env.locals := by rw [hE]; rfl
          rw [List.filterMap_cons, hfe] at m
          rcases List.mem_cons.mp m with rfl | m
          · exact (R.fpn _ (.head _)).2 q
          · exact (hff.more (h' := s.heap) hff.ff he₁.new).out Lx m q
        · rw [hrt]; exact Nat.le_trans ha.tok (Nat.le_trans ht₁ htk)
        · exact Nat.lt_of_lt_of_le ha.pos (Nat.le_trans ht₁ htk)
      have hxs : s' = { s with heap := h₂, toks := tk₂ } := es'
      obtain ⟨p, hbp, hlp⟩ := hbody h₁.objs.size
      have hlp := hlp _ _ _ _ hsp
      unfold fspecX at hlp
      rw [hpb] at hlp
      dsimp only at hlp
      have hbb : SBf W d env body p := by rw [hE]; exact hbp
      refine hbb (A.deeper env) s' ρ₁ ⟨l, H₁⟩ _ _ (by obtain ⟨fl, hfl, _⟩ := ha.fr; exact ⟨fl, Around.frames_deeper hfl⟩) hA (by rw [hxs]; exact R) ?_
      have ext0 : Ext W (fp env) s.heap ρ h₂ ρ₁ := Ext.trans (he₁.mono fun _ q => by simp at q) (Ext0.keeps hk₂').toExt
      have out : ∀ {h' : Heap} {ρ' : Rh}, Ext W (fp env) h₂ ρ₁ h' ρ' → Ext W [] s.heap ρ h' ρ' := fun e => (ext0.trans e).mono fun a q => .inr (by
        cases z : s.heap.get? a with
        | none => rfl
        | some o' => have := hk₁ a o' z; rw [hfp a q] at this; cases this)
      have hp : FPost W s ρ Q E (match p ⟨l, H₁⟩ with
        | some (.ok (.ret v), σ) => some (.ok v, σ.H)
        | some (.ok .next, σ) => some (.ok .none, σ.H)
        | some (.exc, σ) => some (.exc, σ.H)
        | _ => none) := by rw [hlp]; exact hp
      generalize p ⟨l, H₁⟩ = r at hp ⊢
      match r, hp with
      | none, hp => exact hp.elim
      | some (.exc, σ), hp =>
        intro x h' ρ' tk r1 e1 lt q
        rw [hxs] at e1 q
        obtain ⟨fl, hfl, hff⟩ := ha.fr
        have hA' := hA.ext r1 (by rw [hxs]; exact e1) lt
        obtain ⟨fl', hfl', hff'⟩ := hA'.fr
        rw [Around.frames_deeper hfl] at hfl'
        cases hfl'
        refine leave_exc (W := W) (hs := h₂) (s := { s' with heap := h', toks := tk }) (Around.frames_deeper hfl) (L := env.locals) hff' (by rw [hE]; rfl) q (fun b o e => e1.there b o e) fun h₃ q₃ g₃ => ?_
        rw [hxs]
        have c₃ := r1.cells.gone g₃ hff'.out hcs.base hff'.ff
        have sub : ∀ b o, s.heap.get? b = some o → ∃ o', h₂.get? b = some o' := fun b o e => ⟨o, hk₂' b o (hk₁ b o e)⟩
        exact hp x h₃ ρ' tk c₃ ((out e1).gone (base := W.h₀) g₃ sub hff'.ff) lt (q₃.back sub)
      | some (.ok .brk, _), hp => exact hp.elim
      | some (.ok .cont, _), hp => exact hp.elim
      | some (.ok (.ret v), σ), hp =>
        intro f h' ρ' tk r1 e1 lt q
        rw [hxs] at e1
        rcases RepF.inv q with ⟨_, q2⟩ | ⟨_, q2⟩ | ⟨_, q2⟩ | ⟨v', q', rfl, q2, rv⟩
        · cases q2
        · cases q2
        · cases q2
        · cases q2
          rw [hxs]
          exact hp v' h' ρ' tk r1.cells (out e1) lt rv
      | some (.ok .next, σ), hp =>
        intro f h' ρ' tk r1 e1 lt q
        rw [hxs] at e1
        rcases RepF.inv q with ⟨rfl, _⟩ | ⟨_, q2⟩ | ⟨_, q2⟩ | ⟨v', q', _, q2, rv⟩
        · rw [hxs]
          exact hp .none h' ρ' tk r1.cells (out e1) lt rfl
        · cases q2
        · cases q2
        · cases q2
theorem c_def2 {fa : Addr} {fd : FuncData} {body : List Stmt} {ns : List String} {pb : List PV → List (String × PV) → List PO → Option (List (String × PV) × List PO)} {spec : FSpec} (D : DefOk W fa fd body ns) (hb : BindOk W fd pb) (hns : ∀ a kw H l H', pb a kw H = some (l, H') → l.map (·.1) = ns)
    (hbody : ∀ L, ∃ p, SB W d (fenv fd L fa) body p ∧ ∀ a kw H r, spec a kw H = some r → fspec pb p a kw H = some r) : CHolds W (d + 1) (.ref fa) spec :=
  c_defG D hb hns fun L => by obtain ⟨p, h1, h2⟩ := hbody L; exact ⟨p, h1.f, fun a kw H r h => fspec_X (h2 a kw H r h)⟩
theorem c_defX {fa : Addr} {fd : FuncData} {body : List Stmt} {ns : List String} {pb : List PV → List (String × PV) → List PO → Option (List (String × PV) × List PO)} {spec : FSpec} (D : DefOk W fa fd body ns) (hb : BindOk W fd pb) (hns : ∀ a kw H l H', pb a kw H = some (l, H') → l.map (·.1) = ns)
    (hbody : ∀ L, ∃ p, SB W d (fenv fd L fa) body p ∧ ∀ a kw H r, spec a kw H = some r → fspecX pb p a kw H = some r) : CHolds W (d + 1) (.ref fa) spec :=
  c_defG D hb hns fun L => by obtain ⟨p, h1, h2⟩ := hbody L; exact ⟨p, h1.f, h2⟩
end
end

section
open PySem PySem.W PyProof.Rows PySem.Spec PySem.SeqAt
set_option autoImplicit false
set_option linter.unusedVariables false
set_option maxRecDepth 100000
set_option tactic.hygienic false
noncomputable abbrev NX := Nat → List PO → Option (Option PV)
noncomputable def SI (W : Wd) (d : Nat) (env : Env) (e tg : Expr) (p : PM NX) : Prop :=
  ∀ (G : GG) (A : Around) (s : Shared) (ρ : Rh) (σ : PS) (Q : Value → Shared → Prop) (E : Value → Shared → Prop), AOk W d A s ρ → Rel W env s.heap ρ σ → G.P s.heap ρ →
    (match p σ with
      | some (.ok nx, σ') => ∀ own it Inv h' ρ' tk, Rel W env h' ρ' σ' → Ext W (fp env) s.heap ρ h' ρ' → (ρ'.t ≤ tk ∧ 0 < tk) → Src W own it tg nx Inv → Own W env own s.heap h' ρ' → Inv 0 h' ρ' → Q it { s with heap := h', toks := tk }
      | _ => False) → wpAny (model W.prog W.w) A (eval e env) (fun x s₁ => wpAny (model W.prog W.w) A (pyIter x) Q E s₁) E s
section
variable {W : Wd} {d : Nat} {env : Env} {G : GG}
theorem own_mk {h₀ h₁ h' : Heap} {ρ ρ₁ : Rh} {σ : PS} {own : List Addr} (R : Rel W env h₁ ρ₁ σ) (ex : Ext W (fp env) h₀ ρ h₁ ρ₁) (hn : ∀ b ∈ own, h₁.get? b = none) (fl : ∀ b ∈ own, ∃ o vs, h'.get? b = some o ∧ o.data = .fields vs) : Own W env own h₀ h' ρ₁ := by
  refine ⟨fun b m => ?_, fun b m => ?_, fun b m q => ?_, fun b m q => ?_, fl⟩
  · cases e : h₀.get? b with
    | none => rfl
    | some o => obtain ⟨o', e'⟩ := ex.there b o e; rw [hn b m] at e'; cases e'
  · cases e : W.h₀.get? b with
    | none => rfl
    | some o => have := R.base b o e; rw [hn b m] at this; cases this
  · obtain ⟨o, e⟩ := R.fpIn q; rw [hn b m] at e; cases e
  · obtain ⟨_, _, _, _, r⟩ := R.cells.get q
    obtain ⟨o, e⟩ := r.there; rw [hn b m] at e; cases e
set_option tactic.hygienic true in
theorem letgo_plain {tg : Expr} {I : Addr} {v : Value} {T : String} {o : Obj} {vs : Array Value} {A : Around} {s : Shared} {Q : Unit → Shared → Prop} {E : Value → Shared → Prop} (ho : s.heap.get? I = some o) (hc : o.cls = .type T) (hd : o.data = .fields vs)
    (hT : (["enumerate", "zip", "dict_itemiterator", "dict_reverseitemiterator", "odict_iterator", "itertools.zip_longest", "itertools.pairwise"].contains T) = false) (hq : Q () s) : wpAny (model W.prog W.w) A (letOwnedTupleGo tg (.ref I) v) Q E s := by
  unfold letOwnedTupleGo
  split
  all_goals first
    | exact wpAny_pure hq
    | (split
       · rename_i h
         refine wpAny_bind (wpAny_load (by cases h; exact ho) ?_)
         rw [hc, hd]
         show wpAny _ A (if _ then _ else _) Q E s
         rw [if_neg (by rw [hT]; simp)]
         exact wpAny_pure hq
       · exact wpAny_pure hq)
theorem but_of {I : Addr} {h h' : Heap} (sb : Heap.ExtBut I h h') : But [I] h h' := fun b o n e => sb b o (by simpa using n) e
noncomputable def nxList (i : Nat) : NX := fun j H => match H[i]? with
  | some (.list l) => some l[j]?
  | _ => none
set_option tactic.hygienic true in
theorem nxList_inv {i j : Nat} {H : List PO} {r : Option PV} (h : nxList i j H = some r) : ∃ l, H[i]? = some (.list l) ∧ l[j]? = r := by
  unfold nxList at h
  split at h
  · rename_i l e; exact ⟨l, e, Option.some.inj h⟩
  · cases h
theorem src_list {I : Addr} {i : Nat} {tg : Expr} : Src W [I] (.ref I) tg (nxList i) (fun j h ρ => ∃ a, ρ.a[i]? = some a ∧ h.IsListIter I a j) where
  fld := by
    rintro j h ρ ⟨a, _, o, ho, hc, hd⟩ b m
    rw [List.mem_singleton.mp m]; exact ⟨o, _, ho, hd⟩
  keep := by
    rintro j h h' ρ ρ' ⟨a, e, o, ho, r⟩ st k
    exact ⟨a, st.pre _ _ e, o, k I (by simp) o ho, r⟩
  item := by
    rintro j A s ρ H p Q E hh hc ⟨a, ea, hit⟩ hx hq
    obtain ⟨l, hl, e⟩ := nxList_inv hx
    obtain ⟨vs, n, ho, z⟩ := hc.cell i a _ ea hl
    obtain ⟨v, ev, rv⟩ := z.get e
    refine wpAny_pyNext_list_item hit (items := vs.toArray) ⟨_, ho, rfl, n, rfl⟩ (by simpa using ev) fun h' hit' sb => ?_
    have nI : I ∉ ρ.a := fun q => by
      obtain ⟨_, _, _, _, r⟩ := hc.get q
      obtain ⟨o, ho, hc', hd⟩ := hit
      exact r.noFields ho _ hd
    have st : Stb s.heap ρ h' ρ := by
      refine ⟨fun _ _ e => e, fun b its t => ?_, Nat.le_refl _⟩
      obtain ⟨o, ho, r⟩ := t
      have : b ≠ I := fun q => by
        obtain ⟨o', ho', _, hd'⟩ := hit
        rw [q] at ho; rw [ho] at ho'; cases ho'
        obtain ⟨_, n, hd⟩ := r
        rw [hd] at hd'; cases hd'
      exact ⟨o, by rw [sb.2 b this]; exact ho, r⟩
    refine hq v h' s.toks (but_of sb.extBut) (fun b m => ?_) (rv.stb st) fun A' s' Q' E' es hq' => ?_
    · rw [List.mem_singleton.mp m]; obtain ⟨o, ho, _, hd⟩ := hit'; exact ⟨o, _, ho, hd⟩
    · obtain ⟨o, ho, hc', hd⟩ := id hit'
      refine letgo_plain (by rw [es]; exact ho) hc' hd (by decide) ?_
      have := hq' h' (fun _ _ _ e => e) ⟨a, ea, hit'⟩
      rw [← es] at this; exact this
  self := by
    rintro j A s ρ Q E ⟨a, ea, hit⟩ hq
    exact wpAny_pyIter_listiter hit hq
  stop := by
    rintro j A s ρ H Q E hh hc ⟨a, ea, hit⟩ hx hq
    obtain ⟨l, hl, e⟩ := nxList_inv hx
    obtain ⟨vs, n, ho, z⟩ := hc.cell i a _ ea hl
    refine wpAny_pyNext_list_end hh hit (items := vs.toArray) ⟨_, ho, rfl, n, rfl⟩ ?_ fun h' sb => hq h' s.toks (but_of sb)
    rw [List.getElem?_toArray, List.getElem?_eq_none_iff, z.length, ← List.getElem?_eq_none_iff]; exact e
noncomputable def pnxList (v : PV) : PM NX := match v with
  | .ref i => plist i fun _ => PM.pure (nxList i)
  | _ => pfail
theorem si_list {e tg : Expr} {q : PM PV} (he : SE W d env e q) : SI W d env e tg (PM.bind (pnoexc q) pnxList) := by
  intro G A s ρ σ Q E ha hr hg hp
  refine he G A s ρ σ _ _ ha hr hg ?_
  unfold PM.bind pnoexc at hp
  match hq : q σ, hp with
  | some (.ok v, σ₁), hp =>
    intro x h₁ ρ₁ tk₁ r1 e1 l1 rx
    cases v with
    | ref i =>
      have hp : (match plist i (fun _ => PM.pure (nxList i)) σ₁ with | some (.ok nx, σ') => _ | _ => False) := hp
      unfold plist at hp
      cases hl : σ₁.H[i]? with
      | none => rw [hl] at hp; exact hp.elim
      | some o =>
        rw [hl] at hp
        cases o with
        | dct _ => exact hp.elim
        | inst _ => exact hp.elim
        | list l =>
          obtain ⟨a, rfl, ea, vs, n, ho, z⟩ := ref_inv r1.cells rx hl
          refine wpAny_pyIter_list (s := { s with heap := h₁, toks := tk₁ }) (items := vs.toArray) ⟨_, ho, rfl, n, rfl⟩ ?_
          have k := Keeps.push (h := h₁) { cls := .type "list_iterator", data := .fields #[.ref a, .int 0 0] }
          refine hp [h₁.objs.size] (.ref h₁.objs.size) _ _ ρ₁ tk₁ (r1.keeps k) (e1.trans (Ext0.keeps k).toExt) l1 src_list (own_mk r1 e1 (fun b m => by rw [List.mem_singleton.mp m]; exact fresh_none) fun b m => ?_) ⟨a, ea, ?_⟩
          · rw [List.mem_singleton.mp m]; exact ⟨_, _, Heap.get?_push_size _ rfl, rfl⟩
          · exact ⟨_, Heap.get?_push_size _ rfl, rfl, rfl⟩
    | _ => exact hp.elim
theorem st_for {tg e : Expr} {body : List Stmt} {pos : Pos} {p : PM NX} {asg : PV → PM Unit} {b : PM PF} (N : Nat) (hi : SI W d env e tg p) (hasg : SAs W d env tg asg) (hb : SB W d env body b) (hs : ∀ x, foldedSetIterable e env x = pure x) :
    SSt W d env (.For tg e body [] pos) (PM.bind (pnoexc p) fun nx => pfor nx asg b N 0) := by
  intro G A s ρ σ Q E ha hr hg hp
  refine wpAny_For (hi G A s ρ σ _ _ ha hr hg ?_) hs
  unfold PM.bind pnoexc at hp
  match hq : p σ, hp with
  | some (.ok nx, σ₁), hp =>
    intro own it Inv h₁ ρ₁ tk₁ r1 e1 l1 S ow iv
    exact for_run S hasg hb (s₀ := s) (s := { s with heap := h₁, toks := tk₁ }) rfl (ha.ext r1 e1 l1) r1 ow iv e1 hp
end
end

section
open PySem PySem.W PyProof.Rows PySem.Spec PySem.SeqAt
set_option autoImplicit false
set_option linter.unusedVariables false
set_option maxRecDepth 100000
set_option tactic.hygienic false
section
variable {W : Wd} {d : Nat} {env : Env} {G : GG}
theorem wp_tcall {x : Str} {px pos : Pos} {T : String} {es : List Expr} {q : PM (List PV)} {A : Around} {s : Shared} {ρ : Rh} {σ : PS} {Q : Value → Shared → Prop} {E : Value → Shared → Prop} (hx : env.kindOf x = some .globalImplicit) (e : nsIn W.K mainGlobals x = some none) (eb : bootBuiltins x = some (.type T))
    (hes : SEs W d env es q) (hn : noStar es = true) (ha : AOk W d A s ρ) (hr : Rel W env s.heap ρ σ)
    (h : match q σ with
      | some (.ok l, σ₁) => ∀ vs h₁ ρ₁ tk, AOk W d A { s with heap := h₁, toks := tk } ρ₁ → Rel W env h₁ ρ₁ σ₁ → Ext W (fp env) s.heap ρ h₁ ρ₁ → All2 (RepV h₁ ρ₁) vs l → wpAny (model W.prog W.w) A (call (.type T) vs) Q E { s with heap := h₁, toks := tk }
      | _ => False)
    (hnm : x ≠ "__name__" := by decide) (hd : (x == ("__debug__" : Str)) = false := by decide) : wpAny (model W.prog W.w) A (eval (.Call (.Name x px) es [] pos) env) Q E s := by
  rw [arm_eval_Call_Name']
  refine wpAny_bind (s_bname (d := d) (G := GG.tt) (p := .typ T) hx e eb (fun _ _ => rfl) hnm hd A s ρ σ _ _ ha hr trivial ?_)
  intro g h' ρ' tk r1 e1 l1 rf
  cases rf
  show wpAny _ _ (callWith pos (.type T) [] (backTo pos (starEach es env)) []) _ _ _
  refine PySem.callWith_type (noStar_any hn) ?_
  refine sa_posR (R := rrL) hes hn GG.tt (.type T) pos A _ ρ' σ _ _ (ha.ext r1 e1 l1) r1 trivial ?_
  match hq : q σ, h with
  | some (.ok b, σ₁), h =>
    intro x h₂ ρ₂ tk₂ r2 e2 l2 ra
    obtain ⟨ek, r3⟩ := ra
    rw [ek]
    exact h x.pos h₂ ρ₂ tk₂ ((ha.ext r1 e1 l1).ext r2 e2 l2) r2 (e1.trans e2) r3
noncomputable def nxRange (a n : Int) : NX := fun j _ => if (j : Int) < n then some (some (.int (a + j))) else some none
set_option tactic.hygienic true in
theorem src_range {I : Addr} {a n : Int} {tg : Expr} : Src W [I] (.ref I) tg (nxRange a n) (fun j h ρ => IsRangeIter h I (a + j) (n - j) 1) where
  fld := by
    rintro j h ρ ho b m
    rw [List.mem_singleton.mp m]; exact ⟨_, _, ho, rfl⟩
  keep := by
    rintro j h h' ρ ρ' ho st k
    exact k I (by simp) _ ho
  item := by
    rintro j A s ρ H p Q E hh hc hit hx hq
    unfold nxRange at hx
    split at hx
    · rename_i hj
      cases hx
      refine wpAny_pyNext_range_item hit (by lia) fun h' hit' sb => ?_
      have e1 : a + (j : Int) + 1 = a + ((j + 1 : Nat) : Int) := by lia
      have e2 : n - (j : Int) - 1 = n - ((j + 1 : Nat) : Int) := by lia
      rw [e1, e2] at hit'
      refine hq _ h' _ (but_of sb.extBut) (fun b m => ?_) ⟨_, rfl⟩ fun A' s' Q' E' es hq' => ?_
      · rw [List.mem_singleton.mp m]; exact ⟨_, _, hit', rfl⟩
      · refine letgo_plain (by rw [es]; exact hit') rfl rfl (by decide) ?_
        have := hq' h' (fun _ _ _ e => e) hit'
        rw [← es] at this; exact this
    · cases hx
  self := by
    rintro j A s ρ Q E hit hq
    exact wpAny_pyIter_rangeiter hit hq
  stop := by
    rintro j A s ρ H Q E hh hc hit hx hq
    unfold nxRange at hx
    split at hx
    · cases hx
    · exact wpAny_pyNext_range_end hh hit (by lia) fun h' sb => hq h' s.toks (but_of sb)
noncomputable def pnxRange (l : List PV) : PM NX := match l with
  | [.int n] => pguard (n.natAbs < 2 ^ 62) (PM.pure (nxRange 0 n))
  | [.int a, .int b] => pguard (a.natAbs < 2 ^ 62 ∧ b.natAbs < 2 ^ 62) (PM.pure (nxRange a (b - a)))
  | _ => pfail
theorem range_go {A : Around} {s s₀ : Shared} {ρ ρ₀ : Rh} {σ : PS} {tg : Expr} {a b : Int} {t u v : Tok} {r : Addr} {Q : Value → Shared → Prop} {E : Value → Shared → Prop} (es : s = { s₀ with heap := s.heap, toks := s.toks }) (ha : AOk W d A s ρ) (hr : Rel W env s.heap ρ σ) (ex : Ext W (fp env) s₀.heap ρ₀ s.heap ρ)
    (h1 : a.natAbs < 2 ^ 62) (h2 : b.natAbs < 2 ^ 62) (hR : IsRange s.heap r a b 1 t u v)
    (h : ∀ own it Inv h' ρ' tk, Rel W env h' ρ' σ → Ext W (fp env) s₀.heap ρ₀ h' ρ' → (ρ'.t ≤ tk ∧ 0 < tk) → Src W own it tg (nxRange a (b - a)) Inv → Own W env own s₀.heap h' ρ' → Inv 0 h' ρ' → Q it { s₀ with heap := h', toks := tk }) :
    wpAny (model W.prog W.w) A (pyIter (.ref r)) Q E s := by
  refine wpAny_pyIter_range hR (small_one (by lia) (by lia) (by lia) (by lia)) ?_
  have k := Keeps.push (h := s.heap) { cls := .type "range_iterator", data := .fields #[rawInt a, rawInt (Builtin.Range.rangeSize a b 1), rawInt 1] }
  have q := h [s.heap.objs.size] (.ref s.heap.objs.size) _ _ ρ s.toks (hr.keeps k) (ex.trans (Ext0.keeps k).toExt) ⟨ha.tok, ha.pos⟩ src_range
  rw [es]
  by_cases hab : a < b
  · refine q (own_mk hr ex (fun b m => by rw [List.mem_singleton.mp m]; exact fresh_none) fun b m => ?_) ?_
    · rw [List.mem_singleton.mp m]; exact ⟨_, _, Heap.get?_push_size _ rfl, rfl⟩
    · have e1 : a + ((0 : Nat) : Int) = a := by lia
      have e2 : b - a - ((0 : Nat) : Int) = Builtin.Range.rangeSize a b 1 := by rw [rangeSize_one, if_pos hab]; lia
      show IsRangeIter _ _ (a + ((0 : Nat) : Int)) (b - a - ((0 : Nat) : Int)) 1
      rw [e1, e2]
      exact Heap.get?_push_size _ rfl
  · clear q
    have S : Src W [s.heap.objs.size] (.ref s.heap.objs.size) tg (nxRange a (b - a)) (fun j h ρ => j = 0 ∧ IsRangeIter h s.heap.objs.size a 0 1) := by
      refine ⟨?_, ?_, ?_, ?_, ?_⟩
      · rintro j h ρ ⟨_, ho⟩ b m
        rw [List.mem_singleton.mp m]; exact ⟨_, _, ho, rfl⟩
      · rintro j h h' ρ ρ' ⟨e, ho⟩ st k
        exact ⟨e, k _ (by simp) _ ho⟩
      · rintro j A s ρ H p Q E hh hc ⟨rfl, hit⟩ hx hq
        unfold nxRange at hx
        rw [if_neg (by lia)] at hx; cases hx
      · rintro j A s ρ Q E ⟨_, hit⟩ hq
        exact wpAny_pyIter_rangeiter hit hq
      · rintro j A s ρ H Q E hh hc ⟨_, hit⟩ hx hq
        exact wpAny_pyNext_range_end hh hit (by lia) fun h' sb => hq h' s.toks (but_of sb)
    refine h [s.heap.objs.size] (.ref s.heap.objs.size) _ _ ρ s.toks (hr.keeps k) (ex.trans (Ext0.keeps k).toExt) ⟨ha.tok, ha.pos⟩ S (own_mk hr ex (fun b m => by rw [List.mem_singleton.mp m]; exact fresh_none) fun b m => ?_) ⟨rfl, ?_⟩
    · rw [List.mem_singleton.mp m]; exact ⟨_, _, Heap.get?_push_size _ rfl, rfl⟩
    · have e2 : Builtin.Range.rangeSize a b 1 = 0 := by rw [rangeSize_one, if_neg hab]
      have := Heap.get?_push_size s.heap (o := { cls := .type "range_iterator", data := .fields #[rawInt a, rawInt (Builtin.Range.rangeSize a b 1), rawInt 1] }) rfl
      rw [e2] at this ⊢; exact this
set_option tactic.hygienic true in
theorem pnxRange_inv {l : List PV} {σ : PS} {X : NX → PS → Prop} (h : match pnxRange l σ with | some (.ok nx, σ') => X nx σ' | _ => False) :
    (∃ n : Int, l = [.int n] ∧ n.natAbs < 2 ^ 62 ∧ X (nxRange 0 n) σ) ∨ (∃ a b : Int, l = [.int a, .int b] ∧ (a.natAbs < 2 ^ 62 ∧ b.natAbs < 2 ^ 62) ∧ X (nxRange a (b - a)) σ) := by
  generalize hz : pnxRange l = z at h
  unfold pnxRange at hz
  split at hz
  · rename_i n
    unfold pguard at hz
    split at hz
    · rename_i hn; subst hz; exact .inl ⟨n, rfl, hn, h⟩
    · subst hz; exact h.elim
  · rename_i a b
    unfold pguard at hz
    split at hz
    · rename_i hn; subst hz; exact .inr ⟨a, b, rfl, hn, h⟩
    · subst hz; exact h.elim
  · subst hz; exact h.elim
theorem si_range {es : List Expr} {px pos : Pos} {tg : Expr} {q : PM (List PV)} (hx : env.kindOf "range" = some .globalImplicit) (e : nsIn W.K mainGlobals "range" = some none) (hes : SEs W d env es q) (hn : noStar es = true) :
    SI W d env (.Call (.Name "range" px) es [] pos) tg (PM.bind (pnoexc q) pnxRange) := by
  intro G A s ρ σ Q E ha hr hg hp
  refine wp_tcall (T := "range") hx e (by decide +kernel) hes hn ha hr ?_
  unfold PM.bind pnoexc at hp
  match hq : q σ, hp with
  | some (.ok l, σ₁), hp =>
    intro vs h₁ ρ₁ tk₁ ha₁ r1 e1 rl
    rcases pnxRange_inv hp with ⟨n, rfl, hn, hp⟩ | ⟨a, b, rfl, hn, hp⟩
    · obtain ⟨v, rfl, t, rfl⟩ := one_inv rl
      refine call_range_1 ?_
      have k := Keeps.push (h := h₁) { cls := .type "range", data := .fields #[.int 0 tk₁, .int n t, .int 1 (tk₁ + 1)] }
      have r2 := r1.keeps k
      have ex2 := e1.trans (Ext0.keeps (W := W) (X := fp env) (ρ := ρ₁) k).toExt
      have ha2 := ha₁.ext r2 (Ext0.keeps k).toExt (tk := tk₁ + 1 + 1) ⟨Nat.le_trans ha₁.tok (by show tk₁ ≤ _; lia), by lia⟩
      refine range_go (tg := tg) (s₀ := s) (ρ₀ := ρ) (a := 0) (b := n) (s := { s with heap := h₁.push { cls := .type "range", data := .fields #[.int 0 tk₁, .int n t, .int 1 (tk₁ + 1)] }, toks := tk₁ + 1 + 1 }) rfl ha2 r2 ex2 (by decide) hn (Heap.get?_push_size _ rfl) ?_
      rw [Int.sub_zero]; exact hp
    · obtain ⟨v, w, rfl, ⟨t, rfl⟩, u, rfl⟩ := two_inv rl
      refine call_range_2 ?_
      have k := Keeps.push (h := h₁) { cls := .type "range", data := .fields #[.int a t, .int b u, .int 1 tk₁] }
      have r2 := r1.keeps k
      have ex2 := e1.trans (Ext0.keeps (W := W) (X := fp env) (ρ := ρ₁) k).toExt
      have ha2 := ha₁.ext r2 (Ext0.keeps k).toExt (tk := tk₁ + 1) ⟨Nat.le_trans ha₁.tok (by show tk₁ ≤ _; lia), by lia⟩
      exact range_go (tg := tg) (s₀ := s) (ρ₀ := ρ) (s := { s with heap := h₁.push { cls := .type "range", data := .fields #[.int a t, .int b u, .int 1 tk₁] }, toks := tk₁ + 1 }) rfl ha2 r2 ex2 hn.1 hn.2 (Heap.get?_push_size _ rfl) hp
noncomputable def nxEnum (i : Nat) : NX := fun j H => match H[i]? with
  | some (.list l) => (match l[j]? with
    | some p => if allAtoms [p] = true then some (some (.tup [.int j, p])) else none
    | none => some none)
  | _ => none
set_option tactic.hygienic true in
theorem src_enum {e it : Addr} {i : Nat} {elts : List Expr} {k : Nat} {tp : Pos} (hne : e ≠ it) : Src W [e, it] (.ref e) (.Tuple elts k tp) (nxEnum i) (fun j h ρ => ∃ a old, ρ.a[i]? = some a ∧ IsEnum h e it j old ∧ h.IsListIter it a j) where
  fld := by
    rintro j h ρ ⟨a, old, _, he, o, ho, hc, hd⟩ b m
    simp only [List.mem_cons, List.not_mem_nil, or_false] at m
    rcases m with rfl | rfl
    · exact ⟨_, _, he, rfl⟩
    · exact ⟨o, _, ho, hd⟩
  keep := by
    rintro j h h' ρ ρ' ⟨a, old, e1, he, o, ho, r⟩ st k
    exact ⟨a, old, st.pre _ _ e1, k e (by simp) _ he, o, k it (by simp) o ho, r⟩
  item := by
    rintro j A s ρ H p Q E hh hc ⟨a, old, ea, he, hit⟩ hx hq
    unfold nxEnum at hx
    split at hx
    · rename_i l hl
      split at hx
      · rename_i p' hp'
        split at hx
        · rename_i hat
          cases hx
          obtain ⟨vs, n, ho, z⟩ := hc.cell i a _ ea hl
          obtain ⟨v, ev, rv⟩ := z.get hp'
          have rva : RepA ρ v p' := by
            have := atoms_rep (vs := [v]) (l := [p']) (.cons rv .nil) hat
            cases this; assumption
          refine wpAny_pyNext_enum_item he hit (items := vs.toArray) ⟨_, ho, rfl, n, rfl⟩ (by simpa using ev) hne fun h' heo hit' ht hz hk => ?_
          refine hq (.ref s.heap.objs.size) h' (s.toks + 1) (fun b o nb e1 => hk b o (fun q => nb (by simp [q])) (fun q => nb (by simp [q])) e1) (fun b m => ?_) ?_ fun A' s' Q' E' es hq' => ?_
          · simp only [List.mem_cons, List.not_mem_nil, or_false] at m
            rcases m with rfl | rfl
            · exact ⟨_, _, heo, rfl⟩
            · obtain ⟨o, ho, _, hd⟩ := hit'; exact ⟨o, _, ho, hd⟩
          · exact ⟨_, [.int j s.toks, v], rfl, ⟨_, ht, rfl, 0, rfl⟩, .cons ⟨_, rfl⟩ (.cons rva .nil)⟩
          · refine wpAny_letOwnedTupleGo_enum (by rw [es]; exact heo) fun h'' he'' sb => ?_
            refine hq' h'' (fun b o nb e1 => ?_) ⟨a, v, ea, he'', ?_⟩
            · have q : b ≠ e := fun q => nb (by simp [q])
              have := sb.2 b q
              rw [this, es]; exact e1
            · rw [es] at sb
              exact hit'.extBut sb.extBut (Ne.symm hne)
        · cases hx
      · cases hx
    · cases hx
  self := by
    rintro j A s ρ Q E ⟨a, old, ea, he, hit⟩ hq
    exact wpAny_pyIter_enum he hq
  stop := by
    rintro j A s ρ H Q E hh hc ⟨a, old, ea, he, hit⟩ hx hq
    unfold nxEnum at hx
    split at hx
    · rename_i l hl
      split at hx
      · split at hx <;> cases hx
      · rename_i hp'
        obtain ⟨vs, n, ho, z⟩ := hc.cell i a _ ea hl
        refine wpAny_pyNext_enum_end hh he hit (items := vs.toArray) ⟨_, ho, rfl, n, rfl⟩ ?_ fun h' sb => hq h' s.toks fun b o nb e1 => sb b o (fun q => nb (by simp [q])) e1
        rw [List.getElem?_toArray, List.getElem?_eq_none_iff, z.length, ← List.getElem?_eq_none_iff]; exact hp'
    · cases hx
noncomputable def pnxEnum (l : List PV) : PM NX := match l with
  | [.ref i] => plist i fun _ => PM.pure (nxEnum i)
  | _ => pfail
set_option tactic.hygienic true in
theorem pnxEnum_inv {l : List PV} {σ : PS} {X : NX → PS → Prop} (h : match pnxEnum l σ with | some (.ok nx, σ') => X nx σ' | _ => False) :
    ∃ i xs, l = [.ref i] ∧ σ.H[i]? = some (.list xs) ∧ X (nxEnum i) σ := by
  generalize hz : pnxEnum l = z at h
  unfold pnxEnum at hz
  split at hz
  · rename_i i
    subst hz
    unfold plist at h
    cases hl : σ.H[i]? with
    | none => rw [hl] at h; exact h.elim
    | some o =>
      rw [hl] at h
      cases o with
      | dct _ => exact h.elim
      | inst _ => exact h.elim
      | list xs => exact ⟨i, xs, rfl, hl, h⟩
  · subst hz; exact h.elim
theorem si_enum {es : List Expr} {px pos : Pos} {elts : List Expr} {k : Nat} {tp : Pos} {q : PM (List PV)} (hx : env.kindOf "enumerate" = some .globalImplicit) (e : nsIn W.K mainGlobals "enumerate" = some none) (hes : SEs W d env es q) (hn : noStar es = true) :
    SI W d env (.Call (.Name "enumerate" px) es [] pos) (.Tuple elts k tp) (PM.bind (pnoexc q) pnxEnum) := by
  intro G A s ρ σ Q E ha hr hg hp
  refine wp_tcall (T := "enumerate") hx e (by decide +kernel) hes hn ha hr ?_
  unfold PM.bind pnoexc at hp
  match hq : q σ, hp with
  | some (.ok l, σ₁), hp =>
    intro vs h₁ ρ₁ tk₁ ha₁ r1 e1 rl
    obtain ⟨i, xs, rfl, hl, hp⟩ := pnxEnum_inv hp
    obtain ⟨v, rfl, rv⟩ := one_inv rl
    obtain ⟨a, rfl, ea, vs, n, ho, z⟩ := ref_inv r1.cells rv hl
    refine call_enumerate_1 (s := { s with heap := h₁, toks := tk₁ }) (items := vs.toArray) ho fun h' he hit hz hk => ?_
    refine wpAny_pyIter_enum he ?_
    have k : Keeps h₁ h' := hk
    refine hp [h₁.objs.size + 1, h₁.objs.size] (.ref (h₁.objs.size + 1)) _ h' ρ₁ tk₁ (r1.keeps k) (e1.trans (Ext0.keeps k).toExt) ⟨ha₁.tok, ha₁.pos⟩ (src_enum (by show h₁.objs.size + 1 ≠ h₁.objs.size; lia)) (own_mk r1 e1 (fun b m => ?_) fun b m => ?_) ⟨a, .none, ea, he, hit⟩
    · have : h₁.objs.size ≤ b := by
        simp only [List.mem_cons, List.not_mem_nil, or_false] at m
        rcases m with rfl | rfl <;> lia
      cases q : h₁.get? b with
      | none => rfl
      | some o => exact absurd (Heap.lt_size q) (Nat.not_lt.mpr this)
    · simp only [List.mem_cons, List.not_mem_nil, or_false] at m
      rcases m with rfl | rfl
      · exact ⟨_, _, he, rfl⟩
      · obtain ⟨o, ho, _, hd⟩ := hit; exact ⟨o, _, ho, hd⟩
end
end

section
open PySem PySem.W PyProof.Rows PySem.Spec PySem.SeqAt
set_option autoImplicit false
set_option linter.unusedVariables false
set_option maxRecDepth 100000
set_option tactic.hygienic false
noncomputable def pinner (capt : List String) (σ : PS) : PS := ⟨capt.filterMap fun n => (σ.loc.lookup n).map fun p => (n, p), σ.H⟩
noncomputable def pback : List String → List (String × PV) → List (String × PV) → Option (List (String × PV))
  | [], _, loc => some loc
  | n :: r, inn, loc => match inn.lookup n with
    | some p => pback r inn (lset n p loc)
    | none => none
noncomputable def pcompL (nx : NX) (asg : PV → PM Unit) (test : PM Bool) (elt : PM PV) (acc : Nat) : Nat → Nat → PM Unit
  | 0, _ => pfail
  | f + 1, j => fun σ => match nx j σ.H with
    | none => none
    | some none => some (.ok (), σ)
    | some (some p) => PM.bind (pnoexc (asg p)) (fun _ => PM.bind (pnoexc test) fun t => if t = true then PM.bind (pnoexc elt) fun v => PM.bind (mAppend acc [v]) fun _ => pcompL nx asg test elt acc f (j + 1) else pcompL nx asg test elt acc f (j + 1)) σ
noncomputable def pcomp (capt : List String) (p : PM NX) (asg : PV → PM Unit) (test : PM Bool) (elt : PM PV) (N : Nat) : PM PV := PM.bind (pnoexc p) fun nx => fun σ =>
  match pcompL nx asg test elt σ.H.length N 0 (pinner capt { σ with H := σ.H ++ [.list []] }) with
  | some (.ok (), σ') => (match pback capt σ'.loc σ.loc with
    | some loc => some (.ok (.ref σ.H.length), ⟨loc, σ'.H⟩)
    | none => none)
  | _ => none
noncomputable def TestsOk (W : Wd) (d : Nat) (env : Env) (ifs : List Expr) (p : PM Bool) : Prop := ∀ G, Sim W d env rrB G (forIn ifs true fun c r => if r = true then do let ok ← isTrue c env (eval c env); pure (ForInStep.yield ok) else pure (ForInStep.yield r)) p
noncomputable def POk {β : Type} (X : β → PS → Prop) : Option (Res β × PS) → Prop
  | some (.ok b, σ) => X b σ
  | _ => False
theorem POk.bind {α β : Type} {X : β → PS → Prop} {p : PM α} {q : α → PM β} {σ : PS} (h : POk X (PM.bind p q σ)) : ∃ a σ', p σ = some (.ok a, σ') ∧ POk X (q a σ') := by
  unfold PM.bind at h
  cases e : p σ with
  | none => rw [e] at h; exact h.elim
  | some r =>
    obtain ⟨r, σ'⟩ := r
    rw [e] at h
    cases r with
    | exc => exact h.elim
    | ok a => exact ⟨a, σ', rfl, h⟩
set_option tactic.hygienic true in
theorem POk.noexc {α : Type} {p : PM α} {σ σ' : PS} {a : α} (h : pnoexc p σ = some (.ok a, σ')) : p σ = some (.ok a, σ') := by
  unfold pnoexc at h
  split at h
  · rename_i e; rw [e]; exact h
  · cases h
theorem POk.bindN {α β : Type} {X : β → PS → Prop} {p : PM α} {q : α → PM β} {σ : PS} (h : POk X (PM.bind (pnoexc p) q σ)) : ∃ a σ', p σ = some (.ok a, σ') ∧ POk X (q a σ') := by
  obtain ⟨a, σ', e, h⟩ := h.bind
  exact ⟨a, σ', POk.noexc e, h⟩
section
variable {W : Wd} {d : Nat} {env : Env} {G : GG}
theorem tests_nil : TestsOk W d env [] (PM.pure true) := fun G => Sim.of0 fun A s ρ σ Q E ha hr hg hp => wpAny_tests_nil (hp true s.heap ρ s.toks hr .refl rfl)
theorem tests_one {c : Expr} {p : PM Bool} (h : ST W d env c p) : TestsOk W d env [c] p := fun G A s ρ σ Q E ha hr hg hp => wpAny_tests_one (h G A s ρ σ Q E ha hr hg hp)
theorem wp_append {A : Around} {s : Shared} {ρ : Rh} {σ : PS} {i : Nat} {a : Addr} {v : Value} {p : PV} {Q : Value → Shared → Prop} {E : Value → Shared → Prop} (hr : Rel W env s.heap ρ σ) (ei : ρ.a[i]? = some a) (rv : RepV s.heap ρ v p) (hp : Post0 W env rrV s ρ Q E (mAppend i [p] σ)) :
    wpAny (model W.prog W.w) A (call (.builtin "list.append") [.ref a, v]) Q E s := by
  unfold mAppend at hp
  obtain ⟨l, e1, hp⟩ := plist_inv hp
  obtain ⟨h1, hp⟩ := pguard_inv hp
  obtain ⟨ws, n, hw, zw⟩ := hr.cells.cell i a _ ei e1
  refine append_at hw (fun h' sb ho => ?_) (by rw [List.size_toArray, zw.length]; exact h1)
  have st := hr.cells.stbSet (get_mem ei) sb.2
  refine post_set hr hp ei sb.2 ?_ rfl s.toks
  exact ⟨ws ++ [v], n + 1, by rw [ho]; simp, (zw.mono fun _ _ y => y.stb st).append (.cons (rv.stb st) .nil)⟩
theorem compLoop_any {prog : Program} {w : World} {A : Around} {s : Shared} {elt target iter : Expr} {ifs : List Expr} {scope : Scope} {pos : Pos} {it acc : Value} {env : Env} {R : Result → Shared → Prop} (I : Nat → Shared → Prop)
    (turn : ∀ n s, I n s → wpAny (model prog w) A (pyNext it) (fun r s₁ => match r with
      | none => R (.ok .next) s₁
      | some v => wpAny (model prog w) A (letOwnedTupleGo target it v) (fun _ s₁' => wpAny (model prog w) A (assign target env v) (fun _ s₂ =>
          wpAny (model prog w) A (forIn ifs true fun c r => if r = true then do let ok ← isTrue c env (eval c env); pure (ForInStep.yield ok) else pure (ForInStep.yield r)) (fun ok s₃ =>
            if ok = true then wpAny (model prog w) A (eval elt env) (fun x s₄ =>
              wpAny (model prog w) A (call (.builtin "list.append") [acc, x]) (fun _ s₅ => ∃ m, m < n ∧ I m s₅) (notedBy (model prog w) A env fun e s' => R (.error e) s') s₄) (notedBy (model prog w) A env fun e s' => R (.error e) s') s₃
            else ∃ m, m < n ∧ I m s₃) (notedBy (model prog w) A env fun e s' => R (.error e) s') s₂) (notedBy (model prog w) A env fun e s' => R (.error e) s') s₁') (notedBy (model prog w) A env fun e s' => R (.error e) s') s₁) (notedBy (model prog w) A env fun e s' => R (.error e) s') s)
    (n : Nat) (h : I n s) : codeAny (model prog w) A (.compLoop (.ListComp elt [⟨target, iter, ifs, 0⟩] scope pos) 0 it acc env) R s := by
  refine codeAny_loop rfl I (fun n s hI => ?_) n h
  show wpAny _ A ((compTurn (.ListComp elt [⟨target, iter, ifs, 0⟩] scope pos) 0 it acc env).onRaise (fun x => do noteFrame x env; theTreesLotGoes x)) _ _ s
  refine wpAny_noted ?_
  rw [compTurn_list]
  refine wpAny_bind (wpAny_standAt (wpAny_bind (wpAny_mono (turn n s hI) (fun r s₁ h₁ => ?_) fun _ _ h' => h')))
  cases r with
  | none => exact wpAny_pure h₁
  | some v =>
    refine wpAny_bind (wpAny_mono h₁ (fun _ s₁' h₁' => ?_) fun _ _ h' => h')
    refine wpAny_bind (wpAny_mono h₁' (fun _ s₂ h₂ => wpAny_bind (wpAny_mono h₂ (fun ok s₃ h₃ => ?_) fun _ _ h' => h')) fun _ _ h' => h')
    cases ok with
    | false => exact wpAny_pure ⟨rfl, h₃⟩
    | true =>
      exact wpAny_bind (wpAny_bind (wpAny_mono h₃ (fun x s₄ h₄ => wpAny_bind (wpAny_mono h₄ (fun _ s₅ h₅ => wpAny_pure (wpAny_pure ⟨rfl, h₅⟩)) fun _ _ h' => h')) fun _ _ h' => h'))

theorem Own.extX {own X : List Addr} {h₁ h h' : Heap} {ρ₁ ρ : Rh} (w : Own W env own h₁ h ρ) (bt : But own h h') (x : Ext W X h₁ ρ₁ h ρ) : Ext W X h₁ ρ₁ h' ρ := by
  refine ⟨x.pre, x.new, fun b o e => ?_, fun b o e n1 n2 => ?_, x.t⟩
  · obtain ⟨o', e'⟩ := x.there b o e
    exact ⟨o', bt b o' (fun q => by rw [w.fresh b q] at e; cases e) e'⟩
  · obtain ⟨sl, e', f⟩ := x.kept b o e n1 n2
    exact ⟨sl, bt b _ (fun q => by rw [w.fresh b q] at e; cases e) e', f⟩
structure CI (W : Wd) (d : Nat) (env : Env) (own : List Addr) (Inv : Nat → Heap → Rh → Prop) (X : List Addr) (Out : Heap → Rh → Prop) (i : Nat) (a : Addr) (s₀ : Shared) (ρ₀ : Rh) (A : Around) (j : Nat) (s : Shared) (ρ : Rh) (σ : PS) : Prop where
  es : s = { s₀ with heap := s.heap, toks := s.toks }
  ha : AOk W d A s ρ
  hr : Rel W env s.heap ρ σ
  ow : Own W env own s₀.heap s.heap ρ
  iv : Inv j s.heap ρ
  ex : Ext W X s₀.heap ρ₀ s.heap ρ
  hi : ρ.a[i]? = some a
  ho : Out s.heap ρ
theorem CI.after {own : List Addr} {it : Value} {target : Expr} {nx : NX} {Inv : Nat → Heap → Rh → Prop} {X : List Addr} {Out : Heap → Rh → Prop} {i j : Nat} {a : Addr} {s₀ : Shared} {ρ₀ : Rh} {A : Around} {h h' : Heap} {t t' : Nat} {ρ ρ' : Rh} {σ σ' : PS} (c : CI W d env own Inv X Out i a s₀ ρ₀ A j { s₀ with heap := h, toks := t } ρ σ)
    (hX : ∀ a ∈ fp env, a ∈ X) (S : Src W own it target nx Inv) (hO2 : ∀ h ρ σ h' ρ', Rel W env h ρ σ → Ext W (fp env) h ρ h' ρ' → Out h ρ → Out h' ρ') (r : Rel W env h' ρ' σ') (e : Ext W (fp env) h ρ h' ρ') (l : ρ'.t ≤ t' ∧ 0 < t') : CI W d env own Inv X Out i a s₀ ρ₀ A j { s₀ with heap := h', toks := t' } ρ' σ' := by
  refine ⟨rfl, c.ha.ext r e l, r, c.ow.after e, S.keep c.iv (c.hr.stb e) fun b m o eo => ?_, c.ex.trans (e.mono fun a q => .inl (hX a q)), e.pre _ _ c.hi, hO2 _ _ _ _ _ c.hr e c.ho⟩
  obtain ⟨o', vs, e', dd⟩ := c.ow.fld b m
  have eo : h.get? b = some o := eo
  have e' : h.get? b = some o' := e'
  rw [eo] at e'; cases e'
  exact e.fields eo dd (c.ow.nρ b m) (c.ow.nfp b m)
theorem comp_run {own : List Addr} {it : Value} {target iter : Expr} {nx : NX} {Inv : Nat → Heap → Rh → Prop} {asg : PV → PM Unit} {ifs : List Expr} {test : PM Bool} {elt : Expr} {ep : PM PV} {scope : Scope} {pos : Pos} {X : List Addr} {Out : Heap → Rh → Prop} (hX : ∀ a ∈ fp env, a ∈ X) (S : Src W own it target nx Inv) (hasg : SAs W d env target asg) (ht : TestsOk W d env ifs test) (he : SE W d env elt ep)
    {A : Around} {s₀ s : Shared} {ρ₀ ρ : Rh} {σ : PS} {R : Result → Shared → Prop} {N j i : Nat} {a : Addr} (es : s = { s₀ with heap := s.heap, toks := s.toks }) (ha : AOk W d A s ρ) (hr : Rel W env s.heap ρ σ) (ow : Own W env own s₀.heap s.heap ρ) (iv : Inv j s.heap ρ) (ex : Ext W X s₀.heap ρ₀ s.heap ρ) (hi : ρ.a[i]? = some a) (hout : Out s.heap ρ) (hO1 : ∀ h h' ρ, Own W env own s₀.heap h ρ → But own h h' → Out h ρ → Out h' ρ) (hO2 : ∀ h ρ σ h' ρ', Rel W env h ρ σ → Ext W (fp env) h ρ h' ρ' → Out h ρ → Out h' ρ')
    (hp : POk (fun _ σ' => ∀ h' ρ' tk, Rel W env h' ρ' σ' → Ext W X s₀.heap ρ₀ h' ρ' → (ρ'.t ≤ tk ∧ 0 < tk) → ρ'.a[i]? = some a → Out h' ρ' → R (.ok .next) { s₀ with heap := h', toks := tk }) (pcompL nx asg test ep i N j σ)) :
    codeAny (model W.prog W.w) A (.compLoop (.ListComp elt [⟨target, iter, ifs, 0⟩] scope pos) 0 it (.ref a) env) R s := by
  refine compLoop_any (fun n s' => ∃ ρ' σ' j', CI W d env own Inv X Out i a s₀ ρ₀ A j' s' ρ' σ' ∧ POk (fun _ σ' => ∀ h' ρ' tk, Rel W env h' ρ' σ' → Ext W X s₀.heap ρ₀ h' ρ' → (ρ'.t ≤ tk ∧ 0 < tk) → ρ'.a[i]? = some a → Out h' ρ' → R (.ok .next) { s₀ with heap := h', toks := tk }) (pcompL nx asg test ep i n j' σ')) ?_ N ⟨ρ, σ, j, ⟨es, ha, hr, ow, iv, ex, hi, hout⟩, hp⟩
  clear es ha hr ow iv ex hp hi hout
  rintro n s ⟨ρ, σ, j, c, hp⟩
  cases n with
  | zero => exact hp.elim
  | succ n =>
    unfold pcompL at hp
    refine wpAny_with_toks (Nat.le_refl _) ?_
    cases hx : nx j σ.H with
    | none => rw [hx] at hp; exact hp.elim
    | some o =>
      rw [hx] at hp
      cases o with
      | none =>
        refine S.stop c.ha.handled c.hr.cells c.iv hx fun h' tk bt htk => ?_
        have ha' := c.ow.aok bt c.ha htk
        rw [c.es]
        exact hp h' ρ tk (c.ow.rel bt c.hr) (c.ow.extX bt c.ex) ⟨ha'.tok, ha'.pos⟩ c.hi (hO1 _ _ _ c.ow bt c.ho)
      | some p =>
        refine S.item c.ha.handled c.hr.cells c.iv hx fun v h' tk bt fl rv go htk => ?_
        have ha' := c.ow.aok bt c.ha htk
        have ow' := c.ow.moved fl
        refine wpAny_with_toks (n := tk) (Nat.le_refl _) (go A _ _ _ rfl fun h₂ bt₂ iv₂ _ => ?_)
        have e₀ : ({ s with heap := h₂, toks := tk } : Shared) = { s₀ with heap := h₂, toks := tk } := by rw [c.es]
        have c₂ : CI W d env own Inv X Out i a s₀ ρ₀ A (j + 1) { s₀ with heap := h₂, toks := tk } ρ σ := by
          refine ⟨rfl, ?_, ow'.rel bt₂ (c.ow.rel bt c.hr), ow'.moved (S.fld iv₂), iv₂, ow'.extX bt₂ (c.ow.extX bt c.ex), c.hi, hO1 _ _ _ ow' bt₂ (hO1 _ _ _ c.ow bt c.ho)⟩
          rw [← e₀]
          exact Own.aok (s := { s with heap := h', toks := tk }) ow' bt₂ ha' (Nat.le_refl _)
        have rv₂ : RepV h₂ ρ v p := rv.stb (ow'.stb bt₂)
        rw [e₀]
        refine hasg ⟨fun h ρ => RepV h ρ v p, fun x y => y.stb x⟩ v p (fun _ _ g => g) A _ ρ σ _ _ c₂.ha c₂.hr rv₂ ?_
        obtain ⟨_, σ₃, hq, hp⟩ := hp.bindN
        rw [hq]
        intro _ h₃ ρ₃ tk₃ r₃ e₃ l₃ _
        have c₃ := c₂.after hX S hO2 r₃ e₃ l₃
        refine ht GG.tt A _ ρ₃ σ₃ _ _ c₃.ha r₃ trivial ?_
        obtain ⟨t, σ₄, hq2, hp⟩ := hp.bindN
        rw [hq2]
        intro t' h₄ ρ₄ tk₄ r₄ e₄ l₄ et
        have et : t' = t := et
        subst et
        have c₄ := c₃.after hX S hO2 r₄ e₄ l₄
        cases t' with
        | false => exact ⟨n, Nat.lt_succ_self _, ρ₄, σ₄, j + 1, c₄, hp⟩
        | true =>
          refine he GG.tt A _ ρ₄ σ₄ _ _ c₄.ha r₄ trivial ?_
          rw [if_pos rfl] at hp
          obtain ⟨pv, σ₅, hq3, hp⟩ := hp.bindN
          rw [hq3]
          intro x h₅ ρ₅ tk₅ r₅ e₅ l₅ rx
          have c₅ := c₄.after hX S hO2 r₅ e₅ l₅
          refine wpAny_with_toks (n := tk₅) (Nat.le_refl _) (wp_append (s := { s₀ with heap := h₅, toks := tk₅ }) r₅ c₅.hi rx ?_)
          obtain ⟨_, σ₆, hq4, hp⟩ := hp.bind
          rw [hq4]
          intro _ h₆ ρ₆ tk₆ r₆ e₆ _ htk₆
          exact ⟨n, Nat.lt_succ_self _, ρ₆, σ₆, j + 1, c₅.after hX S hO2 r₆ e₆.toExt ⟨by rw [e₆.teq]; exact Nat.le_trans l₅.1 htk₆, Nat.lt_of_lt_of_le l₅.2 htk₆⟩, hp⟩
end
end

section
open PySem PySem.W PyProof.Rows PySem.Spec PySem.SeqAt
set_option autoImplicit false
set_option linter.unusedVariables false
set_option maxRecDepth 100000
set_option tactic.hygienic false
theorem pback_lookup : ∀ {capt : List String} {inn loc loc' : List (String × PV)}, pback capt inn loc = some loc' → ∀ n, (n ∈ capt → loc'.lookup n = inn.lookup n) ∧ (n ∉ capt → loc'.lookup n = loc.lookup n)
  | [], inn, loc, loc', h, n => by cases h; exact ⟨fun z => (nomatch z), fun _ => rfl⟩
  | c :: r, inn, loc, loc', h, n => by
    unfold pback at h
    cases e : inn.lookup c with
    | none => rw [e] at h; cases h
    | some p =>
      rw [e] at h
      obtain ⟨h1, h2⟩ := pback_lookup h n
      by_cases m : n ∈ r
      · exact ⟨fun _ => h1 m, fun q => absurd (List.mem_cons_of_mem _ m) q⟩
      · have h2 := h2 m
        rw [lset_lookup] at h2
        by_cases q : n = c
        · subst q
          rw [if_pos rfl] at h2
          exact ⟨fun _ => h2.trans e.symm, fun z => absurd (List.mem_cons_self) z⟩
        · rw [if_neg q] at h2
          exact ⟨fun z => (by rcases List.mem_cons.mp z with z | z <;> contradiction), fun _ => h2⟩
theorem pinner_lookup {capt : List String} {σ : PS} {n : String} {p : PV} (h : (pinner capt σ).loc.lookup n = some p) : n ∈ capt ∧ σ.loc.lookup n = some p := by
  unfold pinner at h
  simp only at h
  induction capt with
  | nil => cases h
  | cons c r ih =>
    rw [List.filterMap_cons] at h
    cases e : σ.loc.lookup c with
    | none =>
      rw [e] at h
      obtain ⟨h1, h2⟩ := ih h
      exact ⟨List.mem_cons_of_mem _ h1, h2⟩
    | some q =>
      rw [e] at h
      simp only [Option.map_some, List.lookup_cons] at h
      by_cases z : n = c
      · subst z
        simp only [beq_self_eq_true] at h
        cases h
        exact ⟨List.mem_cons_self, e⟩
      · have : (n == c) = false := by simpa using z
        rw [this] at h
        obtain ⟨h1, h2⟩ := ih h
        exact ⟨List.mem_cons_of_mem _ h1, h2⟩
structure CapOk (env : Env) (scope : Scope) (cl : List (Str × Addr)) (capt : List String) : Prop where
  all : All2 (fun (x : Str × Addr) n => x.1 = Str.ofString n ∧ env.cells.lookup x.1 = some x.2 ∧ env.kindOf x.1 = some .cell ∧ ((relabel scope env).names.lookup x.1 = some .cell ∨ (relabel scope env).names.lookup x.1 = some .free)) cl capt
  nd : capt.Nodup
section
variable {W : Wd} {d : Nat} {env : Env} {G : GG}
theorem CapOk.at {scope : Scope} {cl : List (Str × Addr)} {capt : List String} (c : CapOk env scope cl capt) {n : String} (h : n ∈ capt) : ∃ a, cl.lookup (Str.ofString n) = some a ∧ env.cells.lookup (Str.ofString n) = some a ∧ env.kindOf (Str.ofString n) = some .cell ∧ ((relabel scope env).names.lookup (Str.ofString n) = some .cell ∨ (relabel scope env).names.lookup (Str.ofString n) = some .free) := by
  obtain ⟨z, nd⟩ := c
  induction z with
  | nil => cases h
  | @cons x m xs ms r _ ih =>
    obtain ⟨x, a⟩ := x
    obtain ⟨e, h1, h2, h3⟩ := r
    simp only at e h1 h2 h3
    by_cases q : n = m
    · subst q
      subst e
      exact ⟨a, by simp, h1, h2, h3⟩
    · have hne : (Str.ofString n == x) = false := by
        rw [e]; simpa using fun z : Str.ofString n = Str.ofString m => q (ofString_inj z)
      rcases List.mem_cons.mp h with h | h
      · exact absurd h q
      · obtain ⟨a', e1, r⟩ := ih h (List.nodup_cons.mp nd).2
        exact ⟨a', by rw [List.lookup_cons, hne]; exact e1, r⟩
theorem CapOk.mem {scope : Scope} {cl : List (Str × Addr)} {capt : List String} (c : CapOk env scope cl capt) {x : Str × Addr} (h : x ∈ cl) : ∃ n ∈ capt, x.1 = Str.ofString n ∧ env.cells.lookup x.1 = some x.2 := by
  obtain ⟨z, nd⟩ := c
  clear nd
  induction z with
  | nil => cases h
  | @cons y m xs ms r _ ih =>
    rcases List.mem_cons.mp h with rfl | h
    · exact ⟨m, List.mem_cons_self, r.1, r.2.1⟩
    · obtain ⟨n, h1, h2⟩ := ih h
      exact ⟨n, List.mem_cons_of_mem _ h1, h2⟩
theorem CapOk.sub {scope : Scope} {cl : List (Str × Addr)} {capt : List String} (c : CapOk env scope cl capt) : ∀ a ∈ cl.map (·.2), a ∈ fp env := fun a m => by
  obtain ⟨x, hx, rfl⟩ := List.mem_map.mp m
  obtain ⟨n, _, _, e⟩ := c.mem hx
  exact .tail _ (List.mem_map.mpr ⟨_, mem_of_lookup e, rfl⟩)
theorem CapOk.pw {scope : Scope} {cl : List (Str × Addr)} {capt : List String} (c : CapOk env scope cl capt) (ap : env.cells.Pairwise fun x y => x.2 ≠ y.2) : cl.Pairwise fun x y => x.2 ≠ y.2 := by
  obtain ⟨z, nd⟩ := c
  induction z with
  | nil => exact .nil
  | @cons y m xs ms r z ih =>
    refine .cons (fun x hx => ?_) (ih (List.nodup_cons.mp nd).2)
    have c' : CapOk env scope xs ms := ⟨z, (List.nodup_cons.mp nd).2⟩
    obtain ⟨n, hn, e1, e2⟩ := c'.mem hx
    refine lookup_apart ap r.2.1 e2 ?_
    rw [r.1, e1]
    intro q
    exact (List.nodup_cons.mp nd).1 (ofString_inj q ▸ hn)

theorem pcomp_ref {capt : List String} {p : PM NX} {asg : PV → PM Unit} {test : PM Bool} {ep : PM PV} {N : Nat} {σ : PS} (v : PV) (τ : PS) (h : pcomp capt p asg test ep N σ = some (.ok v, τ)) : ∃ i, v = .ref i := by
  unfold pcomp PM.bind at h
  cases e : pnoexc p σ with
  | none => rw [e] at h; cases h
  | some r =>
    obtain ⟨r, σ₁⟩ := r
    rw [e] at h
    cases r with
    | exc => cases h
    | ok nx =>
      dsimp only at h
      split at h
      · split at h
        · cases h; exact ⟨_, rfl⟩
        · cases h
      · cases h
theorem pcomp_exc {capt : List String} {p : PM NX} {asg : PV → PM Unit} {test : PM Bool} {ep : PM PV} {N : Nat} {σ τ : PS} : pcomp capt p asg test ep N σ ≠ some (.exc, τ) := by
  intro h
  unfold pcomp PM.bind at h
  cases e : pnoexc p σ with
  | none => rw [e] at h; cases h
  | some r =>
    obtain ⟨r, σ₁⟩ := r
    rw [e] at h
    cases r with
    | exc =>
      unfold pnoexc at e
      split at e <;> cases e
    | ok nx =>
      dsimp only at h
      split at h
      · split at h <;> cases h
      · cases h
noncomputable def ownC (o : Option Str) (C : Addr) (cl : List (Str × Addr)) : List (Str × Addr) := match o with
  | none => cl
  | some xn => (xn, C + 1) :: cl
theorem ownC_mem {o : Option Str} {C : Addr} {cl : List (Str × Addr)} {x : Str × Addr} (h : x ∈ ownC o C cl) : (o ≠ none ∧ x.2 = C + 1) ∨ x ∈ cl := by
  cases o with
  | none => exact .inr h
  | some xn =>
    rcases List.mem_cons.mp h with rfl | h
    · exact .inl ⟨Option.some_ne_none _, rfl⟩
    · exact .inr h
theorem ownC_sub {o : Option Str} {C : Addr} {cl : List (Str × Addr)} {x : Str × Addr} (h : x ∈ cl) : x ∈ ownC o C cl := by
  cases o with
  | none => exact h
  | some xn => exact List.mem_cons_of_mem _ h
theorem ownC_lookup {o : Option Str} {C : Addr} {cl : List (Str × Addr)} {n : Str} (h : o ≠ some n) : (ownC o C cl).lookup n = cl.lookup n := by
  cases o with
  | none => rfl
  | some xn =>
    have : (n == xn) = false := by simpa using fun z : n = xn => h (z ▸ rfl)
    show List.lookup _ ((xn, C + 1) :: cl) = _
    rw [List.lookup_cons, this]
theorem ownC_pw {o : Option Str} {C : Addr} {cl : List (Str × Addr)} (h : cl.Pairwise fun x y => x.2 ≠ y.2) (n : C + 1 ∉ cl.map (·.2)) : (ownC o C cl).Pairwise fun x y => x.2 ≠ y.2 := by
  cases o with
  | none => exact h
  | some xn => exact .cons (fun x hx e => n (List.mem_map.mpr ⟨x, hx, e.symm⟩)) h
noncomputable def NewOk (M : Model) (scope : Scope) (env : Env) (cl : List (Str × Addr)) (o : Option Str) : Prop := ∀ (A : Around) (E : Value → Shared → Prop) (s : Shared) (Q : Env → Shared → Prop),
  (∀ h', h'.Ns s.heap.objs.size (fun _ => none) → (∀ b ob, s.heap.get? b = some ob → h'.get? b = some ob) → (o ≠ none → h'.IsCell (s.heap.objs.size + 1) none) → Q (newEnv scope s.heap.objs.size env.globals (ownC o s.heap.objs.size cl) env.qual none .none (some env) builtinsNs) { s with heap := h' }) →
  wpAny M A (newFunctionEnv scope env.globals cl [] env.qual none .none (some env)) Q E s
theorem comp_core {elt tg iter : Expr} {scope : Scope} {pos : Pos} {ifs : List Expr} {p : PM NX} {asg : PV → PM Unit} {test : PM Bool} {ep : PM PV} {cl : List (Str × Addr)} {capt : List String} {o : Option Str} (N : Nat)
    (hi : SI W d env iter tg p) (hasg : ∀ C, SAs W d (compEnvC scope (ownC o C cl) C env) tg asg) (ht : ∀ C, TestsOk W d (compEnvC scope (ownC o C cl) C env) ifs test) (he : ∀ C, SE W d (compEnvC scope (ownC o C cl) C env) elt ep)
    (hs : ∀ x, foldedSetIterable iter env x = pure x) (hclos : closureFor scope env = pure cl) (hnew : NewOk (model W.prog W.w) scope env cl o) (hkind : scope.kind = .function) (hnames : ∀ y ∈ scope.names, y.2 = .local → scope.names.lookup y.1 = some .local)
    (hc : CapOk env scope cl capt) (hxn : ∀ n ∈ capt, o ≠ some (Str.ofString n)) {use : Option (Value → Sem Unit)} {pos' : Pos} (G : GG) (A : Around) (s : Shared) (ρ : Rh) (σ : PS) (Q : Value → Shared → Prop) (E : Value → Shared → Prop) (ha : AOk W d A s ρ) (hr : Rel W env s.heap ρ σ) (hg : G.P s.heap ρ)
    (hp : POk (fun v τ => ∃ i, v = .ref i ∧ ∀ C D h' ρ' tk, (∀ h₅, Heap.SameBut C h' h₅ → Rel W env h₅ ρ' τ ∧ Ext W (fp env) s.heap ρ h₅ ρ') → (ρ'.t ≤ tk ∧ 0 < tk) → ρ'.a[i]? = some D → C ∉ fp env → C ∉ ρ'.a → W.h₀.get? C = none → (∃ m, h'.Ns C m) → s.heap.get? C = none → compPost (model W.prog W.w) A E use Q (.ref D) C (.ok .next) { s with heap := h', toks := tk }) (pcomp capt p asg test ep N σ)) :
    wpAny (model W.prog W.w) A (comprehension (.ListComp elt [⟨tg, iter, ifs, 0⟩] scope pos) scope env pos' (newList []) false (firstIter [⟨tg, iter, ifs, 0⟩] env) use) Q E s := by
  refine wpAny_comprehension_free rfl hs hclos hkind hnames (hi G A s ρ σ _ _ ha hr hg ?_)
  unfold pcomp PM.bind pnoexc at hp
  match hq : p σ, hp with
  | some (.ok nx, σ₁), hp =>
    intro own it Inv h₁ ρ₁ tk₁ r1 e1 l1 S ow iv
    dsimp only at hp
    have hfr : ∀ a o, s.heap.get? a = some o → ∃ o', h₁.get? a = some o' := e1.there
    refine wpAny_newObj_type (hnew _ _ _ _ fun h₃ hns hsb hcK => ?_)
    dsimp only at hns hsb hcK ⊢
    generalize hH2 : h₁.push { cls := .type "list", dict := none, data := .seq ([] : List Value).toArray } = H2 at hns hsb hcK ⊢
    have hC : H2.objs.size = h₁.objs.size + 1 := by rw [← hH2, Heap.size_push]
    have fresh : ∀ a, h₁.objs.size ≤ a → h₁.get? a = none := fun a ha => by
      cases e : h₁.get? a with
      | none => rfl
      | some o' => exact absurd (Heap.lt_size e) (Nat.not_lt.mpr ha)
    generalize hCn : H2.objs.size = C at hns hsb hcK hC ⊢
    generalize hDn : h₁.objs.size = D at hC fresh ⊢
    have hD1 : h₁.get? D = none := fresh _ (Nat.le_refl _)
    have hC1 : h₁.get? C = none := fresh _ (by rw [hC]; exact Nat.le_succ _)
    have hK1 : h₁.get? (C + 1) = none := fresh _ (by rw [hC]; exact Nat.le_succ_of_le (Nat.le_succ _))
    have hKC : C + 1 ≠ C := Nat.succ_ne_self C
    have hDK : D ≠ C + 1 := by rw [hC]; exact Nat.ne_of_lt (Nat.lt_succ_of_lt (Nat.lt_succ_self _))
    have hDC : D ≠ C := by rw [hC]; exact Nat.ne_of_lt (Nat.lt_succ_self _)
    have k3 : Keeps h₁ h₃ := fun b o e => hsb b o (by rw [← hH2]; exact Heap.get?_push_of_some _ e)
    have hD3 : h₃.get? D = some ⟨.type "list", none, .seq (List.toArray []) 0, #[]⟩ := hsb D _ (by rw [← hH2, ← hDn]; exact Heap.get?_push_size _ rfl)
    have r3 : Rel W env h₃ (ρ₁.add D) { σ₁ with H := σ₁.H ++ [.list []] } := r1.snoc k3 hD1 ⟨[], 0, hD3, .nil⟩
    have e3 : Ext W (fp env) s.heap ρ h₃ (ρ₁.add D) := e1.trans (Ext0.snoc k3 hD1).toExt
    have hs1 : ∀ a, h₁.get? a = none → s.heap.get? a = none := fun a z => by
      cases q : s.heap.get? a with
      | none => rfl
      | some o => obtain ⟨o', e'⟩ := hfr a o q; rw [z] at e'; cases e'
    have hb1 : ∀ a, h₁.get? a = none → W.h₀.get? a = none := fun a z => by
      cases q : W.h₀.get? a with
      | none => rfl
      | some o => have := r1.base a o q; rw [z] at this; cases this
    have hρ1 : ∀ a ∈ ρ₁.a, ∃ o, h₁.get? a = some o := fun a q => by obtain ⟨_, _, _, _, r⟩ := r1.cells.get q; exact r.there
    have hCρ : C ∉ (ρ₁.add D).a := fun q => by
      rcases List.mem_append.mp q with q | q
      · obtain ⟨o, e⟩ := hρ1 C q; rw [hC1] at e; cases e
      · exact hDC (List.mem_singleton.mp q).symm
    have hCf : C ∉ fp env := fun q => by obtain ⟨o, e⟩ := r1.fpIn q; rw [hC1] at e; cases e
    have hKf : C + 1 ∉ fp env := fun q => by obtain ⟨o, e⟩ := r1.fpIn q; rw [hK1] at e; cases e
    have hKρ : C + 1 ∉ (ρ₁.add D).a := fun q => by
      rcases List.mem_append.mp q with q | q
      · obtain ⟨o, e⟩ := hρ1 (C + 1) q; rw [hK1] at e; cases e
      · exact hDK (List.mem_singleton.mp q).symm
    have hclf := hc.sub
    have hfp' : ∀ {C}, fp (compEnvC scope (ownC o C cl) C env) = C :: (ownC o C cl).map (·.2) := fun {C} => rfl
    have hmem : ∀ a ∈ fp (compEnvC scope (ownC o C cl) C env), a = C ∨ a = C + 1 ∨ a ∈ cl.map (·.2) := fun a m => by
      rw [hfp'] at m
      rcases List.mem_cons.mp m with m | m
      · exact .inl m
      · obtain ⟨x, hx, rfl⟩ := List.mem_map.mp m
        rcases ownC_mem hx with ⟨_, e⟩ | hx
        · exact .inr (.inl e)
        · exact .inr (.inr (List.mem_map.mpr ⟨x, hx, rfl⟩))
    have hKcl : C + 1 ∉ cl.map (·.2) := fun q => hKf (hclf _ q)
    have r3' : Rel W (compEnvC scope (ownC o C cl) C env) h₃ (ρ₁.add D) (pinner capt { σ₁ with H := σ₁.H ++ [.list []] }) := by
      refine ⟨⟨hkind, r1.eok.glob, r1.eok.blt⟩, r3.cells, ⟨_, hns, fun n p e => ?_⟩, fun a m => ?_, fun x hx e => ?_, ownC_pw (hc.pw r1.apart) hKcl, fun x hx => ?_⟩
      · obtain ⟨hn, hl⟩ := pinner_lookup e
        obtain ⟨a, c1, c2, c3, c4⟩ := hc.at hn
        obtain ⟨m, _, hlk⟩ := r3.lk
        obtain ⟨v, rv, na⟩ := hlk n p hl
        refine ⟨v, rv, .inr ⟨c4, a, (ownC_lookup (hxn n hn)).trans c1, ?_⟩⟩
        rcases na with ⟨k, _⟩ | ⟨_, c, e1, e2⟩
        · rw [c3] at k; cases k
        · rw [c2] at e1; cases e1; exact e2
      · rcases hmem a m with rfl | rfl | m
        · exact ⟨hb1 _ hC1, hCρ⟩
        · exact ⟨hb1 _ hK1, hKρ⟩
        · exact r3.fpn a (hclf a m)
      · rcases ownC_mem hx with ⟨_, hx⟩ | hx
        · exact hKC (hx.symm.trans e)
        · exact hCf (by rw [← show x.2 = C from e]; exact hclf _ (List.mem_map.mpr ⟨x, hx, rfl⟩))
      · rcases ownC_mem hx with ⟨ho, hx⟩ | hx
        · exact ⟨none, by rw [hx]; exact hcK ho⟩
        · obtain ⟨n, _, _, e⟩ := hc.mem hx
          exact r3.isc _ (mem_of_lookup e)
    have hfr0 : ∀ a ∈ fp env, ∃ o, s.heap.get? a = some o := fun a m => hr.fpIn m
    have ow3 : Own W (compEnvC scope (ownC o C cl) C env) own s.heap h₃ (ρ₁.add D) := by
      refine ⟨ow.fresh, ow.n0, fun b m q => ?_, fun b m q => ?_, fun b m => ?_⟩
      · obtain ⟨o, vs, e, _⟩ := ow.fld b m
        rcases hmem _ q with rfl | rfl | q
        · rw [hC1] at e; cases e
        · rw [hK1] at e; cases e
        · exact ow.nfp b m (hclf b q)
      · rcases List.mem_append.mp q with q | q
        · exact ow.nρ b m q
        · obtain ⟨o, vs, e, _⟩ := ow.fld b m
          rw [List.mem_singleton.mp q, hD1] at e; cases e
      · obtain ⟨o, vs, e, dd⟩ := ow.fld b m
        exact ⟨o, vs, k3 _ _ e, dd⟩
    have iv3 : Inv 0 h₃ (ρ₁.add D) := S.keep iv (k3.stb pre_snoc) fun b _ o e => k3 _ _ e
    have ha3 : AOk W d A { s with heap := h₃, toks := tk₁ } (ρ₁.add D) := ha.ext r3 e3 l1
    let Out : Heap → Rh → Prop := fun h ρ' => (∃ m, h.Ns env.locals m ∧ ∀ n p, σ₁.loc.lookup n = some p → n ∉ capt → ∃ v, RepV h ρ' v p ∧ NameAt env h m (Str.ofString n) v) ∧ (∀ x ∈ env.cells, x.2 ∉ cl.map (·.2) → ∃ v, h.IsCell x.2 v) ∧ (∀ a ∈ fp env, a ∉ ρ'.a)
    have hcn : ∀ {n : String} {c : Addr}, n ∉ capt → env.cells.lookup (Str.ofString n) = some c → c ∉ cl.map (·.2) := fun {n c} hn e q => by
      obtain ⟨x, hx, rfl⟩ := List.mem_map.mp q
      obtain ⟨n', hn', e1, e2⟩ := hc.mem hx
      exact lookup_apart r1.apart e e2 (fun z => hn (by rw [ofString_inj (z.trans e1)]; exact hn')) rfl
    have hLcl : env.locals ∉ cl.map (·.2) := fun q => by
      obtain ⟨x, hx, e⟩ := List.mem_map.mp q
      obtain ⟨n', _, _, e2⟩ := hc.mem hx
      exact r1.fpd _ (mem_of_lookup e2) e
    have hcC : ∀ a ∈ fp env, a ≠ C := fun a m e => hCf (e ▸ m)
    have hcK' : ∀ a ∈ fp env, a ≠ C + 1 := fun a m e => hKf (e ▸ m)
    have out3 : Out h₃ (ρ₁.add D) := by
      obtain ⟨m, hn, hlk⟩ := r3.lk
      exact ⟨⟨m, hn, fun n p e _ => hlk n p e⟩, fun x hx _ => r3.isc x hx, fun a m => (r3.fpn a m).2⟩
    have outStep : ∀ {h h' : Heap} {ρ ρ' : Rh}, Stb h ρ h' ρ' → (∀ a ∈ fp env, a ∉ cl.map (·.2) → ∀ o, h.get? a = some o → ∃ sl, h'.get? a = some { o with slots := sl }) → (∀ a ∈ fp env, a ∉ ρ'.a) → Out h ρ → Out h' ρ' := by
      rintro h h' ρ ρ' st kp np ⟨⟨m, hn, hlk⟩, ic, _⟩
      refine ⟨⟨m, ns_slots hn (kp _ (.head _) hLcl), fun n p e hn' => ?_⟩, fun x hx hxc => ?_, np⟩
      · obtain ⟨v, rv, na⟩ := hlk n p e hn'
        refine ⟨v, rv.stb st, ?_⟩
        rcases na with na | ⟨na, c, e1, e2⟩
        · exact .inl na
        · exact .inr ⟨na, c, e1, cell_slots e2 (kp c (.tail _ (List.mem_map.mpr ⟨_, mem_of_lookup e1, rfl⟩)) (hcn hn' e1))⟩
      · obtain ⟨v, z⟩ := ic x hx hxc
        exact ⟨v, cell_slots z (kp x.2 (.tail _ (List.mem_map.mpr ⟨x, hx, rfl⟩)) hxc)⟩
    have eOr : ∀ {Y : PV → PS → Prop} (X : Option (Res Unit × PS)), POk Y (match X with
        | some (.ok (), σ') => (match pback capt σ'.loc σ₁.loc with
          | some loc => some (.ok (.ref σ₁.H.length), ⟨loc, σ'.H⟩)
          | none => none)
        | _ => none) → POk (fun _ σ' => ∃ loc, pback capt σ'.loc σ₁.loc = some loc ∧ Y (.ref σ₁.H.length) ⟨loc, σ'.H⟩) X := by
      intro Y X hX
      match X, hX with
      | none, hX => exact hX.elim
      | some (.exc, _), hX => exact hX.elim
      | some (.ok (), σ'), hX =>
        dsimp only at hX
        cases e : pback capt σ'.loc σ₁.loc with
        | none => rw [e] at hX; exact hX.elim
        | some loc => rw [e] at hX; exact ⟨loc, e, hX⟩
    have POk.imp : ∀ {X Y : Unit → PS → Prop} {r : Option (Res Unit × PS)}, (∀ a b, X a b → Y a b) → POk X r → POk Y r := by
      intro X Y r h z
      match r, z with
      | some (.ok b, σ), z => exact h _ _ z
    have hp := eOr _ hp
    have loop : codeAny (model W.prog W.w) A (.compLoop (.ListComp elt [⟨tg, iter, ifs, 0⟩] scope pos) 0 it (.ref D) (compEnvC scope (ownC o C cl) C env)) (compPost (model W.prog W.w) A E use Q (.ref D) C) { s with heap := h₃, toks := tk₁ } := by
      refine comp_run (env := compEnvC scope (ownC o C cl) C env) (X := C :: (C + 1) :: fp env) (Out := Out) (fun a m => ?_) S (hasg C) (ht C) (he C) (s₀ := s) (ρ₀ := ρ) (i := σ₁.H.length) (N := N) (j := 0) rfl ha3 r3' ow3 iv3 (e3.mono fun a q => .inl (.tail _ (.tail _ q))) ?_ out3 ?_ ?_ (POk.imp (fun _ σ' hb => ?_) hp)
      · rcases hmem a m with rfl | rfl | m
        · exact .head _
        · exact .tail _ (.head _)
        · exact .tail _ (.tail _ (hclf a m))
      · show (ρ₁.a ++ [D])[σ₁.H.length]? = some D
        rw [← r1.cells.len, List.getElem?_append_right (Nat.le_refl _)]; simp
      · intro h h' ρ' w bt ho
        refine outStep (w.stb bt) (fun a m hm o e => ⟨o.slots, bt a o (fun q => ?_) e⟩) ho.2.2 ho
        obtain ⟨o', e'⟩ := hfr0 a m
        rw [w.fresh a q] at e'; cases e'
      · intro h ρ' σ' h' ρ'' R ex ho
        refine outStep (R.stb ex) (fun a m hm o e => ex.keep a o e (ho.2.2 a m) (fun q => ?_)) (fun a m q => ?_) ho
        · rcases hmem a q with q | q | q
          · exact hcC a m q
          · exact hcK' a m q
          · exact hm q
        · rcases ex.new a q with q | q
          · exact ho.2.2 a m q
          · obtain ⟨⟨m', hn, _⟩, hcells, _⟩ := ho
            rcases List.mem_cons.mp m with rfl | m
            · obtain ⟨o, _, _, e, _⟩ := hn; rw [q] at e; cases e
            · obtain ⟨x, hx, rfl⟩ := List.mem_map.mp m
              by_cases hxc : x.2 ∈ cl.map (·.2)
              · obtain ⟨o, e⟩ := R.fpIn (by rw [hfp']; obtain ⟨y, hy, ey⟩ := List.mem_map.mp hxc; exact .tail _ (List.mem_map.mpr ⟨y, ownC_sub hy, ey⟩)); rw [q] at e; cases e
              · obtain ⟨v, o, e, _⟩ := hcells x hx hxc; rw [q] at e; cases e
      · obtain ⟨loc, hloc, hb⟩ := hb
        intro h₄ ρ₄ tk₄ r4 e4 l4 hi4 o4
        obtain ⟨mC, hnC, hlkC⟩ := r4.lk
        obtain ⟨i, hi', hb⟩ := hb
        cases hi'
        have hCρ4 : C ∉ ρ₄.a := (r4.fpn C (by rw [hfp']; exact .head _)).2
        have hC0 : W.h₀.get? C = none := hb1 C hC1
        refine hb C D h₄ ρ₄ tk₄ (fun h₅ hs5 => ?_) l4 hi4 hCf hCρ4 hC0 ⟨mC, hnC⟩ (hs1 C hC1)
        have st5 : Stb h₄ ρ₄ h₅ ρ₄ := r4.stbFp (a := C) (by rw [hfp']; exact .head _) hs5.2
        have kp5 : ∀ a, a ≠ C → ∀ o, h₄.get? a = some o → ∃ sl, h₅.get? a = some { o with slots := sl } := fun a n o e => ⟨o.slots, by rw [hs5.2 a n]; exact e⟩
        obtain ⟨⟨mo, hno, hlo⟩, hco, hfo⟩ := o4
        refine ⟨?_, ?_⟩
        · refine ⟨r1.eok, r4.cells.fpSet st5 hC0 hCρ4 hs5.2, ⟨mo, ns_slots hno (kp5 _ (hcC _ (.head _))), fun n p e => ?_⟩, fun a m => ⟨(r1.fpn a m).1, hfo a m⟩, r1.fpd, r1.apart, fun x hx => ?_⟩
          · obtain ⟨b1, b2⟩ := pback_lookup hloc n
            by_cases hn : n ∈ capt
            · rw [show loc.lookup n = σ'.loc.lookup n from b1 hn] at e
              obtain ⟨v, rv, na⟩ := hlkC n p e
              obtain ⟨a, c1, c2, c3, c4⟩ := hc.at hn
              refine ⟨v, rv.stb st5, .inr ⟨.inl c3, a, c2, ?_⟩⟩
              rcases na with ⟨k, _⟩ | ⟨_, c, e1, e2⟩
              · have k : (relabel scope env).names.lookup (Str.ofString n) = some .local := k
                rcases c4 with c4 | c4 <;> (rw [c4] at k; cases k)
              · have e1 : (ownC o C cl).lookup (Str.ofString n) = some c := e1
                rw [ownC_lookup (hxn n hn)] at e1
                rw [c1] at e1; cases e1
                exact cell_slots e2 (kp5 _ (hcC _ (.tail _ (List.mem_map.mpr ⟨_, mem_of_lookup c2, rfl⟩))))
            · rw [show loc.lookup n = σ₁.loc.lookup n from b2 hn] at e
              obtain ⟨v, rv, na⟩ := hlo n p e hn
              refine ⟨v, rv.stb st5, ?_⟩
              rcases na with na | ⟨na, c, e1, e2⟩
              · exact .inl na
              · exact .inr ⟨na, c, e1, cell_slots e2 (kp5 _ (hcC _ (.tail _ (List.mem_map.mpr ⟨_, mem_of_lookup e1, rfl⟩))))⟩
          · have hx5 := kp5 x.2 (hcC _ (.tail _ (List.mem_map.mpr ⟨x, hx, rfl⟩)))
            by_cases hxc : x.2 ∈ cl.map (·.2)
            · obtain ⟨y, hy, ey⟩ := List.mem_map.mp hxc
              obtain ⟨v, z⟩ := r4.isc y (ownC_sub hy)
              rw [ey] at z
              exact ⟨v, cell_slots z hx5⟩
            · obtain ⟨v, z⟩ := hco x hx hxc
              exact ⟨v, cell_slots z hx5⟩
        · have e5 : Ext W (C :: (C + 1) :: fp env) s.heap ρ h₅ ρ₄ := by
            refine ⟨e4.pre, e4.new, fun b o e => ?_, fun b o e n1 n2 => ?_, e4.t⟩
            · obtain ⟨o', e'⟩ := e4.there b o e
              exact ⟨o', by rw [hs5.2 b (fun q => by rw [q, hs1 C hC1] at e; cases e)]; exact e'⟩
            · obtain ⟨sl, e', f⟩ := e4.kept b o e n1 n2
              exact ⟨sl, by rw [hs5.2 b (fun q => n2 (q ▸ .head _))]; exact e', f⟩
          exact e5.mono fun a q => by
            rcases List.mem_cons.mp q with rfl | q
            · exact .inr (hs1 _ hC1)
            rcases List.mem_cons.mp q with rfl | q
            · exact .inr (hs1 _ hK1)
            · exact .inl q
    refine codeAny_compStart_list loop (S.self iv3 loop)
theorem s_compG {elt tg iter : Expr} {scope : Scope} {pos : Pos} {ifs : List Expr} {p : PM NX} {asg : PV → PM Unit} {test : PM Bool} {ep : PM PV} {cl : List (Str × Addr)} {capt : List String} {o : Option Str} (N : Nat)
    (hi : SI W d env iter tg p) (hasg : ∀ C, SAs W d (compEnvC scope (ownC o C cl) C env) tg asg) (ht : ∀ C, TestsOk W d (compEnvC scope (ownC o C cl) C env) ifs test) (he : ∀ C, SE W d (compEnvC scope (ownC o C cl) C env) elt ep)
    (hs : ∀ x, foldedSetIterable iter env x = pure x) (hclos : closureFor scope env = pure cl) (hnew : NewOk (model W.prog W.w) scope env cl o) (hkind : scope.kind = .function) (hnames : ∀ y ∈ scope.names, y.2 = .local → scope.names.lookup y.1 = some .local)
    (hc : CapOk env scope cl capt) (hxn : ∀ n ∈ capt, o ≠ some (Str.ofString n)) : SE W d env (.ListComp elt [⟨tg, iter, ifs, 0⟩] scope pos) (pcomp capt p asg test ep N) := by
  intro G A s ρ σ Q E ha hr hg hp
  rw [eval_ListComp]
  refine comp_core N hi hasg ht he hs hclos hnew hkind hnames hc hxn G A s ρ σ Q E ha hr hg ?_
  have href : ∀ v τ, pcomp capt p asg test ep N σ = some (.ok v, τ) → ∃ i, v = .ref i := pcomp_ref
  match hq : pcomp capt p asg test ep N σ, hp with
  | some (.exc, τ), hp => exact absurd hq pcomp_exc
  | some (.ok v, τ), hp =>
    obtain ⟨i, rfl⟩ := href v τ hq
    refine ⟨i, rfl, fun C D h' ρ' tk key l hi h1 h2 h3 hm hsC => ?_⟩
    obtain ⟨m, hm⟩ := hm
    exact ⟨m, hm, fun h₅ hs5 => hp (.ref D) h₅ ρ' tk (key h₅ hs5).1 (key h₅ hs5).2 l ⟨D, rfl, hi⟩⟩
theorem new_plain {M : Model} {scope : Scope} {cl : List (Str × Addr)} (hcell : ∀ y ∈ scope.names, y.2 ≠ .cell) (hkind : scope.kind = .function) : NewOk M scope env cl none := fun A E s Q h =>
  wpAny_newFunctionEnv hcell (fun y hy => nomatch hy) (fun h₃ hns hsb => h h₃ hns (fun b o e => hsb.extBut b o (Nat.ne_of_lt (Heap.lt_size e)) (Heap.get?_push_of_some _ e)) fun q => absurd rfl q) hkind
theorem s_comp {elt tg iter : Expr} {scope : Scope} {pos : Pos} {ifs : List Expr} {p : PM NX} {asg : PV → PM Unit} {test : PM Bool} {ep : PM PV} {cl : List (Str × Addr)} {capt : List String} (N : Nat)
    (hi : SI W d env iter tg p) (hasg : ∀ C, SAs W d (compEnvC scope cl C env) tg asg) (ht : ∀ C, TestsOk W d (compEnvC scope cl C env) ifs test) (he : ∀ C, SE W d (compEnvC scope cl C env) elt ep)
    (hs : ∀ x, foldedSetIterable iter env x = pure x) (hclos : closureFor scope env = pure cl) (hcell : ∀ y ∈ scope.names, y.2 ≠ .cell) (hkind : scope.kind = .function) (hnames : ∀ y ∈ scope.names, y.2 = .local → scope.names.lookup y.1 = some .local)
    (hc : CapOk env scope cl capt) : SE W d env (.ListComp elt [⟨tg, iter, ifs, 0⟩] scope pos) (pcomp capt p asg test ep N) :=
  s_compG (o := none) N hi hasg ht he hs hclos (new_plain hcell hkind) hkind hnames hc fun _ _ => nofun
theorem s_comp0 {elt tg iter : Expr} {scope : Scope} {pos : Pos} {ifs : List Expr} {p : PM NX} {asg : PV → PM Unit} {test : PM Bool} {ep : PM PV} {cl : List (Str × Addr)} {capt : List String} (N : Nat)
    (hclos : closureFor scope env = pure cl) (hi : SI W d env iter tg p) (hasg0 : SAs W d (compEnvC scope cl 0 env) tg asg) (ht0 : TestsOk W d (compEnvC scope cl 0 env) ifs test) (he0 : SE W d (compEnvC scope cl 0 env) elt ep)
    (hasg : ∀ C, SAs W d (compEnvC scope cl C env) tg asg) (ht : ∀ C, TestsOk W d (compEnvC scope cl C env) ifs test) (he : ∀ C, SE W d (compEnvC scope cl C env) elt ep)
    (hs : ∀ x, foldedSetIterable iter env x = pure x) (hcell : ∀ y ∈ scope.names, y.2 ≠ .cell) (hkind : scope.kind = .function) (hnames : ∀ y ∈ scope.names, y.2 = .local → scope.names.lookup y.1 = some .local)
    (hc : CapOk env scope cl capt) : SE W d env (.ListComp elt [⟨tg, iter, ifs, 0⟩] scope pos) (pcomp capt p asg test ep N) := s_comp N hi hasg ht he hs hclos hcell hkind hnames hc
theorem Rel.letgo {h h' : Heap} {ρ : Rh} {σ : PS} {C : Addr} {m : Str → Option Value} (R : Rel W env h ρ σ) (hn : h.Ns C m) (sb : ∀ b, b ≠ C → h'.get? b = h.get? b) (h1 : C ∉ fp env) (h2 : C ∉ ρ.a) (h0 : W.h₀.get? C = none) : Rel W env h' ρ σ := by
  obtain ⟨oC, es, ep, hC, dC, _⟩ := hn
  have st : Stb h ρ h' ρ := by
    refine ⟨fun _ _ e => e, fun a its t => ?_, Nat.le_refl _⟩
    refine IsTup.slots t fun o e => ⟨o.slots, ?_⟩
    rw [sb a fun q => ?_]
    · exact e
    · subst q
      obtain ⟨o', e', c, k, d'⟩ := t
      rw [hC] at e'; cases e'; rw [dC] at d'; cases d'
  have kp : ∀ a ∈ fp env, ∀ o, h.get? a = some o → ∃ sl, h'.get? a = some { o with slots := sl } := fun a ma o e => ⟨o.slots, by rw [sb a fun q => h1 (q ▸ ma)]; exact e⟩
  obtain ⟨m', hn', hl⟩ := R.lk
  refine ⟨R.eok, R.cells.fpSet st h0 h2 sb, ⟨m', ns_slots hn' (kp _ (.head _)), fun n p e => ?_⟩, R.fpn, R.fpd, R.apart, fun x hx => ?_⟩
  · obtain ⟨v, rv, na⟩ := hl n p e
    refine ⟨v, rv.stb st, ?_⟩
    rcases na with na | ⟨na, c, e1, e2⟩
    · exact .inl na
    · exact .inr ⟨na, c, e1, cell_slots e2 (kp c (.tail _ (List.mem_map.mpr ⟨_, mem_of_lookup e1, rfl⟩)))⟩
  · obtain ⟨v, z⟩ := R.isc x hx
    exact ⟨v, cell_slots z (kp x.2 (.tail _ (List.mem_map.mpr ⟨x, hx, rfl⟩)))⟩
theorem st_compS {elt tg iter : Expr} {scope : Scope} {pos npos spos : Pos} {n : String} {ifs : List Expr} {p : PM NX} {asg : PV → PM Unit} {test : PM Bool} {ep : PM PV} {cl : List (Str × Addr)} {capt : List String} (N : Nat) (hsw : swapsWith (.ListComp elt [⟨tg, iter, ifs, 0⟩] scope pos) (some (.Name (Str.ofString n) npos)) spos.line env = pure true)
    (hclos : closureFor scope env = pure cl) (hi : SI W d env iter tg p) (hasg0 : SAs W d (compEnvC scope cl 0 env) tg asg) (ht0 : TestsOk W d (compEnvC scope cl 0 env) ifs test) (he0 : SE W d (compEnvC scope cl 0 env) elt ep)
    (hasg : ∀ C, SAs W d (compEnvC scope cl C env) tg asg) (ht : ∀ C, TestsOk W d (compEnvC scope cl C env) ifs test) (he : ∀ C, SE W d (compEnvC scope cl C env) elt ep)
    (hs : ∀ x, foldedSetIterable iter env x = pure x) (hcell : ∀ y ∈ scope.names, y.2 ≠ .cell) (hkind : scope.kind = .function) (hnames : ∀ y ∈ scope.names, y.2 = .local → scope.names.lookup y.1 = some .local)
    (hc : CapOk env scope cl capt) (hst : Stores env n) : SSt W d env (.Assign [.Name (Str.ofString n) npos] (.ListComp elt [⟨tg, iter, ifs, 0⟩] scope pos) spos) (PM.bind (pcomp capt p asg test ep N) fun v => PM.bind (pput n v) fun _ => PM.pure .next) := by
  intro G A s ρ σ Q E ha hr hg hp
  rw [exec_Assign_Name_used _ _ _ _ hsw]
  refine wpAny_bind (wpAny_standAt ?_)
  have e1 : evalThenUse (.ListComp elt [⟨tg, iter, ifs, 0⟩] scope pos) env (assign (.Name (Str.ofString n) npos) env) = (comprehension (.ListComp elt [⟨tg, iter, ifs, 0⟩] scope pos) scope env (firstIterPos [⟨tg, iter, ifs, 0⟩] pos) (newList []) false (firstIter [⟨tg, iter, ifs, 0⟩] env) (some (assign (.Name (Str.ofString n) npos) env)) >>= fun _ => pure ()) := rfl
  rw [e1]
  refine wpAny_bind (wpAny_bind (comp_core (o := none) N hi hasg ht he hs hclos (new_plain hcell hkind) hkind hnames hc (fun _ _ => nofun) G A s ρ σ _ _ ha hr hg ?_))
  unfold PM.bind at hp
  match hq : pcomp capt p asg test ep N σ, hp with
  | some (.exc, τ), hp => exact absurd hq pcomp_exc
  | some (.ok v, τ), hp =>
    obtain ⟨i, rfl⟩ := pcomp_ref v τ hq
    refine ⟨i, rfl, fun C D h' ρ' tk key l hi' h1 h2 h3 hm hsC => ?_⟩
    obtain ⟨m, hm⟩ := hm
    obtain ⟨R4, X4⟩ := key h' (Heap.SameBut.refl _ _)
    show wpAny _ A (assign (.Name (Str.ofString n) npos) env (.ref D)) _ E _
    rw [PySem.assign_Name]
    refine wpAny_bind (wpAny_standAt (wpAny_with_toks (n := tk) (Nat.le_refl _) (wpAny_bindName (wp_store (s := { s with heap := h', toks := tk }) hst R4 (p := .ref i) ⟨D, rfl, hi'⟩ fun h₅ tk₅ R5 X5 htk => ?_))))
    obtain ⟨oC, es, ep', hC, dC, sk⟩ := id hm
    have hm5 : h₅.Ns C m := ns_slots hm fun o e => X5.keep C o e h2 h1
    refine ⟨m, hm5, fun h₆ hs6 => wpAny_pure (wpAny_pure ?_)⟩
    have R6 := R5.letgo hm5 hs6.2 h1 h2 h3
    refine hp .next h₆ ρ' tk₅ R6 ?_ ⟨Nat.le_trans l.1 htk, Nat.lt_of_lt_of_le l.2 htk⟩ trivial
    have X5' := X4.trans X5.toExt
    refine ⟨X5'.pre, X5'.new, fun b o e => ?_, fun b o e n1 n2 => ?_, X5'.t⟩
    · obtain ⟨o', e'⟩ := X5'.there b o e
      exact ⟨o', by rw [hs6.2 b fun q => by rw [q, hsC] at e; cases e]; exact e'⟩
    · obtain ⟨sl, e', f⟩ := X5'.kept b o e n1 n2
      exact ⟨sl, by rw [hs6.2 b fun q => by rw [q, hsC] at e; cases e]; exact e', f⟩
end
end

section
open PySem PySem.W PyProof.Rows PySem.Spec PySem.SeqAt
set_option autoImplicit false
set_option linter.unusedVariables false
set_option maxRecDepth 100000
set_option tactic.hygienic false
structure ClsOk (W : Wd) : Prop where
  makes : makesIn W.K W.C = true
  setattr : findIn W.K (.ref W.C) "__setattr__" = some (some (.builtin "object.__setattr__"))
  over : plainOver W.K W.C = true
  noseq : noSeq W.K W.C = true
  keep : keepIn W.K (.ref W.C) = true
noncomputable def pinst {α : Type} (i : Nat) (f : Nat → List (String × PV) → PM α) : PM α := fun σ => match σ.H[i]? with
  | some (.inst k) => (match σ.H[k]? with
    | some (.dct fs) => f k fs σ
    | _ => none)
  | _ => none
theorem lookIn_ns {h : Heap} {a : Addr} {m : Str → Option Value} {o : Obj} (hn : h.Ns a m) (e : h.get? a = some o) (name : Str) : lookIn name o = some (m name) := by
  obtain ⟨o', es, ep, e', d, sk, f⟩ := hn
  rw [e] at e'; cases e'
  unfold lookIn
  rw [d, ← f]
  dsimp only
  unfold nsFind findBy
  rw [← Array.find?_toList]
  cases hz : es.toList.find? (·.key.isStr name) with
  | some en => rfl
  | none =>
    have : es.toList.any (·.refKey) = false := by
      rw [List.any_eq_false]
      intro x hx
      obtain ⟨n, t, h⟩ := sk x (Array.mem_toList_iff.mp hx)
      simp [DictEntry.refKey, h]
    rw [this]; rfl
section
variable {W : Wd} {d : Nat} {env : Env} {G : GG}
set_option tactic.hygienic true in
theorem pinst_inv {α β : Type} {R : RR α β} {s : Shared} {ρ : Rh} {σ : PS} {Q : α → Shared → Prop} {E : Value → Shared → Prop} {i : Nat} {f : Nat → List (String × PV) → PM β} (hp : Post0 W env R s ρ Q E (pinst i f σ)) : ∃ k fs, σ.H[i]? = some (.inst k) ∧ σ.H[k]? = some (.dct fs) ∧ Post0 W env R s ρ Q E (f k fs σ) := by
  unfold pinst at hp
  split at hp
  · rename_i k e
    split at hp
    · rename_i fs e2; exact ⟨k, fs, e, e2, hp⟩
    · exact hp.elim
  · exact hp.elim
set_option tactic.hygienic true in
theorem pinst_invP {α β : Type} {R : RR α β} {s : Shared} {ρ : Rh} {σ : PS} {Q : α → Shared → Prop} {E : Value → Shared → Prop} {i : Nat} {f : Nat → List (String × PV) → PM β} (hp : Post W env R s ρ Q E (pinst i f σ)) : ∃ k fs, σ.H[i]? = some (.inst k) ∧ σ.H[k]? = some (.dct fs) ∧ Post W env R s ρ Q E (f k fs σ) := by
  unfold pinst at hp
  split at hp
  · rename_i k e
    split at hp
    · rename_i fs e2; exact ⟨k, fs, e, e2, hp⟩
    · exact hp.elim
  · exact hp.elim
structure InstOf (W : Wd) (h : Heap) (ρ : Rh) (i k : Nat) (fs : List (String × PV)) (v : Value) (x dd : Addr) (es : Array DictEntry) (n : Nat) (m : Str → Option Value) : Prop where
  ref : v = .ref x
  ax : ρ.a[i]? = some x
  ad : ρ.a[k]? = some dd
  od : h.get? dd = some ⟨.type "dict", none, .dict es n, #[]⟩
  ns : h.Ns dd m
  get : ∀ y : String, (∀ p, fs.lookup y = some p → ∃ v, m (Str.ofString y) = some v ∧ RepV h ρ v p) ∧ (fs.lookup y = none → m (Str.ofString y) = none)
  sz : DctOk W dd es n fs
  at_ : InstAt h x ⟨.ref W.C, some dd, .plain, #[]⟩ W.C (some ⟨.type "dict", none, .dict es n, #[]⟩)
theorem inst_of {h : Heap} {ρ : Rh} {H : List PO} {v : Value} {i k : Nat} {fs : List (String × PV)} (c : Cells W h ρ H) (r : RepV h ρ v (.ref i)) (e : H[i]? = some (.inst k)) (e2 : H[k]? = some (.dct fs)) : ∃ x dd es n m, InstOf W h ρ i k fs v x dd es n m := by
  obtain ⟨x, rfl, ex, dd, ed, ox⟩ := ref_inv c r e
  obtain ⟨es, n, m, od, hn, g, sz⟩ := c.cell k dd _ ed e2
  exact ⟨x, dd, es, n, m, rfl, ex, ed, od, hn, g, sz, ox, rfl, rfl, od⟩
theorem Rel.X {h : Heap} {ρ : Rh} {σ : PS} (R : Rel W env h ρ σ) : W.K.In h := W.X.keeps R.base

noncomputable def pfield (n : String) (a : PV) : PM PV := match a with
  | .ref i => pinst i fun _ fs => match fs.lookup n with
    | some (.ref j) => PM.pure (.ref j)
    | _ => pfail
  | _ => pfail
set_option tactic.hygienic true in
theorem s_field {x : Str} {n : String} {xp pos : Pos} {p : PM PV} (ho : SE W d env (.Name x xp) p) (hf : findIn W.K (.ref W.C) (Str.ofString n) = some none) : SE W d env (.Attribute (.Name x xp) (Str.ofString n) pos) (PM.bind p (pfield n)) := by
  intro G
  rw [arm_eval_Attribute]
  have e1 : attributeBase (.Name x xp) (Str.ofString n) env (eval (.Name x xp) env) = eval (.Name x xp) env := rfl
  rw [e1]
  refine Sim.bind (ho G) fun a pa => Sim.stand ?_
  refine Sim.of0 ?_
  intro A s ρ σ Q E ha hr hg hp
  have ra : RepV s.heap ρ a pa := hg.2
  unfold pfield at hp
  split at hp
  · rename_i i
    obtain ⟨k, fs, h1, h2, hp⟩ := pinst_inv hp
    obtain ⟨y, dd, es, nn, m, I⟩ := inst_of hr.cells ra h1 h2
    cases hl : fs.lookup n with
    | none => rw [hl] at hp; exact hp.elim
    | some q =>
      rw [hl] at hp
      cases q with
      | ref j =>
        obtain ⟨v, e, rv⟩ := (I.get n).1 _ hl
        have hv : handedIn v = true := by obtain ⟨z, rfl, _⟩ := rv; rfl
        rw [I.ref]
        have hlk : lookIn (Str.ofString n) ⟨.type "dict", none, .dict es nn, #[]⟩ = some (some v) := by rw [lookIn_ns I.ns I.od, e]
        have hfo : findObj W.K W.C (some ⟨.type "dict", none, .dict es nn, #[]⟩) (Str.ofString n) = some (.value v) := findObj_own (by unfold hasDictIn; rw [W.hcd]; exact W.hasDict) hf rfl hlk
        refine wpAny_bind (wpAny_holding (get_value hr.X I.at_ W.hga hfo hv ?_))
        have e2 : letTemporaryGo (.Name x xp) (.ref y) v = pure () := rfl
        rw [e2]
        exact wpAny_bind (wpAny_pure (wpAny_pure (post_val hr hp rv _)))
      | _ => exact hp.elim
  · exact hp.elim

theorem wpAny_nsSetD {M : Model} {A : Around} {E : Value → Shared → Prop} {s : Shared} {a : Addr} {m : Str → Option Value} {name : Str} {v : Value} {es : Array DictEntry} {n : Nat} {Q : Unit → Shared → Prop} (hn : s.heap.Ns a m) (ho : s.heap.get? a = some ⟨.type "dict", none, .dict es n, #[]⟩)
    (h : ∀ h' es' n', h'.Ns a (fun x => if x = name then some v else m x) → h'.get? a = some ⟨.type "dict", none, .dict es' n', #[]⟩ → Heap.SameBut a s.heap h' → (m name = none → es'.size = es.size + 1 ∧ n' = n + 1) → (m name ≠ none → es'.size = es.size ∧ n' = n) → ((∀ e ∈ es, ∃ x t, e.key = .str x t ∧ e.hash = hashStr M.w x) → ∀ e ∈ es', ∃ x t, e.key = .str x t ∧ e.hash = hashStr M.w x) → Q () { s with heap := h', toks := s.toks + 1 }) : wpAny M A (nsSet a name v) Q E s := by
  intro Γ p _
  obtain ⟨o, es₀, ep, ho', hd, hk, hm⟩ := hn
  rw [ho] at ho'; cases ho'; cases hd
  simp only [nsSet, strHash, Sem.wp_bind', Sem.wp_cmd_ask, Sem.wp_pure', Sem.wp_cmd_mkText]
  rw [Sem.wp_loadPart_of M Γ _ p { s with toks := s.toks + 1 } _ ho]
  have hany : es.any (·.refKey) = false := by
    rw [Array.any_eq_false']; intro e he; obtain ⟨n, t, h⟩ := hk e he; simp [DictEntry.refKey, h]
  simp only [aRefKeyMayBeTheName_eq, aRefKeyMayBeTheNameByArray, hany, Bool.and_false, Bool.false_eq_true, if_false, Sem.wp_cmd_updatePart]
  refine ⟨by rw [ho]; rfl, ?_⟩
  have hmn : m name = (es.find? (·.key.isStr name)).map (·.val) := (hm name).symm
  cases hi : es.findIdx? (·.key.isStr name) with
  | some i =>
    refine h _ (es.modify i fun e => { e with val := v }) n ⟨_, _, n, Heap.get?_update_self _ ho (by simp only [Obj.putName_eq, Obj.putNameByArray, hi]; rfl), by simp only [Obj.putName_eq, Obj.putNameByArray, hi]; rfl, hk.modify _ _, fun x => ?_⟩ ?_ (Heap.SameBut.update ..) (fun e => ?_) (fun _ => ⟨by simp, rfl⟩) fun hh e he => ?_
    · show _ = if x = name then some v else m x
      rw [← hm]; exact findBy_modify (fun n v => v.isStr n) Value.isStr_inj es name x v i hi
    · rw [Heap.get?_update_self _ ho (by simp only [Obj.putName_eq, Obj.putNameByArray, hi]; rfl)]
      simp only [Obj.putName_eq, Obj.putNameByArray, hi]
    · rw [hmn, Option.map_eq_none_iff] at e
      have h1 := Array.findIdx?_eq_some_iff_getElem.mp hi
      obtain ⟨hlt, h2, _⟩ := h1
      rw [Array.find?_eq_none] at e
      exact absurd h2 (by simpa using e es[i] (Array.getElem_mem hlt))
    · obtain ⟨j, hj, rfl⟩ := Array.mem_iff_getElem.mp he
      rw [Array.size_modify] at hj
      rw [Array.getElem_modify]
      obtain ⟨x, t, h1, h2⟩ := hh es[j] (Array.getElem_mem hj)
      split <;> exact ⟨x, t, h1, h2⟩
  | none =>
    refine h _ (es.push ⟨if name.cps.isEmpty = true then 0 else reduceHash (M.w.params.strHash name.cps), .str name s.toks, v⟩) (n + 1) ⟨_, _, n + 1, Heap.get?_update_self _ ho (by simp only [Obj.putName_eq, Obj.putNameByArray, hi]; rfl), by simp only [Obj.putName_eq, Obj.putNameByArray, hi]; rfl, hk.push _ _ _ _, fun x => ?_⟩ ?_ (Heap.SameBut.update ..) (fun e => ?_) (fun e => ?_) fun hh e he => ?_
    · show _ = if x = name then some v else m x
      rw [← hm]
      exact findBy_push (fun n v => v.isStr n) es name x _ _ v (fun y => by
        show (name == y) = decide (y = name)
        by_cases h : y = name
        · subst h; simp
        · have : ¬ name = y := fun e => h e.symm
          simp [h, this]) hi
    · rw [Heap.get?_update_self _ ho (by simp only [Obj.putName_eq, Obj.putNameByArray, hi]; rfl)]
      simp only [Obj.putName_eq, Obj.putNameByArray, hi]
    · exact ⟨by simp, rfl⟩
    · exact absurd (by rw [hmn]; simp only [Option.map_eq_none_iff, Array.find?_eq_none]; intro e he; simpa using (Array.findIdx?_eq_none_iff.mp hi) e he) e
    · rcases Array.mem_push.mp he with he | rfl
      · exact hh e he
      · exact ⟨name, s.toks, rfl, rfl⟩
theorem lset_same (n : String) (v : PV) : ∀ (l : List (String × PV)), l.lookup n ≠ none → (lset n v l).length = l.length
  | [], h => absurd rfl h
  | (m, w) :: r, h => by
    unfold lset
    by_cases hm : m = n
    · rw [if_pos hm]; rfl
    · rw [if_neg hm]
      rw [List.lookup_cons] at h
      have : (n == m) = false := by simpa using fun e : n = m => hm e.symm
      rw [this] at h
      simp [lset_same n v r h]
theorem lset_length (n : String) (v : PV) : ∀ (l : List (String × PV)), (l.lookup n = none → (lset n v l).length = l.length + 1) ∧ l.length ≤ (lset n v l).length
  | [] => ⟨fun _ => rfl, Nat.zero_le _⟩
  | (m, w) :: r => by
    obtain ⟨h1, h2⟩ := lset_length n v r
    unfold lset
    by_cases hm : m = n
    · subst hm
      rw [if_pos rfl]
      exact ⟨fun h => by simp at h, Nat.le_refl _⟩
    · rw [if_neg hm]
      refine ⟨fun h => ?_, by simpa using h2⟩
      rw [List.lookup_cons] at h
      have : (n == m) = false := by simpa using fun e : n = m => hm e.symm
      rw [this] at h
      simp [h1 h]
noncomputable def pstoreF (n : String) (a v : PV) : PM Unit := match a with
  | .ref i => pinst i fun k fs => pguard (fs.length ≤ 100) (fun σ => some (.ok (), { σ with H := σ.H.set k (.dct (lset n v fs)) }))
  | _ => pfail
set_option tactic.hygienic true in
theorem a_field {x : Str} {n : String} {xp pos : Pos} {p : PM PV} (hC : ClsOk W) (ho : SE W d env (.Name x xp) p) (hf : takerIn W.K W.C (Str.ofString n) = some none) : SAs W d env (.Attribute (.Name x xp) (Str.ofString n) pos) (fun v => PM.bind p fun a => pstoreF n a v) := by
  intro G v pv gv
  rw [arm_assign_Attribute]
  refine Sim.bind (Sim.holding (ho G)) fun a pa => Sim.stand ?_
  refine Sim.of0 ?_
  intro A s ρ σ Q E ha hr hg hp
  have ra : RepV s.heap ρ a pa := hg.2
  have rv := gv _ _ hg.1
  unfold pstoreF at hp
  split at hp
  · rename_i i
    obtain ⟨k, fs, h1, h2, hp⟩ := pinst_inv hp
    obtain ⟨hsz, hp⟩ := pguard_inv hp
    obtain ⟨y, dd, es, nn, m, I⟩ := inst_of hr.cells ra h1 h2
    rw [I.ref]
    refine wpAny_bind (wpAny_holding (set_plain hr.X I.at_ hC.setattr (osa_open hr.X I.at_ hC.over hf fun b => ?_)))
    obtain ⟨hx, hcl, hn, -⟩ := I.at_
    refine wpAny_bind (wpAny_pure (wpAny_bind (wpAny_bind (wpAny_loadPart hx (wpAny_bind (looks_clsIn hr.X W.hcd _ _ _ _ (fun _ _ e => e) ?_))))))
    rw [W.hasDict]
    refine wpAny_pure (a := some dd) (wpAny_bind (wpAny_pure (wpAny_bind ?_)))
    refine wpAny_nsSetD (s := { s with toks := s.toks + 1 }) I.ns I.od fun h' es' n' hns' hod' sb z1 z2 z3 => ?_
    have hz := I.sz
    have hok : DctOk W dd es' n' (lset n pv fs) := by
      cases hm : m (Str.ofString n) with
      | none =>
        have hl : fs.lookup n = none := by
          cases e : fs.lookup n with
          | none => rfl
          | some q => obtain ⟨w, e', _⟩ := (I.get n).1 q e; rw [hm] at e'; cases e'
        have l1 := (lset_length n pv fs).1 hl
        obtain ⟨y1, y2⟩ := z1 hm
        exact ⟨by rw [y2, l1, hz.n], by rw [y1, l1, hz.sz], hz.na, z3 hz.hash⟩
      | some w =>
        have hl : fs.lookup n ≠ none := fun e => by rw [(I.get n).2 e] at hm; cases hm
        have l1 := lset_same n pv fs hl
        obtain ⟨y1, y2⟩ := z2 (by rw [hm]; simp)
        exact ⟨by rw [y2, l1, hz.n], by rw [y1, l1, hz.sz], hz.na, z3 hz.hash⟩
    have hle2 : es'.size ≤ 101 := by
      have h1 := hok.sz
      have h2 : (lset n pv fs).length ≤ fs.length + 1 := by
        cases e : fs.lookup n with
        | none => rw [(lset_length n pv fs).1 e]; exact Nat.le_refl _
        | some q => rw [lset_same n pv fs (by rw [e]; simp)]; lia
      lia
    refine wpAny_bind (wpAny_lookBehind hod' (pastItsLine_dict (by rw [sizeLine_eq]; lia)) ?_)
    refine wpAny_pure ?_
    refine wp_release ?_
    have st := hr.cells.stbSet (get_mem I.ad) sb.2
    have ro : RepO W h' ρ dd (.dct (lset n pv fs)) := by
      refine ⟨es', n', _, hod', hns', fun z => ⟨fun q e => ?_, fun e => ?_⟩, hok⟩
      · rw [lset_lookup] at e
        by_cases hz : z = n
        · subst hz
          rw [if_pos rfl] at e; cases e
          exact ⟨v, by simp, rv.stb st⟩
        · rw [if_neg hz] at e
          obtain ⟨w, e1, e2⟩ := (I.get z).1 q e
          have hne : Str.ofString z ≠ Str.ofString n := fun q => hz (ofString_inj q)
          exact ⟨w, by simp [hne, e1], e2.stb st⟩
      · rw [lset_lookup] at e
        by_cases hz : z = n
        · rw [if_pos hz] at e; cases e
        · rw [if_neg hz] at e
          have hne : Str.ofString z ≠ Str.ofString n := fun q => hz (ofString_inj q)
          simp [hne, (I.get z).2 e]
    exact hp () h' ρ _ (hr.set I.ad sb.2 ro) (Ext0.set (get_mem I.ad) sb.2 ro) trivial
  · exact hp.elim
end
end

section
open PySem PySem.W PyProof.Rows PySem.Spec PySem.SeqAt
set_option autoImplicit false
set_option linter.unusedVariables false
set_option maxRecDepth 100000
set_option tactic.hygienic false
noncomputable def clsSpec (spec : FSpec) : FSpec := fun args kw H => match spec (.ref (H.length + 1) :: args) kw (H ++ [.dct []] ++ [.inst H.length]) with
  | some (.ok .none, H') => some (.ok (.ref (H.length + 1)), H')
  | some (.exc, H') => some (.exc, H')
  | _ => none
section
variable {W : Wd} {d : Nat} {env : Env} {G : GG}
theorem not_sys {h : Heap} {ρ : Rh} {H : List PO} (hc : Cells W h ρ H) : h.objs.size ≠ sysModules := by
  obtain ⟨o, es, ep, ho, _⟩ := W.g
  have := Heap.lt_size (hc.base _ _ ho)
  intro e
  rw [e] at this
  exact absurd this (by decide)
theorem AOk.under {A : Around} {s : Shared} {ρ ρ' : Rh} {c : Code} {h' : Heap} (ha : AOk W (d + 1) A s ρ) (hw : c.weight ≤ 1) (hu : c.cUnits ≤ 3) (he : c.envs = []) (k : Keeps s.heap h') (ht : ρ'.t = ρ.t) (hn : ∀ a ∈ ρ'.a, a ∈ ρ.a ∨ s.heap.get? a = none) : AOk W d (A.under c) { s with heap := h' } ρ' := by
  obtain ⟨l, h1, h2⟩ := ha.fr
  refine ⟨?_, ?_, ha.handled, ⟨l, ?_, ?_⟩, by rw [ht]; exact ha.tok, ha.pos⟩
  · have := ha.depth; show A.depth + c.weight + 2 * d + 2 < recursionLimit; lia
  · have := ha.units; show A.units + c.cUnits + 100 * d + 100 < cLine; lia
  · show pushEnvs c.envs A.frames = some l
    rw [he]; exact h1
  · exact h2.more (h2.ff.of_keeps fun b o e _ => ⟨o, k b o e, rfl⟩) hn
theorem c_class {spec : FSpec} {fI : Addr} (hC : ClsOk W) (hi : findIn W.K (.ref W.C) "__init__" = some (some (.ref fI))) (hf : typeIn W.K (.ref fI) = some (.type "function")) (F : CHolds W d (.ref fI) spec) : CHolds W (d + 1) (.ref W.C) (clsSpec spec) := by
  intro A s ρ H args kw pargs pkw R ha hc hra hrk hp
  have X : W.K.In s.heap := W.X.keeps hc.base
  obtain ⟨h, g, dr, t, os⟩ := s
  dsimp only at X hc hra hrk
  refine make_core (makes_of X hC.makes) (looks_findIn X hi) (fun self => bind_fn X self hf) (.inl rfl) ?_
  have k1 : Keeps h (h.push emptyDict) := Keeps.push _
  have n1 : h.get? h.objs.size = none := fresh_none
  have hsz : (h.push emptyDict).objs.size = h.objs.size + 1 := Heap.size_push ..
  have k2 : Keeps (h.push emptyDict) ((h.push emptyDict).push (instObj W.C h.objs.size)) := Keeps.push _
  have n2 : (h.push emptyDict).get? (h.objs.size + 1) = none := by rw [← hsz]; exact fresh_none
  have o1 : (h.push emptyDict).get? h.objs.size = some emptyDict := Heap.get?_push_size _ rfl
  have c1 : Cells W (h.push emptyDict) (ρ.add h.objs.size) (H ++ [.dct []]) := hc.snoc k1 n1 ⟨#[], 0, fun _ => none, o1, Heap.Ns.new h (.type "dict"), fun x => ⟨fun p e => (by cases e), fun _ => rfl⟩, ⟨rfl, rfl, not_sys hc, fun e he => by simp at he⟩⟩
  have hlen : (ρ.add h.objs.size).a[H.length]? = some h.objs.size := by
    show (ρ.a ++ [h.objs.size])[H.length]? = _
    rw [← hc.len, List.getElem?_append_right (Nat.le_refl _)]; simp
  have o2 : ((h.push emptyDict).push (instObj W.C h.objs.size)).get? (h.objs.size + 1) = some (instObj W.C h.objs.size) := by rw [← hsz]; exact Heap.get?_push_size _ rfl
  have c2 : Cells W ((h.push emptyDict).push (instObj W.C h.objs.size)) ((ρ.add h.objs.size).add (h.objs.size + 1)) (H ++ [.dct []] ++ [.inst H.length]) := c1.snoc k2 n2 ⟨h.objs.size, pre_snoc.pre _ _ hlen, o2⟩
  have hx : ((ρ.add h.objs.size).add (h.objs.size + 1)).a[H.length + 1]? = some (h.objs.size + 1) := by
    show ((ρ.a ++ [h.objs.size]) ++ [h.objs.size + 1])[H.length + 1]? = _
    have : (ρ.a ++ [h.objs.size]).length = H.length + 1 := by rw [List.length_append, hc.len]; rfl
    rw [← this, List.getElem?_append_right (Nat.le_refl _)]; simp
  have pr : Pre ρ ((ρ.add h.objs.size).add (h.objs.size + 1)) := ⟨fun i a e => pre_snoc.pre _ _ (pre_snoc.pre _ _ e), Nat.le_refl _⟩
  have kk := k1.trans k2
  have ex : Ext W [] h ρ ((h.push emptyDict).push (instObj W.C h.objs.size)) ((ρ.add h.objs.size).add (h.objs.size + 1)) := (Ext0.snoc k1 n1).toExt.trans (Ext0.snoc k2 n2).toExt
  refine F (A.under (.builtin "type.__call__" ⟨.ref W.C :: args, kw⟩)) ⟨(h.push emptyDict).push (instObj W.C h.objs.size), g, dr, t, os⟩ ((ρ.add h.objs.size).add (h.objs.size + 1)) (H ++ [.dct []] ++ [.inst H.length]) (.ref (h.objs.size + 1) :: args) kw (.ref (H.length + 1) :: pargs) pkw (InitBack (h.objs.size + 1) R) ?_ c2 (.cons ⟨_, rfl, hx⟩ (hra.mono fun _ _ y => y.stb (kk.stb pr))) (hrk.mono fun _ _ y => ⟨y.1, y.2.stb (kk.stb pr)⟩) ?_
  · refine AOk.under (s := ⟨h, g, dr, t, os⟩) ha ?_ ?_ ?_ kk rfl ex.new
    · exact Nat.le_of_eq (by rfl)
    · exact Nat.le_of_ble_eq_true rfl
    · rfl
  · unfold clsSpec at hp
    generalize spec (.ref (H.length + 1) :: pargs) pkw (H ++ [.dct []] ++ [.inst H.length]) = r at hp ⊢
    cases r with
    | none => exact hp.elim
    | some r =>
      obtain ⟨r, H'⟩ := r
      cases r with
      | exc => exact fun x h' ρ' tk c e l r => hp x h' ρ' tk c (ex.trans e) l (r.back ex.there)
      | ok v =>
        cases v with
        | none =>
          intro x h' ρ' tk c e l r
          cases r
          exact ⟨rfl, hp (.ref (h.objs.size + 1)) h' ρ' tk c (ex.trans e) l ⟨_, rfl, e.pre _ _ hx⟩⟩
        | _ => exact hp.elim

theorem s_kcall {x : Str} {px pos : Pos} {fa : Addr} {spec : FSpec} {es : List Expr} {ks : List Keyword} {q : PM (List PV × List (String × PV))} (F : FHolds W d (.ref fa) spec) (hx : env.kindOf x = some .globalImplicit)
    (e : nsIn W.K mainGlobals x = some (some (.ref fa))) (hk : keepIn W.K (.ref fa) = true) (ha : SA W d env es ks q) (hdb : (x == ("__debug__" : Str)) = false) (hplain : ∀ pos, ((backTo pos (starEach es env)).any (·.1) || (backToKw pos (keywordEach ks env)).any (·.1.isNone)) = false) :
    SE W d env (.Call (.Name x px) es ks pos) (PM.bind q fun a => pcall spec a.1 a.2) := by
  intro G
  rw [arm_eval_Call_Name']
  intro A s ρ σ Q E hA hr hg hp
  refine wpAny_bind (s_gname (d := d) (p := .glob fa) hx e (fun _ _ => rfl) hdb A s ρ σ _ _ hA hr hg ?_)
  intro f h' ρ' tk r1 e1 l1 rf
  cases rf
  refine callWith_of (first := []) (P := fun h => W.K.In h) (hplain _) (fun h X => keeps_K hk h X) (ha G (.ref fa) pos A _ ρ' σ _ _ (hA.ext r1 e1 l1) r1 (G.stb (hr.stb e1) hg) ?_)
  unfold PM.bind at hp
  match hq : q σ, hp with
  | some (.ok b, σ₁), hp =>
    intro a h₂ ρ₂ tk₂ r2 e2 l2 ra
    refine ⟨r2.X, ?_⟩
    exact sim_call (G := ⟨fun h ρ => rrA.rel h ρ a b, fun x y => rrA.stb x y⟩) F (fun _ _ g => g.1) (fun _ _ g => g.2) A _ ρ₂ σ₁ Q E ((hA.ext r1 e1 l1).ext r2 e2 l2) r2 ra (Post.trans (s := s) rfl (e1.trans e2) hp)
  | some (.exc, σ₁), hp =>
    exact fun y h₂ ρ₂ tk₂ r2 e2 l2 re => hp y h₂ ρ₂ tk₂ r2 (e1.trans e2) l2 (re.back e1.there)

set_option tactic.hygienic true in
theorem s_icall {o : Expr} {n : String} {apos pos : Pos} {fa : Addr} {spec : FSpec} {es : List Expr} {ks : List Keyword} {p : PM PV} {q : PM (List PV × List (String × PV))} (ho : SE W d env o p) (F : FHolds W d (.ref fa) spec)
    (hf : findIn W.K (.ref W.C) (Str.ofString n) = some (some (.ref fa))) (ht : typeIn W.K (.ref fa) = some (.type "function")) (hk : keepIn W.K (.ref fa) = true) (ha : SA W d env es ks q)
    (hb : ∀ t, attributeBase o (Str.ofString n) env t = t) (hff : methodCallForm (es.length + ks.length) (backTo pos (starEach es env)) (backToKw pos (keywordEach ks env)) = true) (hpos : (apos.endLine == pos.line) = true)
    (hplain : ((backTo pos (starEach es env)).any (·.1) || (backToKw pos (keywordEach ks env)).any (·.1.isNone)) = false) :
    SE W d env (.Call (.Attribute o (Str.ofString n) apos) es ks pos) (PM.bind p fun a => match a with
      | .ref i => pinst i fun _ fs => pguard (fs.lookup n = none) (PM.bind q fun l => pcall spec (.ref i :: l.1) l.2)
      | _ => pfail) := by
  refine s_meth_ ho (fun G a pa ga => ?_) hb hff hpos
  cases pa with
  | ref i =>
    intro A s ρ σ Q E hA hr hg hp
    obtain ⟨k, fs, h1, h2, hp⟩ := pinst_invP hp
    unfold pguard at hp
    split at hp
    · rename_i hl
      obtain ⟨y, dd, es', nn, m, I⟩ := inst_of hr.cells (ga _ _ hg) h1 h2
      have hlk : shadowIn (some ⟨.type "dict", none, .dict es' nn, #[]⟩) (Str.ofString n) = some false := by
        unfold shadowIn
        dsimp only
        rw [lookIn_ns I.ns I.od, (I.get n).2 hl]; rfl
      have ga' := I.ref
      subst ga'
      refine wpAny_bind (method_fn hr.X I.at_ W.hga W.hgk hf ht hlk ?_)
      refine callWith_of (first := [.ref y]) (P := fun h => W.K.In h) hplain (fun h X => keeps_K hk h X) (ha (G.add rrV (.ref y) (.ref i)) (.ref fa) pos A _ ρ σ _ _ hA hr ⟨hg, ga _ _ hg⟩ ?_)
      unfold PM.bind at hp
      match hq : q σ, hp with
      | some (.ok b, σ₁), hp =>
        intro a h₂ ρ₂ tk₂ r2 e2 l2 ra
        refine ⟨r2.X, ?_⟩
        exact sim_call (G := ⟨fun h ρ => RepV h ρ (.ref y) (.ref i) ∧ rrA.rel h ρ a b, fun x z => ⟨z.1.stb x, rrA.stb x z.2⟩⟩) (args := .ref y :: a.pos) (pargs := .ref i :: b.1) F (fun _ _ g => .cons g.1 g.2.1) (fun _ _ g => g.2.2) A _ ρ₂ σ₁ Q E (hA.ext r2 e2 l2) r2 ⟨(ga _ _ hg).stb (hr.stb e2), ra⟩ (Post.trans (s := s) rfl e2 hp)
      | some (.exc, σ₁), hp => exact hp
    · exact hp.elim
  | _ => exact s_fail
end
end

section
open PySem PySem.W PyProof.Rows PySem.Spec PySem.SeqAt PySem.Calls
set_option autoImplicit false
set_option linter.unusedVariables false
set_option maxRecDepth 100000
set_option tactic.hygienic false
section
variable {W : Wd} {d : Nat} {env : Env} {G : GG}
open Builtin in
theorem wp_strOwn {prog : Program} {w : World} {A : Around} {E : Value → Shared → Prop} {s : Shared} {K : Frag} {x C f : Addr} {ox : Obj} {od : Option Obj} {Q : Value → Shared → Prop} (hu : A.in1.in1.units < cLine) (X : K.In s.heap) (I : InstAt s.heap x ox C od) (hs : findIn K (.ref C) "__str__" = some (some (.ref f))) (hf : typeIn K (.ref f) = some (.type "function"))
    (h : wpAny (model prog w) A.in1.in1 (call (.ref f) [.ref x]) (StrBack Q) E s) : wpAny (model prog w) A (call (.type "str") [.ref x]) Q E s := by
  refine callType_codes (T := "str") (Bi := Builtin.«object.__init__») (Q₁ := fun r s₁ => ∃ y u, r = .str y u ∧ Q r s₁) PySem.F.called_str (PySem.F.typeCall_str_1 _) PySem.F.entry_object_init ?_ ?_
  · refine codeAny_of_tree ?_
    show wpAny _ A.in1.in1 (do checkBuiltinCall "str.__new__" ⟨[.type "str", .ref x], []⟩; again (.builtin "str.__new__" ⟨[.type "str", .ref x], []⟩)) _ _ s
    refine wpAny_bind (wpAny_of_eq (PySem.F.newCall_str_1 _) (wpAny_pure ⟨plainId_quiet (by decide +kernel) _, codeAny_builtin PySem.F.entry_str_new ?_⟩))
    rw [Around.under_plainId (by decide +kernel) _]
    rw [str_new_tree]
    refine wpAny_bind (wpAny_pure ?_)
    refine wpAny_bind (wpAny_of_eq isSubtype_str_str ?_)
    have key : wpAny (model prog w) A.in1.in1 (PySem.Builtin.Str.strOf (.ref x)) (fun r s₁ => ∃ y u, r = .str y u ∧ Q r s₁) E s := by
      unfold PySem.Builtin.Str.strOf
      rw [show PySem.Builtin.Str.isExactStr (.ref x) = false from rfl]
      refine wpAny_bind (m := cRoomFor _ _) (wpAny_cRoomFor hu ?_)
      refine wpAny_bind (m := callSpecial? (.ref x) (Str.ofString "__str__")) (special_fn X I hs hf (wpAny_mono h (fun r s' z => ?_) fun _ _ y => y))
      cases r <;> first | exact z.elim | exact wpAny_pure ⟨_, _, rfl, z⟩
    exact wpAny_bind (wpAny_mono key (fun r s₁ hr => wpAny_pure hr) fun _ _ y => y)
  · rintro obj s₁ ⟨y, u, rfl, hq⟩
    exact ⟨typeIs_str _ _ _, PySem.F.args_object_init_2 _ _, object_init_meets PySem.F.called_str.init.lookup PySem.F.called_str.made (by decide) prog w A.in1 _ s₁ ⟨typeIs_str _ _ _, rfl, hq⟩⟩
noncomputable def fStrI (spec : FSpec) : List PV → PM PV
  | [.ref i] => pinst i fun _ _ => fun σ => match spec [.ref i] [] σ.H with
    | some (.ok (.str x), H') => some (.ok (.str x), { σ with H := H' })
    | _ => none
  | _ => pfail
theorem AOk.in2 {A : Around} {s : Shared} {ρ : Rh} (ha : AOk W (d + 1) A s ρ) : AOk W d A.in1.in1 s ρ := by
  obtain ⟨l, h1, h2⟩ := ha.fr
  refine ⟨?_, ?_, ha.handled, ⟨l, h1, h2⟩, ha.tok, ha.pos⟩
  · have := ha.depth; show A.depth + 2 * d + 2 < recursionLimit; lia
  · have := ha.units; show A.units + 1 + 1 + 100 * d + 100 < cLine; lia
set_option tactic.hygienic true in
theorem c_strI {spec : FSpec} {fa : Addr} (F : FHolds W d (.ref fa) spec) (hs : findIn W.K (.ref W.C) "__str__" = some (some (.ref fa))) (hf : typeIn W.K (.ref fa) = some (.type "function")) : CallOk W (d + 1) env (.type "str") (fStrI spec) := by
  intro G vs l gl
  intro A s ρ σ Q E ha hr hg hp
  have rl := gl _ _ hg
  unfold fStrI at hp
  split at hp
  · rename_i i
    obtain ⟨v, rfl, rv⟩ := one_inv rl
    obtain ⟨k, fs, h1, h2, hp⟩ := pinst_invP hp
    obtain ⟨y, dd, es', nn, m, I⟩ := inst_of hr.cells rv h1 h2
    have e := I.ref
    subst e
    have hu : A.in1.in1.units < cLine := by have := ha.units; show A.units + 1 + 1 < cLine; omega
    refine wp_strOwn hu hr.X I.at_ hs hf ?_
    refine F A.in1.in1 s ρ σ.H [.ref y] [] [.ref i] [] _ _ ha.in2 hr.cells (.cons rv .nil) .nil ?_
    match hq : spec [.ref i] [] σ.H, hp with
    | some (.ok (.str x), H'), hp =>
      intro z h' ρ' tk c e l r
      obtain ⟨t, rfl⟩ := r
      exact hp _ h' ρ' tk (hr.after c e) (e.mono fun _ q => by simp at q) l ⟨t, rfl⟩
  · exact hp.elim

noncomputable def pdelI (spec : FSpec) (a b : PV) : PM Unit := match a with
  | .ref i => pinst i fun _ _ => PM.bind (pcall spec [.ref i, b] []) fun _ => PM.pure ()
  | _ => pfail
theorem wp_delItem {M : Model} {A : Around} {E : Value → Shared → Prop} {s : Shared} {K : Frag} {x C f : Addr} {ox : Obj} {od : Option Obj} {i : Value} {Q : Unit → Shared → Prop} (X : K.In s.heap) (I : InstAt s.heap x ox C od) (hq : noSeq K C = true) (hs : findIn K (.ref C) "__delitem__" = some (some (.ref f))) (hf : typeIn K (.ref f) = some (.type "function"))
    (h : wpAny M A (call (.ref f) [.ref x, i]) (fun _ s' => Q () s') E s) : wpAny M A (delItem (.ref x) i) Q E s := by
  unfold delItem sequenceKey
  refine wpAny_holding (wpAny_bind (wpAny_bind (I.type.here ?_)))
  refine wpAny_bind ((anyM_none X hq).here ?_)
  rw [if_pos (show (!false) = true from rfl)]
  exact wpAny_pure (wpAny_bind (special_fn X I hs hf (wpAny_mono h (fun _ _ z => wpAny_pure z) fun _ _ z => z)))
theorem wp_setItem {M : Model} {A : Around} {E : Value → Shared → Prop} {s : Shared} {K : Frag} {x C f : Addr} {ox : Obj} {od : Option Obj} {i v : Value} {Q : Unit → Shared → Prop} (X : K.In s.heap) (I : InstAt s.heap x ox C od) (hq : noSeq K C = true) (hs : findIn K (.ref C) "__setitem__" = some (some (.ref f))) (hf : typeIn K (.ref f) = some (.type "function"))
    (h : wpAny M A (call (.ref f) [.ref x, i, v]) (fun _ s' => Q () s') E s) : wpAny M A (setItem (.ref x) i v) Q E s := by
  unfold setItem sequenceKey
  refine wpAny_holding (wpAny_bind (wpAny_bind (I.type.here ?_)))
  refine wpAny_bind ((anyM_none X hq).here ?_)
  rw [if_pos (show (!false) = true from rfl)]
  exact wpAny_pure (wpAny_bind (special_fn X I hs hf (wpAny_mono h (fun _ _ z => wpAny_pure z) fun _ _ z => z)))
theorem wp_drop {f : Value} {spec : FSpec} (F : FHolds W d f spec) {args : List Value} {pargs : List PV} {A : Around} {s : Shared} {ρ : Rh} {σ : PS} {Q : Unit → Shared → Prop} {E : Value → Shared → Prop} (ha : AOk W d A s ρ) (hr : Rel W env s.heap ρ σ) (ra : All2 (RepV s.heap ρ) args pargs)
    (hp : Post W env rrU s ρ Q E (PM.bind (pcall spec pargs []) (fun _ => PM.pure ()) σ)) : wpAny (model W.prog W.w) A (call f args) (fun _ s' => Q () s') E s := by
  refine sim_call (G := ⟨fun h ρ => All2 (RepV h ρ) args pargs, fun x y => rrL.stb x y⟩) F (fun _ _ g => g) (fun _ _ _ => .nil) A s ρ σ _ _ ha hr ra ?_
  unfold PM.bind at hp
  match hq : pcall spec pargs [] σ, hp with
  | some (.ok b, σ₁), hp => exact fun a h' ρ' tk r1 e1 l _ => hp () h' ρ' tk r1 e1 l trivial
  | some (.exc, σ₁), hp => exact hp
set_option tactic.hygienic true in
theorem o_delI {spec : FSpec} {fa : Addr} (hC : ClsOk W) (F : FHolds W d (.ref fa) spec) (hs : findIn W.K (.ref W.C) "__delitem__" = some (some (.ref fa))) (hf : typeIn W.K (.ref fa) = some (.type "function")) {a b : Value} {pa pb : PV} (ga : ∀ h ρ, G.P h ρ → RepV h ρ a pa) (gb : ∀ h ρ, G.P h ρ → RepV h ρ b pb) :
    Sim W d env rrU G (delItem a b) (pdelI spec pa pb) := by
  intro A s ρ σ Q E ha hr hg hp
  unfold pdelI at hp
  split at hp
  · rename_i i
    obtain ⟨k, fs, h1, h2, hp⟩ := pinst_invP hp
    obtain ⟨y, dd, es', nn, m, I⟩ := inst_of hr.cells (ga _ _ hg) h1 h2
    have e := I.ref
    subst e
    exact wp_delItem hr.X I.at_ hC.noseq hs hf (wp_drop F ha hr (.cons (ga _ _ hg) (.cons (gb _ _ hg) .nil)) hp)
  · exact hp.elim
theorem st_delI {o i : Expr} {sp pos : Pos} {spec : FSpec} {fa : Addr} {p q : PM PV} (hC : ClsOk W) (F : FHolds W d (.ref fa) spec) (hs : findIn W.K (.ref W.C) "__delitem__" = some (some (.ref fa))) (hf : typeIn W.K (.ref fa) = some (.type "function")) (ho : SE W d env o p) (hi : SE W d env i q) :
    SSt W d env (.Delete [.Subscript o i sp] pos) (PM.bind p fun a => PM.bind q fun b => PM.bind (pdelI spec a b) fun _ => PM.pure .next) := by
  intro G
  rw [arm_exec_Delete]
  refine Sim.stand ?_
  have e1 : deleteEach [.Subscript o i sp] env = (delete (.Subscript o i sp) env >>= fun _ => deleteEach [] env) := rfl
  rw [e1, arm_delete_Subscript]
  refine Sim.eq (t' := eval o env >>= fun ov => holding [ov] (eval i env) >>= fun iv => standAt sp >>= fun _ => holding [ov, iv] (delItem ov iv) >>= fun _ => PySem.release [ov, iv] [] >>= fun _ => pure .next) ?_ ?_ rfl
  · exact Sim.bind (ho G) fun a pa => Sim.bind (Sim.holding (hi _)) fun b pb => Sim.stand (Sim.bind (Sim.holding (o_delI hC F hs hf (fun _ _ g => g.1.2) fun _ _ g => g.2)) fun _ _ => Sim.release (Sim.pure (R := rrF) fun _ _ _ => trivial))
  · simp only [bind_assoc]
    rfl
noncomputable def psetI (spec : FSpec) (a b v : PV) : PM Unit := match a with
  | .ref i => pinst i fun _ _ => PM.bind (pcall spec [.ref i, b, v] []) fun _ => PM.pure ()
  | _ => pfail
set_option tactic.hygienic true in
theorem o_setI {spec : FSpec} {fa : Addr} (hC : ClsOk W) (F : FHolds W d (.ref fa) spec) (hs : findIn W.K (.ref W.C) "__setitem__" = some (some (.ref fa))) (hf : typeIn W.K (.ref fa) = some (.type "function")) {a b v : Value} {pa pb pv : PV} (ga : ∀ h ρ, G.P h ρ → RepV h ρ a pa) (gb : ∀ h ρ, G.P h ρ → RepV h ρ b pb) (gv : ∀ h ρ, G.P h ρ → RepV h ρ v pv) :
    Sim W d env rrU G (setItem a b v) (psetI spec pa pb pv) := by
  intro A s ρ σ Q E ha hr hg hp
  unfold psetI at hp
  split at hp
  · rename_i i
    obtain ⟨k, fs, h1, h2, hp⟩ := pinst_invP hp
    obtain ⟨y, dd, es', nn, m, I⟩ := inst_of hr.cells (ga _ _ hg) h1 h2
    have e := I.ref
    subst e
    exact wp_setItem hr.X I.at_ hC.noseq hs hf (wp_drop F ha hr (.cons (ga _ _ hg) (.cons (gb _ _ hg) (.cons (gv _ _ hg) .nil))) hp)
  · exact hp.elim
noncomputable def relOf (i : Expr) (v ov iv : Value) : List Value := match i with
  | .Slice _ _ none _ => [iv, v, ov]
  | _ => [v, ov, iv]
end
end

section
open PySem PySem.W PyProof.Rows
open PySem.F
set_option autoImplicit false
set_option maxRecDepth 100000
set_option tactic.hygienic false
theorem plainAttrs_pat : PlainAttrs "re.Pattern" :=
  ⟨⟨"object.__getattribute__", by rw [typeLookup_type, builtinLookup_eq_fast]; kernel_rfl, by decide +kernel⟩, by rw [typeLookup_type, builtinLookup_eq_fast]; kernel_rfl⟩
theorem owner_pat : Manifest.owners.lookup (String.ofList ['n', 'r', 'e', 't', 't', 'a', 'P', '.', 'e', 'r'].reverse) = some Manifest.sig_re_Pattern := by kernel_rfl
theorem slot_pat_search : Slot "re.Pattern" "search" "re.Pattern.search" :=
  .of (owner := "re.Pattern") (n := "search") (by rw [typeLookup_type, builtinLookup_eq_fast]; kernel_rfl) (by decide +kernel) (by decide +kernel) (by decide +kernel)
    (by first | exact .inl (by decide +kernel) | exact .inr (by decide +kernel)) (by rw [isSubtype_type]; kernel_rfl)
theorem type_pat_search : typeOf (.builtin "re.Pattern.search") = pure (.type "method_descriptor") := by show builtinType _ = _; rw [builtinType_eq_fast]; kernel_rfl
theorem entry_pat_search : entryFor table "re.Pattern.search" = some Builtin.«re.Pattern.search» := entryFor_of_tree (by kernel_rfl)
theorem slot_pat_sub : Slot "re.Pattern" "sub" "re.Pattern.sub" :=
  .of (owner := "re.Pattern") (n := "sub") (by rw [typeLookup_type, builtinLookup_eq_fast]; kernel_rfl) (by decide +kernel) (by decide +kernel) (by decide +kernel)
    (by first | exact .inl (by decide +kernel) | exact .inr (by decide +kernel)) (by rw [isSubtype_type]; kernel_rfl)
theorem type_pat_sub : typeOf (.builtin "re.Pattern.sub") = pure (.type "method_descriptor") := by show builtinType _ = _; rw [builtinType_eq_fast]; kernel_rfl
theorem entry_pat_sub : entryFor table "re.Pattern.sub" = some Builtin.«re.Pattern.sub» := entryFor_of_tree (by kernel_rfl)
theorem entry_pat_loop : entryFor table "re.Pattern.sub.loop" = some Builtin.«re.Pattern.sub.loop» := entryFor_of_tree (by kernel_rfl)
theorem args_pat_search (a b : Value) : argsOk "re.Pattern.search" ⟨[a, b], []⟩ := by
  unfold argsOk; rw [signature?_of (id := "re.Pattern.search") (n := ['h', 'c', 'r', 'a', 'e', 's']) (o := ['n', 'r', 'e', 't', 't', 'a', 'P', '.', 'e', 'r']) (by kernel_rfl) owner_pat]; kernel_rfl
theorem args_pat_sub (a b c : Value) : argsOk "re.Pattern.sub" ⟨[a, b, c], []⟩ := by
  unfold argsOk; rw [signature?_of (id := "re.Pattern.sub") (n := ['b', 'u', 's']) (o := ['n', 'r', 'e', 't', 't', 'a', 'P', '.', 'e', 'r']) (by kernel_rfl) owner_pat]; kernel_rfl
end

section
open PySem PySem.W PyProof.Rows
open PySem.Sre PySem.Sre.M
set_option autoImplicit false
set_option linter.unusedVariables false
set_option maxRecDepth 100000
set_option tactic.hygienic false
theorem runFor_done (m : M) (h : m.outcome.isSome = true) : ∀ n, runFor n m = m
  | 0 => rfl
  | n + 1 => by unfold runFor; rw [if_pos h]
theorem runFor_add (a b : Nat) (m : M) : runFor (a + b) m = runFor b (runFor a m) := by
  induction a generalizing m with
  | zero => rw [Nat.zero_add]; rfl
  | succ a ih =>
    rw [Nat.succ_add]
    show (if m.outcome.isSome then m else runFor (a + b) m.step) = runFor b (if m.outcome.isSome then m else runFor a m.step)
    by_cases h : m.outcome.isSome = true
    · rw [if_pos h, if_pos h, runFor_done m h]
    · rw [if_neg h, if_neg h]; exact ih _
noncomputable def Ends (k : Nat) (m : M) (r : Option (Nat × Nat)) : Prop := match r with
  | none => (match (runFor k m).outcome with | some .failed => True | _ => False)
  | some (s, e) => (match (runFor k m).outcome with | some .matched => True | _ => False) ∧ (runFor k m).start = s ∧ (runFor k m).handed = e
theorem Ends.step {k : Nat} {m : M} {r : Option (Nat × Nat)} (h : Ends k m.step r) : Ends (k + 1) m r := by
  have e : m.outcome.isSome = true → m.step = m := fun h => by unfold M.step; rw [if_pos h]
  have : runFor (k + 1) m = runFor k m.step := by
    show (if m.outcome.isSome then m else runFor k m.step) = _
    by_cases q : m.outcome.isSome = true
    · rw [if_pos q, e q, runFor_done m q]
    · rw [if_neg q]
  unfold Ends at h ⊢
  rw [this]; exact h
theorem Ends.isSome {k : Nat} {m : M} {r : Option (Nat × Nat)} (h : Ends k m r) : (runFor k m).outcome.isSome = true := by
  unfold Ends at h
  cases e : (runFor k m).outcome with
  | some o => rfl
  | none => rw [e] at h; cases r with
    | none => exact h.elim
    | some x => exact h.1.elim
theorem Ends.more {k k' : Nat} {m : M} {r : Option (Nat × Nat)} (h : Ends k m r) (hk : k ≤ k') : Ends k' m r := by
  have e : runFor k' m = runFor k m := by
    have : k' = k + (k' - k) := by lia
    rw [this, runFor_add, runFor_done _ h.isSome]
  unfold Ends at h ⊢
  rw [e]; exact h

noncomputable def mk (code text : Array Nat) (lim start pc pos handed : Nat) (outer : Bool) (frames : List Sre.Frame) (weight : Nat) (answer : Option Bool) (seen : Sre.Seen) : M :=
  { code := code, text := text, lim := lim, start := start, lastStart := lim, pc := pc, pos := pos, handed := handed, outermost := outer, marks := #[], frames := frames, weight := weight, answer := answer, seen := seen }
noncomputable def code1 : Array Nat := #[14, 4, 0, 1, 1, 6, 1, 16, 46, 1]
noncomputable def code2 : Array Nat := #[14, 9, 4, 1, 2, 16, 10, 16, 13, 0, 7, 7, 16, 13, 16, 10, 15, 18, 5, 16, 10, 15, 13, 11, 16, 13, 5, 5, 0, 16, 10, 1, 15, 2, 0, 1]
noncomputable def codeN : Array Nat := #[14, 10, 4, 1, 1, 22, 0, 31, 16, 127, 0, 13, 7, 22, 0, 31, 16, 127, 0, 1]
noncomputable def codeV : Array Nat := #[14, 14, 4, 1, 1, 9, 4294966783, 0, 0, 2147483648, 0, 0, 0, 0, 0, 13, 11, 9, 4294966783, 0, 0, 2147483648, 0, 0, 0, 0, 0, 1]

section
variable {text : Array Nat} {lim start pos handed w : Nat} {o : Bool} {fr : List Sre.Frame} {sn : Sre.Seen}
theorem at_yes (h : (pos == 0 || text.getD (pos - 1) 0 == 10) = true) : ∃ sn', (mk code1 text lim start 5 pos handed o fr w none sn).step = mk code1 text lim start 7 pos handed o fr w none sn' := by
  refine ⟨(sn.add 6).add 44, ?_⟩
  have e : (mk code1 text lim start 5 pos handed o fr w none sn).step = (if (pos == 0 || text.getD (pos - 1) 0 == 10) = true then mk code1 text lim start 7 pos handed o fr w none ((sn.add 6).add 44) else mk code1 text lim start 5 pos handed o fr w (some false) ((sn.add 6).add 44)) := rfl
  rw [e, if_pos h]
theorem at_no (h : (pos == 0 || text.getD (pos - 1) 0 == 10) = false) : ∃ sn', (mk code1 text lim start 5 pos handed o fr w none sn).step = mk code1 text lim start 5 pos handed o fr w (some false) sn' := by
  refine ⟨(sn.add 6).add 44, ?_⟩
  have e : (mk code1 text lim start 5 pos handed o fr w none sn).step = (if (pos == 0 || text.getD (pos - 1) 0 == 10) = true then mk code1 text lim start 7 pos handed o fr w none ((sn.add 6).add 44) else mk code1 text lim start 5 pos handed o fr w (some false) ((sn.add 6).add 44)) := rfl
  rw [e, if_neg (by rw [h]; decide)]
theorem lit_step : (mk code1 text lim start 7 pos handed o fr w none sn).step = (if pos ≥ lim then mk code1 text lim start 7 pos handed o fr w (some false) (sn.add 16) else
    cond (text.getD pos 0 == 46) (mk code1 text lim start 9 (pos + 1) handed o fr w none (sn.add 16)) (mk code1 text lim start 7 pos handed o fr w (some false) (sn.add 16))) := by
  have e : (mk code1 text lim start 7 pos handed o fr w none sn).step = (if pos ≥ lim then mk code1 text lim start 7 pos handed o fr w (some false) (sn.add 16) else
    match (Except.ok (text.getD pos 0 == 46, sn.add 16) : Except String (Bool × Sre.Seen)) with
    | .error why => (mk code1 text lim start 7 pos handed o fr w none (sn.add 16)).stick why
    | .ok (false, sx) => mk code1 text lim start 7 pos handed o fr w (some false) sx
    | .ok (true, sx) => mk code1 text lim start 9 (pos + 1) handed o fr w none sx) := rfl
  rw [e]
  generalize (text.getD pos 0 == 46) = b
  cases b <;> rfl
theorem suc_step : (mk code1 text lim start 9 pos handed o fr w none sn).step = mk code1 text lim start 9 pos pos o fr w (some true) (sn.add 1) := by cases o <;> rfl
noncomputable def fr1 (s : Nat) (first : Bool) : Sre.Frame := { wait := .nextStart, pc := 5, pos := s, outermost := first }
theorem res_yes {s pc : Nat} {first : Bool} : (mk code1 text lim start pc pos handed o [fr1 s first] 1 (some true) sn).step = mk code1 text lim start 5 s handed first [] 0 (some true) sn := rfl
theorem res_no {s pc : Nat} {first : Bool} : (mk code1 text lim start pc pos handed o [fr1 s first] 1 (some false) sn).step = (if s < lim then mk code1 text lim (s + 1) 5 (s + 1) (s + 1) false [fr1 (s + 1) false] 1 none sn else mk code1 text lim start 5 s handed first [] 0 (some false) sn) := rfl
theorem end_yes {pc : Nat} : Ends 1 (mk code1 text lim start pc pos handed o [] 0 (some true) sn) (some (start, handed)) := ⟨trivial, rfl, rfl⟩
theorem end_no {pc : Nat} : Ends 1 (mk code1 text lim start pc pos handed o [] 0 (some false) sn) none := trivial
noncomputable def hit1 (text : Array Nat) (lim s : Nat) : Bool := (s == 0 || text.getD (s - 1) 0 == 10) && (decide (s < lim) && text.getD s 0 == 46)
noncomputable def find1 (text : Array Nat) (lim : Nat) : (fuel s : Nat) → Option (Nat × Nat)
  | 0, s => if hit1 text lim s = true then some (s, s + 1) else none
  | fuel + 1, s => if hit1 text lim s = true then some (s, s + 1) else find1 text lim fuel (s + 1)
theorem ends1_hit {s : Nat} {first : Bool} (h : hit1 text lim s = true) : Ends 5 (mk code1 text lim s 5 s s first [fr1 s first] 1 none sn) (some (s, s + 1)) := by
  unfold hit1 at h
  simp only [Bool.and_eq_true, decide_eq_true_eq] at h
  obtain ⟨sn', e⟩ := at_yes (text := text) (lim := lim) (start := s) (pos := s) (handed := s) (o := first) (fr := [fr1 s first]) (w := 1) (sn := sn) h.1
  refine Ends.step ?_
  rw [e]
  refine Ends.step ?_
  rw [lit_step, if_neg (by lia), h.2.2]
  refine Ends.step ?_
  rw [cond_true, suc_step]
  refine Ends.step ?_
  rw [res_yes]
  exact end_yes
theorem ends1_miss {s k : Nat} {first : Bool} {r : Option (Nat × Nat)} (h : hit1 text lim s = false)
    (hk : ∀ sn pc pos handed o, Ends k (mk code1 text lim s pc pos handed o [fr1 s first] 1 (some false) sn) r) : Ends (k + 2) (mk code1 text lim s 5 s s first [fr1 s first] 1 none sn) r := by
  unfold hit1 at h
  by_cases ha : (s == 0 || text.getD (s - 1) 0 == 10) = true
  · obtain ⟨sn', e⟩ := at_yes (text := text) (lim := lim) (start := s) (pos := s) (handed := s) (o := first) (fr := [fr1 s first]) (w := 1) (sn := sn) ha
    refine Ends.step ?_
    rw [e]
    refine Ends.step ?_
    rw [lit_step]
    rw [ha, Bool.true_and] at h
    by_cases hl : s < lim
    · rw [if_neg (by lia)]
      have : (text.getD s 0 == 46) = false := by simpa [hl] using h
      rw [this, cond_false]
      exact hk _ _ _ _ _
    · rw [if_pos (by lia)]
      exact hk _ _ _ _ _
  · have ha : (s == 0 || text.getD (s - 1) 0 == 10) = false := by simpa using ha
    obtain ⟨sn', e⟩ := at_no (text := text) (lim := lim) (start := s) (pos := s) (handed := s) (o := first) (fr := [fr1 s first]) (w := 1) (sn := sn) ha
    refine Ends.more (k := k + 1) (Ends.step ?_) (by lia)
    rw [e]
    exact hk _ _ _ _ _
theorem ends1 : ∀ (fuel s : Nat) (first : Bool) (sn : Sre.Seen), s + fuel = lim → Ends (3 * fuel + 5) (mk code1 text lim s 5 s s first [fr1 s first] 1 none sn) (find1 text lim fuel s) := by
  intro fuel
  induction fuel with
  | zero =>
    intro s first sn hs
    unfold find1
    by_cases h : hit1 text lim s = true
    · rw [if_pos h]; exact ends1_hit h
    · rw [if_neg h]
      refine Ends.more (k := 2 + 2) (ends1_miss (by simpa using h) fun sn pc pos handed o => ?_) (by lia)
      refine Ends.step ?_
      rw [res_no, if_neg (by lia)]
      exact end_no
  | succ fuel ih =>
    intro s first sn hs
    unfold find1
    by_cases h : hit1 text lim s = true
    · rw [if_pos h]; exact (ends1_hit h).more (by lia)
    · rw [if_neg h]
      refine Ends.more (k := (3 * fuel + 5 + 1) + 2) (ends1_miss (by simpa using h) fun sn pc pos handed o => ?_) (by lia)
      refine Ends.step ?_
      rw [res_no, if_pos (by lia)]
      exact ih (s + 1) false sn (by lia)
theorem forSearch1 {p lim : Nat} : forSearch code1 text 0 p lim false = (if (decide (p > lim) || decide (lim - p < 1)) = true then { mk code1 text lim p 5 p p true [] 0 (some false) (({} : Sre.Seen).add 14) with lastStart := 0 } else mk code1 text lim p 5 p p true [fr1 p true] 1 none (({} : Sre.Seen).add 14)) := rfl
theorem search1 {p : Nat} (hp : p ≤ text.size) : Ends (3 * text.size + 6) (forSearch code1 text 0 p text.size false) (if p < text.size then find1 text text.size (text.size - p) p else none) := by
  rw [forSearch1]
  by_cases h : p < text.size
  · have hc : (decide (p > text.size) || decide (text.size - p < 1)) = false := by
      rw [Bool.or_eq_false_iff, decide_eq_false_iff_not, decide_eq_false_iff_not]; lia
    rw [if_pos h, if_neg (by rw [hc]; decide)]
    exact (ends1 (text.size - p) p true _ (by lia)).more (by lia)
  · have hc : (decide (p > text.size) || decide (text.size - p < 1)) = true := by
      rw [Bool.or_eq_true, decide_eq_true_eq, decide_eq_true_eq]; lia
    rw [if_neg h, if_pos hc]
    refine Ends.more (k := 1) ?_ (by lia)
    exact trivial
end

noncomputable def firstAt (P : Nat → Bool) (text : Array Nat) (lim : Nat) : (fuel s : Nat) → Option Nat
  | 0, _ => none
  | fuel + 1, s => if s ≥ lim then none else if P (text.getD s 0) = true then some s else firstAt P text lim fuel (s + 1)
theorem admitted_eq {P : Nat → Bool} {m : M} (h : ∀ c sn, ∃ sn', inSet m.code c m.code.size 5 true sn = .ok (P c, sn')) : ∀ (fuel s : Nat) (sn : Sre.Seen), ∃ sn', admitted m fuel s sn = .ok (firstAt P m.text m.lim fuel s, sn')
  | 0, s, sn => ⟨sn, rfl⟩
  | fuel + 1, s, sn => by
    unfold admitted firstAt
    by_cases hl : s ≥ m.lim
    · rw [if_pos hl, if_pos hl]; exact ⟨sn, rfl⟩
    · rw [if_neg hl, if_neg hl]
      obtain ⟨sn', e⟩ := h (m.text.getD s 0) sn
      rw [e]
      cases hp : P (m.text.getD s 0) with
      | true => exact ⟨sn', rfl⟩
      | false => simpa using admitted_eq h fuel (s + 1) sn'
noncomputable def PN (c : Nat) : Bool := decide (c ≤ 31) || c == 127
noncomputable def PV' (c : Nat) : Bool := decide (c ≤ 8) || (decide (10 ≤ c) && decide (c ≤ 31)) || c == 127
noncomputable def P2 (c : Nat) : Bool := c == 10 || c == 13
theorem inSetN (c : Nat) (sn : Sre.Seen) : ∃ sn', inSet codeN c codeN.size 5 true sn = .ok (PN c, sn') := by
  have e : inSet codeN c codeN.size 5 true sn = (if (decide (0 ≤ c) && decide (c ≤ 31)) = true then .ok (true, sn.add 22) else if (c == 127) = true then .ok (true, (sn.add 22).add 16) else .ok (false, ((sn.add 22).add 16).add 0)) := rfl
  rw [e]
  unfold PN
  by_cases h : c ≤ 31
  · rw [if_pos (by simp [h])]; have z : (decide (c ≤ 31) || c == 127) = true := by simp [h]
    rw [z]; exact ⟨_, rfl⟩
  · rw [if_neg (by simp [h])]
    by_cases h2 : (c == 127) = true
    · rw [if_pos h2, h2, Bool.or_true]; exact ⟨_, rfl⟩
    · rw [if_neg h2]; exact ⟨((sn.add 22).add 16).add 0, by simp at h2; simp [h, h2]⟩
theorem inSet2 (c : Nat) (sn : Sre.Seen) : ∃ sn', inSet code2 c code2.size 5 true sn = .ok (P2 c, sn') := by
  have e : inSet code2 c code2.size 5 true sn = (if (c == 10) = true then .ok (true, sn.add 16) else if (c == 13) = true then .ok (true, (sn.add 16).add 16) else .ok (false, ((sn.add 16).add 16).add 0)) := rfl
  rw [e]
  unfold P2
  by_cases h : (c == 10) = true
  · rw [if_pos h, h, Bool.true_or]; exact ⟨_, rfl⟩
  · rw [if_neg h]
    by_cases h2 : (c == 13) = true
    · rw [if_pos h2, h2, Bool.or_true]; exact ⟨_, rfl⟩
    · rw [if_neg h2]; exact ⟨((sn.add 16).add 16).add 0, by simp at h h2; simp [h, h2]⟩
theorem charsetV : ∀ c < 256, (codeV.getD (5 + (1 + c / 32)) 0).testBit (c % 32) = PV' c := by decide +kernel
theorem inSetV (c : Nat) (sn : Sre.Seen) : ∃ sn', inSet codeV c codeV.size 5 true sn = .ok (PV' c, sn') := by
  have e : inSet codeV c codeV.size 5 true sn = (if (decide (c < 256) && (codeV.getD (5 + (1 + c / 32)) 0).testBit (c % 32)) = true then .ok (true, sn.add 9) else .ok (false, (sn.add 9).add 0)) := rfl
  rw [e]
  by_cases h : c < 256
  · rw [charsetV c h]
    cases hp : PV' c with
    | true => rw [if_pos (by simp [h])]; exact ⟨_, rfl⟩
    | false => rw [if_neg (by simp)]; exact ⟨_, rfl⟩
  · rw [if_neg (by simp [h])]
    have : PV' c = false := by unfold PV'; simp; lia
    rw [this]; exact ⟨_, rfl⟩

theorem charsetV17 : ∀ c < 256, (codeV.getD (17 + (1 + c / 32)) 0).testBit (c % 32) = PV' c := by decide +kernel
theorem inSetV17 (c : Nat) (sn : Sre.Seen) : ∃ sn', inSet codeV c codeV.size 17 true sn = .ok (PV' c, sn') := by
  have e : inSet codeV c codeV.size 17 true sn = (if (decide (c < 256) && (codeV.getD (17 + (1 + c / 32)) 0).testBit (c % 32)) = true then .ok (true, sn.add 9) else .ok (false, (sn.add 9).add 0)) := rfl
  rw [e]
  by_cases h : c < 256
  · rw [charsetV17 c h]
    cases hp : PV' c with
    | true => rw [if_pos (by simp [h])]; exact ⟨_, rfl⟩
    | false => rw [if_neg (by simp)]; exact ⟨_, rfl⟩
  · rw [if_neg (by simp [h])]
    have : PV' c = false := by unfold PV'; simp; lia
    rw [this]; exact ⟨_, rfl⟩

section
variable {text : Array Nat} {lim start pos handed w s : Nat} {o : Bool} {fr : List Sre.Frame} {sn : Sre.Seen}
noncomputable def frS (pc s : Nat) (first : Bool) : Sre.Frame := { wait := .nextStart, pc := pc, pos := s, outermost := first }
noncomputable def frB (alt s : Nat) (first : Bool) : Sre.Frame := { wait := .nextBranch, pc := alt, pos := s, outermost := first, kept := { lastmark := -1, lastindex := -1, whole := false, marks := #[] } }
noncomputable def frL (s : Nat) (first : Bool) : Sre.Frame := { wait := .lookNot, pc := 26, pos := s, outermost := first, kept := { lastmark := -1, lastindex := -1, whole := false, marks := #[] } }
theorem b0 : (mk code2 text lim s 10 s s true [frS 10 s true] 1 none sn).step = mk code2 text lim s 12 s s true [frB 11 s true, frS 10 s true] 2 none (sn.add 7) := rfl
theorem lit2 {pc c : Nat} (h : (pc, c) ∈ [(12, 13), (14, 10), (19, 10), (24, 13), (29, 10)]) : (mk code2 text lim start pc pos handed o fr w none sn).step = (if pos ≥ lim then mk code2 text lim start pc pos handed o fr w (some false) (sn.add 16) else
    cond (text.getD pos 0 == c) (mk code2 text lim start (pc + 2) (pos + 1) handed o fr w none (sn.add 16)) (mk code2 text lim start pc pos handed o fr w (some false) (sn.add 16))) := by
  have key : ∀ pc c, ops[code2.getD pc 0]? = some .LITERAL → pc < code2.size → code2.getD (pc + 1) 0 = c → code2.getD pc 0 = 16 → itemWidth code2 pc = 2 → (mk code2 text lim start pc pos handed o fr w none sn).step = (if pos ≥ lim then mk code2 text lim start pc pos handed o fr w (some false) (sn.add 16) else
    cond (text.getD pos 0 == c) (mk code2 text lim start (pc + 2) (pos + 1) handed o fr w none (sn.add 16)) (mk code2 text lim start pc pos handed o fr w (some false) (sn.add 16))) := by
    intro pc c h1 h2 h3 h4 h5
    have e : (mk code2 text lim start pc pos handed o fr w none sn).step = if pc < code2.size then (mk code2 text lim start pc pos handed o fr w none sn).exec else (mk code2 text lim start pc pos handed o fr w none sn).stick "code:ran-off" := rfl
    rw [e, if_pos h2]
    unfold M.exec
    have e2 : (mk code2 text lim start pc pos handed o fr w none sn).word 0 = 16 := h4
    rw [e2]
    have e3 : ops[16]? = some .LITERAL := rfl
    rw [e3]
    show (if pos ≥ lim then mk code2 text lim start pc pos handed o fr w (some false) (sn.add 16) else match accepts code2 pc (text.getD pos 0) (sn.add 16) with
      | .error why => (mk code2 text lim start pc pos handed o fr w none (sn.add 16)).stick why
      | .ok (false, sx) => mk code2 text lim start pc pos handed o fr w (some false) sx
      | .ok (true, sx) => mk code2 text lim start (pc + itemWidth code2 pc) (pos + 1) handed o fr w none sx) = _
    have e4 : accepts code2 pc (text.getD pos 0) (sn.add 16) = .ok (text.getD pos 0 == c, sn.add 16) := by
      unfold accepts; rw [h1, h3]
    rw [e4, h5]
    generalize (text.getD pos 0 == c) = b
    cases b <;> rfl
  simp only [List.mem_cons, Prod.mk.injEq, List.not_mem_nil, or_false] at h
  rcases h with ⟨rfl, rfl⟩ | ⟨rfl, rfl⟩ | ⟨rfl, rfl⟩ | ⟨rfl, rfl⟩ | ⟨rfl, rfl⟩ <;> exact key _ _ rfl (by decide) rfl rfl rfl
theorem jmp16 : (mk code2 text lim start 16 pos handed o fr w none sn).step = mk code2 text lim start 35 pos handed o fr w none (sn.add 15) := rfl
theorem jmp21 : (mk code2 text lim start 21 pos handed o fr w none sn).step = mk code2 text lim start 35 pos handed o fr w none (sn.add 15) := rfl
theorem jmp32 : (mk code2 text lim start 32 pos handed o fr w none sn).step = mk code2 text lim start 35 pos handed o fr w none (sn.add 15) := rfl
theorem suc35 : (mk code2 text lim start 35 pos handed o fr w none sn).step = mk code2 text lim start 35 pos pos o fr w (some true) (sn.add 1) := by cases o <;> rfl
theorem bYes {alt pc : Nat} {first : Bool} : (mk code2 text lim start pc pos handed o (frB alt s first :: fr) 2 (some true) sn).step = mk code2 text lim start alt s handed first fr 1 (some true) sn := rfl
theorem sYes {pc p : Nat} {first : Bool} {code : Array Nat} : (mk code text lim start pc pos handed o [frS p s first] 1 (some true) sn).step = mk code text lim start p s handed first [] 0 (some true) sn := rfl
theorem endYes {pc : Nat} {code : Array Nat} : Ends 1 (mk code text lim start pc pos handed o [] 0 (some true) sn) (some (start, handed)) := ⟨trivial, rfl, rfl⟩
theorem bNo1 {pc : Nat} : (mk code2 text lim start pc pos handed o [frB 11 s true, frS 10 s true] 2 (some false) sn).step = mk code2 text lim start 19 s s true [frB 18 s true, frS 10 s true] 2 none sn := rfl
theorem bNo2 {pc : Nat} : (mk code2 text lim start pc pos handed o [frB 18 s true, frS 10 s true] 2 (some false) sn).step = mk code2 text lim start 24 s s true [frB 23 s true, frS 10 s true] 2 none sn := rfl
theorem look0 {first : Bool} : (mk code2 text lim start 26 pos handed first fr 2 none sn).step = mk code2 text lim start 29 pos pos false (frL pos first :: fr) 3 none (sn.add 5) := rfl
theorem lNo {pc : Nat} {first : Bool} : (mk code2 text lim start pc pos handed o (frL s first :: fr) 3 (some false) sn).step = mk code2 text lim start 32 s handed first fr 2 none sn := rfl
theorem fin35 {alt : Nat} : Ends 4 (mk code2 text lim s 35 pos handed true [frB alt s true, frS 10 s true] 2 none sn) (some (s, pos)) := by
  refine Ends.step ?_; rw [suc35]
  refine Ends.step ?_; rw [bYes]
  refine Ends.step ?_; rw [sYes]
  exact endYes
noncomputable def end2 (text : Array Nat) (lim s : Nat) : Nat := if (text.getD s 0 == 13 && (decide (s + 1 < lim) && text.getD (s + 1) 0 == 10)) = true then s + 2 else s + 1
theorem ends2 (hs : s < lim) (hc : P2 (text.getD s 0) = true) : Ends 20 (mk code2 text lim s 10 s s true [frS 10 s true] 1 none sn) (some (s, end2 text lim s)) := by
  unfold P2 at hc
  refine Ends.step ?_; rw [b0]
  refine Ends.step ?_; rw [lit2 (c := 13) (by simp), if_neg (by lia)]
  by_cases h13 : text.getD s 0 = 13
  · rw [h13]
    show Ends 18 (mk code2 text lim s 14 (s + 1) s true [frB 11 s true, frS 10 s true] 2 none _) _
    have third : ∀ sn pc pos handed o, Ends 17 (mk code2 text lim s pc pos handed o [frB 11 s true, frS 10 s true] 2 (some false) sn) (some (s, s + 1)) ∨ ¬ (s + 1 ≥ lim ∨ text.getD (s + 1) 0 ≠ 10) := by
      intro sn pc pos handed o
      by_cases hn : s + 1 ≥ lim ∨ text.getD (s + 1) 0 ≠ 10
      · left
        refine Ends.step ?_; rw [bNo1]
        refine Ends.step ?_; rw [lit2 (c := 10) (by simp), if_neg (by lia), h13]
        refine Ends.step ?_
        show Ends 14 (mk code2 text lim s 19 s s true [frB 18 s true, frS 10 s true] 2 (some false) _).step _
        rw [bNo2]
        refine Ends.step ?_; rw [lit2 (c := 13) (by simp), if_neg (by lia), h13]
        refine Ends.step ?_
        show Ends 12 (mk code2 text lim s 26 (s + 1) s true [frB 23 s true, frS 10 s true] 2 none _).step _
        rw [look0]
        refine Ends.step ?_; rw [lit2 (c := 10) (by simp)]
        have hno : ∀ sn, Ends 11 (mk code2 text lim s 29 (s + 1) (s + 1) false [frL (s + 1) true, frB 23 s true, frS 10 s true] 3 (some false) sn) (some (s, s + 1)) := by
          intro sn
          refine Ends.step ?_; rw [lNo]
          refine Ends.step ?_; rw [jmp32]
          exact fin35.more (by lia)
        by_cases hl : s + 1 ≥ lim
        · rw [if_pos hl]; exact hno _
        · rw [if_neg hl]
          have : (text.getD (s + 1) 0 == 10) = false := by
            rw [beq_eq_false_iff_ne]; exact hn.resolve_left hl
          rw [this]; exact hno _
      · exact .inr hn
    refine Ends.step ?_; rw [lit2 (c := 10) (by simp)]
    unfold end2
    by_cases hn : s + 1 ≥ lim ∨ text.getD (s + 1) 0 ≠ 10
    · have hz : ¬ ((text.getD s 0 == 13 && (decide (s + 1 < lim) && text.getD (s + 1) 0 == 10)) = true) := by
        simp only [Bool.and_eq_true, decide_eq_true_eq, beq_iff_eq]; lia
      rw [if_neg hz]
      by_cases hl : s + 1 ≥ lim
      · rw [if_pos hl]
        exact (third _ _ _ _ _).resolve_right fun q => q hn
      · rw [if_neg hl]
        have : (text.getD (s + 1) 0 == 10) = false := by
          rw [beq_eq_false_iff_ne]; exact hn.resolve_left hl
        rw [this]
        exact (third _ _ _ _ _).resolve_right fun q => q hn
    · have h1 : s + 1 < lim := by lia
      have h2 : text.getD (s + 1) 0 = 10 := by
        by_cases q : text.getD (s + 1) 0 = 10
        · exact q
        · exact absurd (.inr q) hn
      rw [if_neg (show ¬ s + 1 ≥ lim by lia), if_pos (by rw [h13, h2]; simp [h1]), h2]
      refine Ends.step ?_
      show Ends 16 (mk code2 text lim s 16 (s + 2) s true [frB 11 s true, frS 10 s true] 2 none _).step _
      rw [jmp16]
      exact fin35.more (by lia)
  · have h10 : text.getD s 0 = 10 := by
      simp only [Bool.or_eq_true, beq_iff_eq] at hc; lia
    have he : end2 text lim s = s + 1 := by unfold end2; rw [if_neg (by rw [h10]; simp)]
    rw [he, h10]
    refine Ends.step ?_
    show Ends 17 (mk code2 text lim s 12 s s true [frB 11 s true, frS 10 s true] 2 (some false) _).step _
    rw [bNo1]
    refine Ends.step ?_; rw [lit2 (c := 10) (by simp), if_neg (by lia), h10]
    refine Ends.step ?_
    show Ends 15 (mk code2 text lim s 21 (s + 1) s true [frB 18 s true, frS 10 s true] 2 none _).step _
    rw [jmp21]
    exact fin35.more (by lia)

set_option tactic.hygienic true in
theorem searchSet {code : Array Nat} {P : Nat → Bool} {pc k : Nat} {e : Nat → Nat} (hP : ∀ c sn, ∃ sn', inSet code c code.size 5 true sn = .ok (P c, sn'))
    (hf : ∀ p, forSearch code text 0 p lim false = (if (decide (p > lim) || decide (lim - p < 1)) = true then { mk code text lim p pc p p true [] 0 (some false) (({} : Sre.Seen).add 14) with lastStart := 0 } else
      match admitted (mk code text lim p pc p p true [] 0 none (({} : Sre.Seen).add 14)) (lim + 1 - p) p (({} : Sre.Seen).add 14) with
      | .ok (some s, sx) => mk code text lim s pc s s true [frS pc s true] 1 none sx
      | .ok (none, sx) => mk code text lim p pc p p true [] 0 (some false) sx
      | .error why => (mk code text lim p pc p p true [] 0 none (({} : Sre.Seen).add 14)).stick why))
    (hk : ∀ s sn, s < lim → P (text.getD s 0) = true → Ends k (mk code text lim s pc s s true [frS pc s true] 1 none sn) (some (s, e s))) (k0 : 0 < k) (p : Nat) :
    Ends k (forSearch code text 0 p lim false) (if p < lim then (firstAt P text lim (lim + 1 - p) p).map fun s => (s, e s) else none) := by
  rw [hf]
  by_cases h : p < lim
  · have hc : (decide (p > lim) || decide (lim - p < 1)) = false := by
      rw [Bool.or_eq_false_iff, decide_eq_false_iff_not, decide_eq_false_iff_not]; lia
    rw [if_pos h, if_neg (by rw [hc]; decide)]
    obtain ⟨sn', ea⟩ := admitted_eq (P := P) (m := mk code text lim p pc p p true [] 0 none (({} : Sre.Seen).add 14)) hP (lim + 1 - p) p (({} : Sre.Seen).add 14)
    rw [ea]
    show Ends k (match (Except.ok (firstAt P text lim (lim + 1 - p) p, sn') : Except String (Option Nat × Sre.Seen)) with
      | .ok (some s, sx) => mk code text lim s pc s s true [frS pc s true] 1 none sx
      | .ok (none, sx) => mk code text lim p pc p p true [] 0 (some false) sx
      | .error why => (mk code text lim p pc p p true [] 0 none (({} : Sre.Seen).add 14)).stick why) _
    have hfi : ∀ fuel s s', firstAt P text lim fuel s = some s' → s' < lim ∧ P (text.getD s' 0) = true := by
      intro fuel
      induction fuel with
      | zero => intro s s' h; cases h
      | succ f ih =>
        intro s s' h
        unfold firstAt at h
        split at h
        · cases h
        · split at h
          · cases h; rename_i h1 h2; exact ⟨by lia, h2⟩
          · exact ih _ _ h
    cases hx : firstAt P text lim (lim + 1 - p) p with
    | none => exact Ends.more (k := 1) (r := none) trivial k0
    | some s => exact hk s sn' (hfi _ _ _ hx).1 (hfi _ _ _ hx).2
  · have hc : (decide (p > lim) || decide (lim - p < 1)) = true := by
      rw [Bool.or_eq_true, decide_eq_true_eq, decide_eq_true_eq]; lia
    rw [if_neg h, if_pos hc]
    exact Ends.more (k := 1) (r := none) trivial k0
theorem search2 (p : Nat) : Ends 20 (forSearch code2 text 0 p lim false) (if p < lim then (firstAt P2 text lim (lim + 1 - p) p).map fun s => (s, end2 text lim s) else none) :=
  searchSet (pc := 10) inSet2 (fun p => rfl) (fun s sn h1 h2 => ends2 h1 h2) (by decide) p
theorem inN_step (sn : Sre.Seen) (hs : s < lim) (hc : PN (text.getD s 0) = true) : Ends 4 (mk codeN text lim s 11 s s true [frS 11 s true] 1 none sn) (some (s, s + 1)) := by
  refine Ends.step ?_
  have e : (mk codeN text lim s 11 s s true [frS 11 s true] 1 none sn).step = (if s ≥ lim then mk codeN text lim s 11 s s true [frS 11 s true] 1 (some false) (sn.add 13) else match inSet codeN (text.getD s 0) codeN.size 13 true (sn.add 13) with
      | .error why => (mk codeN text lim s 11 s s true [frS 11 s true] 1 none (sn.add 13)).stick why
      | .ok (false, sx) => mk codeN text lim s 11 s s true [frS 11 s true] 1 (some false) sx
      | .ok (true, sx) => mk codeN text lim s 19 (s + 1) s true [frS 11 s true] 1 none sx) := rfl
  rw [e, if_neg (by lia)]
  have e2 : ∀ c sn, ∃ sn', inSet codeN c codeN.size 13 true sn = .ok (PN c, sn') := fun c sn => inSetN c sn
  obtain ⟨sn', e3⟩ := e2 (text.getD s 0) (sn.add 13)
  rw [e3, hc]
  refine Ends.step ?_
  show Ends 2 (mk codeN text lim s 19 (s + 1) (s + 1) true [frS 11 s true] 1 (some true) (sn'.add 1)) _
  refine Ends.step ?_; rw [sYes]
  exact endYes
theorem inV_step (sn : Sre.Seen) (hs : s < lim) (hc : PV' (text.getD s 0) = true) : Ends 4 (mk codeV text lim s 15 s s true [frS 15 s true] 1 none sn) (some (s, s + 1)) := by
  refine Ends.step ?_
  have e : (mk codeV text lim s 15 s s true [frS 15 s true] 1 none sn).step = (if s ≥ lim then mk codeV text lim s 15 s s true [frS 15 s true] 1 (some false) (sn.add 13) else match inSet codeV (text.getD s 0) codeV.size 17 true (sn.add 13) with
      | .error why => (mk codeV text lim s 15 s s true [frS 15 s true] 1 none (sn.add 13)).stick why
      | .ok (false, sx) => mk codeV text lim s 15 s s true [frS 15 s true] 1 (some false) sx
      | .ok (true, sx) => mk codeV text lim s 27 (s + 1) s true [frS 15 s true] 1 none sx) := rfl
  rw [e, if_neg (by lia)]
  have e2 : ∀ c sn, ∃ sn', inSet codeV c codeV.size 17 true sn = .ok (PV' c, sn') := fun c sn => inSetV17 c sn
  obtain ⟨sn', e3⟩ := e2 (text.getD s 0) (sn.add 13)
  rw [e3, hc]
  refine Ends.step ?_
  show Ends 2 (mk codeV text lim s 27 (s + 1) (s + 1) true [frS 15 s true] 1 (some true) (sn'.add 1)) _
  refine Ends.step ?_; rw [sYes]
  exact endYes
theorem searchN (p : Nat) : Ends 4 (forSearch codeN text 0 p lim false) (if p < lim then (firstAt PN text lim (lim + 1 - p) p).map fun s => (s, s + 1) else none) :=
  searchSet (pc := 11) inSetN (fun p => rfl) (fun s sn h1 h2 => inN_step sn h1 h2) (by decide) p
theorem searchV (p : Nat) : Ends 4 (forSearch codeV text 0 p lim false) (if p < lim then (firstAt PV' text lim (lim + 1 - p) p).map fun s => (s, s + 1) else none) :=
  searchSet (pc := 15) inSetV (fun p => rfl) (fun s sn h1 h2 => inV_step sn h1 h2) (by decide) p
end
end

section
open PySem PySem.W PyProof.Rows
open PySem.Sre PySem.Sre.M PySem.Builtin PySem.Builtin.Re
set_option autoImplicit false
set_option linter.unusedVariables false
set_option maxRecDepth 100000
set_option tactic.hygienic false
section
variable {prog : Program} {w : World} {A : Around} {E : Value → Shared → Prop} {s : Shared}
theorem wp_drive {turns : Nat} : ∀ {m : M} {k : Nat} {r : Option (Nat × Nat)} {Q : M → Shared → Prop} {s : Shared}, Ends k m r → k ≤ 4 * turns → 0 < turns → Q (runFor k m) s → wpAny (model prog w) A (reDrive turns m) Q E s := by
  induction turns with
  | zero => intro m k r Q s _ _ h; exact absurd h (Nat.lt_irrefl _)
  | succ turns ih =>
    intro m k r Q s h hk _ hq
    show wpAny _ _ (if (m.runFor 4).outcome.isSome = true then pure (m.runFor 4) else do rule "sre.turn"; reDrive turns (m.runFor 4)) Q E s
    by_cases hd : (m.runFor 4).outcome.isSome = true
    · rw [if_pos hd]
      have e : runFor 4 m = runFor k m := by
        rcases Nat.le_total k 4 with q | q
        · have : 4 = k + (4 - k) := by lia
          rw [this, runFor_add, runFor_done _ h.isSome]
        · have : k = 4 + (k - 4) := by lia
          rw [this, runFor_add, runFor_done _ hd]
      rw [e]; exact wpAny_pure hq
    · rw [if_neg hd]
      have hk4 : 4 < k := by
        rcases Nat.lt_or_ge 4 k with q | q
        · exact q
        · have e : runFor 4 m = runFor k m := by
            have : 4 = k + (4 - k) := by lia
            rw [this, runFor_add, runFor_done _ h.isSome]
          rw [e] at hd; exact absurd h.isSome hd
      have e : runFor k m = runFor (k - 4) (runFor 4 m) := by
        rw [← runFor_add]; congr 1; lia
      refine wpAny_bind (wpAny_rule (ih (r := r) (k := k - 4) ?_ (by lia) (by lia) (by rw [← e]; exact hq)))
      unfold Ends at h ⊢
      rw [← e]; exact h
theorem wp_runEnd {m : M} {k : Nat} {r : Option (Nat × Nat)} {Q : Option M → Shared → Prop} (h : Ends k m r) (hk : k ≤ 2 ^ 64)
    (h0 : r = none → Q none s) (h1 : ∀ a e m', r = some (a, e) → m'.start = a → m'.handed = e → m'.marks = m'.marks → Q (some m') s) : wpAny (model prog w) A (reRunToEnd m) Q E s := by
  unfold reRunToEnd
  refine wpAny_bind (wp_drive h (by lia) (by decide) ?_)
  refine wpAny_bind (wpAny_forIn_list _ (fun _ _ s' => s' = s) _ (fun x rest b s' hs => ?_) (fun b s' hs => ?_) _ _ rfl)
  · subst hs
    split
    · exact wpAny_bind (wpAny_rule (wpAny_pure rfl))
    · exact wpAny_pure rfl
  · subst hs
    unfold Ends at h
    cases ho : (runFor k m).outcome with
    | none => rw [ho] at h; cases r <;> simp at h
    | some o =>
      rw [ho] at h
      cases r with
      | none =>
        cases o with
        | failed => exact wpAny_pure (h0 rfl)
        | matched => exact h.elim
        | stuck _ => exact h.elim
      | some x =>
        obtain ⟨a, e⟩ := x
        cases o with
        | failed => exact h.1.elim
        | matched => exact wpAny_pure (h1 a e _ rfl h.2.1 h.2.2 rfl)
        | stuck _ => exact h.1.elim
structure IsPat (h : Heap) (P : Addr) (code : Array Nat) : Prop where
  ex : ∃ T o oT vs cs n, h.get? P = some o ∧ o.cls = .type "re.Pattern" ∧ o.dict = none ∧ o.data = .fields vs ∧ (reRawNat (vs.getD 6 .none) = 0) ∧ reRawNat (vs.getD 2 .none) = 0 ∧ vs.getD 5 .none = .ref T ∧ h.get? T = some oT ∧ oT.data = .seq cs n ∧ (cs.map reRawOf).map Int.toNat = code
theorem IsPat.keeps {h h' : Heap} {P : Addr} {code : Array Nat} (x : IsPat h P code) (k : Keeps h h') : IsPat h' P code := by
  obtain ⟨T, o, oT, vs, cs, n, e1, r2, r3, r4, r5, r6, r7, e2, r8⟩ := x.ex
  exact ⟨T, o, oT, vs, cs, n, k _ _ e1, r2, r3, r4, r5, r6, r7, k _ _ e2, r8⟩
theorem IsPat.type {P : Addr} {code : Array Nat} (x : IsPat s.heap P code) : s.TypeIs (.ref P) "re.Pattern" := by
  obtain ⟨T, o, oT, vs, cs, n, e1, r2, r3, _⟩ := x.ex
  exact ⟨o, e1, r2⟩
theorem wp_target {P : Addr} {code : Array Nat} {x : PySem.Str} {t : Tok} {Q : ReTarget → Shared → Prop} (hp : IsPat s.heap P code)
    (h : Q { pattern := .ref P, string := .str x t, code := code, text := x.cps, kind := 0, groups := 0, pos := 0, lim := x.cps.size } s) : wpAny (model prog w) A (reWholeTarget (.ref P) (.str x t)) Q E s := by
  obtain ⟨T, o, oT, vs, cs, n, e1, r2, r3, r4, r5, r6, r7, e2, r8, r9⟩ := hp.ex
  unfold reWholeTarget
  refine wpAny_bind (wpAny_fieldsOf e1 r4 ?_)
  refine wpAny_bind (m := reTextOf (.str x t)) (wpAny_pure (a := (x.cps, 0)) ?_)
  show wpAny _ _ (if (reRawNat (vs.getD 6 .none) == 0 && (0 : Nat) == 1) = true then _ else _) _ _ _
  rw [r5, if_neg (by decide)]
  show wpAny _ _ (if ((0 : Nat) == 1 && (0 : Nat) == 0) = true then _ else _) _ _ _
  rw [if_neg (by decide)]
  refine wpAny_bind (m := reNoCollectionInside _ 0) (wpAny_pure (a := ()) ?_)
  rw [r7]
  refine wpAny_bind (m := reRawItems (.ref T)) ?_
  unfold reRawItems
  refine wpAny_bind (wpAny_seqItems e2 r8 (wpAny_pure ?_))
  show wpAny _ _ (pure ({ pattern := .ref P, string := .str x t, code := ((cs.map reRawOf).map Int.toNat), text := x.cps, kind := 0, groups := reRawNat (vs.getD 2 .none), pos := 0, lim := x.cps.size } : ReTarget)) _ _ _
  rw [r9, r6]
  exact wpAny_pure h
theorem wp_targetS {P : Addr} {code : Array Nat} {x : PySem.Str} {t : Tok} {Q : ReTarget → Shared → Prop} (hp : IsPat s.heap P code) (hx : x.length < 2 ^ 62)
    (h : Q { pattern := .ref P, string := .str x t, code := code, text := x.cps, kind := 0, groups := 0, pos := 0, lim := x.cps.size } s) : wpAny (model prog w) A (reTarget "re.Pattern.search" "search" ⟨[.ref P, .str x t], []⟩) Q E s := by
  obtain ⟨T, o, oT, vs, cs, n, e1, r2, r3, r4, r5, r6, r7, e2, r8, r9⟩ := hp.ex
  unfold reTarget
  refine wpAny_bind (m := reNamed _ "search" ["string", "pos", "endpos"] 1 [Value.str x t] []) (wpAny_pure (a := [some (Value.str x t), none, none]) ?_)
  refine wpAny_bind (wpAny_pure (a := (0 : Int)) ?_)
  refine wpAny_bind (wpAny_pure (a := (2 ^ 63 - 1 : Int)) ?_)
  refine wpAny_bind (wpAny_fieldsOf e1 r4 ?_)
  refine wpAny_bind (m := reTextOf (.str x t)) (wpAny_pure (a := (x.cps, 0)) ?_)
  show wpAny _ _ (if (reRawNat (vs.getD 6 .none) == 0 && (0 : Nat) == 1) = true then _ else _) _ _ _
  rw [r5, if_neg (by decide)]
  show wpAny _ _ (if ((0 : Nat) == 1 && (0 : Nat) == 0) = true then _ else _) _ _ _
  rw [if_neg (by decide)]
  refine wpAny_bind (m := reNoCollectionInside _ 0) (wpAny_pure (a := ()) ?_)
  rw [r7]
  refine wpAny_bind (m := reRawItems (.ref T)) ?_
  unfold reRawItems
  refine wpAny_bind (wpAny_seqItems e2 r8 (wpAny_pure ?_))
  show wpAny _ _ (pure ({ pattern := .ref P, string := .str x t, code := ((cs.map reRawOf).map Int.toNat), text := x.cps, kind := 0, groups := reRawNat (vs.getD 2 .none), pos := min (0 : Int).toNat x.cps.size, lim := min (2 ^ 63 - 1 : Int).toNat x.cps.size } : ReTarget)) _ _ _
  have h1 : min (0 : Int).toNat x.cps.size = 0 := by simp
  have h2 : min (2 ^ 63 - 1 : Int).toNat x.cps.size = x.cps.size := by
    have : x.cps.size = x.length := rfl
    lia
  rw [r9, r6, h1, h2]
  exact wpAny_pure h
theorem call_search {P : Addr} {code : Array Nat} {x : PySem.Str} {t : Tok} {k : Nat} {r : Option (Nat × Nat)} {Q : Value → Shared → Prop} (hp : IsPat s.heap P code) (hx : x.length < 2 ^ 62) (he : Ends k (forSearch code x.cps 0 0 x.cps.size false) r) (hk : k ≤ 2 ^ 64)
    (h0 : r = none → Q .none s) (h1 : r ≠ none → ∀ h' a o, Keeps s.heap h' → h'.get? a = some o → o.cls = .type "re.Match" → Q (.ref a) { s with heap := h' }) :
    wpAny (model prog w) A (call (.builtin "re.Pattern.search") [.ref P, .str x t]) Q E s := by
  refine wpAny_call (codeAny_call_builtin slot_pat_search.plain entry_pat_search (slot_pat_search.check _ _ _ _ _ _ _ _ hp.type (args_pat_search _ _) ?_))
  unfold Builtin.«re.Pattern.search»
  refine wpAny_bind (wp_targetS hp hx ?_)
  unfold reAnswer
  refine wpAny_bind (wp_runEnd he hk (fun e => ?_) fun a e m' hr h3 h4 _ => ?_)
  · exact wpAny_pure (h0 e)
  · refine wpAny_bind ?_
    unfold reNewMatch
    refine wpAny_bind (m := newTuple _) (wpAny_newObj_type ?_ (by show 2 ≤ sizeLine; rw [sizeLine_eq]; lia))
    refine wpAny_newObj_type (wpAny_pure ?_) (by show 6 ≤ sizeLine + 2; rw [sizeLine_eq]; lia)
    refine h1 (by rw [hr]; simp) _ _ _ ((Keeps.push _).trans (Keeps.push _)) (Heap.get?_push_size _ rfl) rfl
end
end

section
open PySem PySem.W PyProof.Rows
open PySem.Sre PySem.Sre.M PySem.Builtin PySem.Builtin.Re
set_option autoImplicit false
set_option linter.unusedVariables false
set_option maxRecDepth 100000
set_option tactic.hygienic false
theorem join_nil_cps : ∀ texts : List PySem.Str, (PySem.Str.join ⟨#[]⟩ texts).cps.toList = (texts.map fun x => x.cps.toList).flatten
  | [] => rfl
  | [x] => by simp [PySem.Str.join]
  | x :: y :: r => by
    have h := join_nil_cps (y :: r)
    show ((x.cps ++ #[]) ++ (PySem.Str.join ⟨#[]⟩ (y :: r)).cps).toList = _
    rw [List.map_cons, List.flatten_cons, ← h]
    simp
section
variable {prog : Program} {w : World} {A : Around} {E : Value → Shared → Prop}
structure SubOk (code : Array Nat) (x repl : PySem.Str) (k : Nat) (find : Nat → Option (Nat × Nat)) (rest : Nat → List Nat) : Prop where
  ends : ∀ p, p ≤ x.cps.size → Ends k (forSearch code x.cps 0 p x.cps.size false) (find p)
  kk : k ≤ 2 ^ 64
  no : ∀ p, p ≤ x.cps.size → find p = none → rest p = x.cps.toList.drop p
  yes : ∀ p a e, p ≤ x.cps.size → find p = some (a, e) → p ≤ a ∧ a < e ∧ e ≤ x.cps.size ∧ rest p = (x.cps.toList.drop p).take (a - p) ++ repl.cps.toList ++ rest e
  xs : x.length ≤ 100000
  rs : repl.length ≤ 10
theorem upd_push {h : Heap} {D : Addr} {vs : List Value} {n : Nat} {v : Value} (e : h.get? D = some ⟨.type "list", none, .seq vs.toArray n, #[]⟩) :
    (h.update D (Obj.mapSeq fun xs => xs.push v)).get? D = some ⟨.type "list", none, .seq (vs ++ [v]).toArray (n + 1), #[]⟩ := by
  rw [Heap.get?_update_self _ e rfl]
  simp [Obj.mapSeq]
theorem keeps_upd {h₀ h : Heap} {D : Addr} {f : Obj → Obj} (k : Keeps h₀ h) (n : h₀.get? D = none) : Keeps h₀ (h.update D f) := fun b o e => by
  have : D ≠ b := fun q => by subst q; rw [n] at e; cases e
  rw [Heap.get?_update_other h f this]; exact k b o e
theorem strs_snoc (l : List (PySem.Str × Tok)) (x : PySem.Str) (t : Tok) : strValues l ++ [.str x t] = strValues (l ++ [(x, t)]) := by simp [strValues]
theorem sub_loop {code : Array Nat} {x repl : PySem.Str} {k : Nat} {find : Nat → Option (Nat × Nat)} {rest : Nat → List Nat} (S : SubOk code x repl k find rest) {P D : Addr} {t u : Tok} {Q : Value → Shared → Prop} {s₀ : Shared} (hD : s₀.heap.get? D = none) (hP : IsPat s₀.heap P code)
    (h : ∀ h' tk t', Keeps s₀.heap h' → Q (.str ⟨(rest 0).toArray⟩ t') { s₀ with heap := h', toks := tk }) :
    ∀ (f p n : Nat) (s : Shared) (l : List (PySem.Str × Tok)) (m : Nat), x.cps.size - p < f → p ≤ x.cps.size → s = { s₀ with heap := s.heap, toks := s.toks } → Keeps s₀.heap s.heap → s.heap.get? D = some ⟨.type "list", none, .seq (strValues l).toArray m, #[]⟩ →
      (l.map fun y => y.1.cps.toList).flatten ++ rest p = rest 0 → l.length ≤ 2 * p → (l.map fun y => y.1.length).sum ≤ 11 * p →
      codeAny (model prog w) A (.builtin "re.Pattern.sub.loop" ⟨[.ref P, .str x t, .str repl u, rawInt 0, rawInt 0, rawInt n, rawInt p, rawInt p, .bool false, .ref D, .bool false], []⟩) (wants Q E) s := by
  intro f
  induction f with
  | zero => intro p n s l m hf; exact absurd hf (Nat.not_lt_zero _)
  | succ f ih =>
    intro p n s l m hf hp es hk hl hfl hlen hsum
    refine codeAny_builtin entry_pat_loop ?_
    rw [Around.under_plainId (id := "re.Pattern.sub.loop") (by decide +kernel) _]
    unfold Builtin.«re.Pattern.sub.loop»
    refine wpAny_bind (wp_target (hP.keeps hk) ?_)
    refine wpAny_bind (m := reLiteralCannotBeTurned (.str repl u)) (wpAny_pure (a := ()) ?_)
    refine wpAny_bind ?_
    refine wp_runEnd (S.ends p hp) S.kk (fun e => ?_) fun a e m' hr h3 h4 _ => ?_
    · have hno := S.no p hp e
      have fin : ∀ (s : Shared) (l : List (PySem.Str × Tok)) (m : Nat), s = { s₀ with heap := s.heap, toks := s.toks } → Keeps s₀.heap s.heap → s.heap.get? D = some ⟨.type "list", none, .seq (strValues l).toArray m, #[]⟩ → (l.map fun y => y.1.cps.toList).flatten = rest 0 → (l.map fun y => y.1.length).sum ≤ 1200000 →
        wpAny (model prog w) A.in1 (do
          let joiner ← reSlice x.cps 0 0 0
          let text ← if ((← seqItems? (.ref D)).getD #[]).isEmpty then pure joiner else call (.builtin "str.join") [joiner, .ref D]
          ret text) (fun fin s' => match fin with | .done f => wants Q E (.ok f) s' | .again c' => c'.quiet = true ∧ codeAny (model prog w) A c' (wants Q E) s') (fun e s' => wants Q E (.error e) s') s := by
        intro s l m es hk hl hfl hsum
        refine wpAny_bind (m := mkStr _) (wpAny_mkStr ?_ (by show (x.cps.extract 0 0).size ≤ sizeLine; rw [sizeLine_eq]; simp))
        refine wpAny_bind (wpAny_seqItems hl rfl ?_)
        have e0 : (⟨x.cps.extract 0 0⟩ : PySem.Str) = ⟨#[]⟩ := by simp
        rw [e0]
        cases l with
        | nil =>
          refine wpAny_bind (wpAny_pure (a := Value.str ⟨#[]⟩ s.toks) (wpAny_pure ?_))
          have q := h s.heap (s.toks + 1) s.toks hk
          rw [← hfl] at q
          rw [es]; exact q
        | cons y l =>
          have ht : ∀ t' k', Q (.str (Txt.join ⟨#[]⟩ ((y :: l).map (·.1))) t') { s with toks := k' } := by
            intro t' k'
            have q := h s.heap k' t' hk
            have : Txt.join ⟨#[]⟩ ((y :: l).map (·.1)) = ⟨(rest 0).toArray⟩ := by
              unfold Txt.join
              rw [StrLaws.glued_eq_join]
              have z := join_nil_cps ((y :: l).map (·.1))
              rw [List.map_map] at z
              have z2 : (PySem.Str.join ⟨#[]⟩ ((y :: l).map (·.1))).cps.toList = rest 0 := z.trans hfl
              rw [← z2]
            rw [this, es]; exact q
          refine wpAny_bind (SC.join (l := y :: l) ⟨_, hl, rfl, m, rfl⟩ rfl ?_ (fun t' k' => wpAny_pure (ht t' k')))
          unfold JoinOk
          rw [Bool.not_eq_true']
          unfold Str.tooLong
          rw [StrLaws.joinTotal, List.map_map]
          refine decide_eq_false (Nat.not_lt.mpr ?_)
          have : ((y :: l).map ((fun x => x.length) ∘ fun x => x.1)).sum ≤ 1200000 := hsum
          have hz : PySem.Str.length ⟨#[]⟩ = 0 := rfl
          rw [sizeLine_eq, hz, Nat.mul_zero]
          lia
      show wpAny _ _ (if (p : Int).toNat < x.cps.size then _ else _) _ _ _
      have ep : (p : Int).toNat = p := Int.toNat_natCast p
      rw [ep]
      by_cases hlt : p < x.cps.size
      · rw [if_pos hlt]
        refine wpAny_bind (m := mkStr _) (wpAny_mkStr ?_ (by show (x.cps.extract p x.cps.size).size ≤ sizeLine; rw [sizeLine_eq]; have := S.xs; have : x.length = x.cps.size := rfl; simp; lia))
        refine wpAny_bind (wpAny_updateSeq hl rfl ?_ ?_ ?_)
        · refine fin _ (l ++ [(⟨x.cps.extract p x.cps.size⟩, s.toks)]) (m + 1) (by rw [es]) (keeps_upd hk hD) ?_ ?_ ?_
          · rw [upd_push hl, strs_snoc]
          · rw [List.map_append, List.flatten_append, ← hfl, hno]
            simp
            exact List.take_of_length_le (by simp)
          · have hx : x.length = x.cps.size := rfl
            have := S.xs
            simp only [List.map_append, List.sum_append, List.map_cons, List.map_nil, List.sum_cons, List.sum_nil]
            have : PySem.Str.length ⟨x.cps.extract p x.cps.size⟩ ≤ x.cps.size := by show (x.cps.extract p x.cps.size).size ≤ _; simp
            lia
        · rw [List.size_toArray, sizeLine_eq]; have := S.xs; have : x.length = x.cps.size := rfl; have : (strValues l).length = l.length := by simp [strValues]
          lia
        · rw [Array.size_push, List.size_toArray, sizeLine_eq]; have := S.xs; have : x.length = x.cps.size := rfl; have : (strValues l).length = l.length := by simp [strValues]
          lia
      · rw [if_neg hlt]
        refine fin s l m es hk hl ?_ (by have := S.xs; have : x.length = x.cps.size := rfl; lia)
        rw [← hfl, hno, List.drop_of_length_le (by simp; lia), List.append_nil]
    · obtain ⟨y1, y2, y3, y4⟩ := S.yes p a e hp hr
      have hx : x.length = x.cps.size := rfl
      have xs := S.xs
      have rs := S.rs
      have lv : ∀ l : List (PySem.Str × Tok), (strValues l).length = l.length := fun l => by simp [strValues]
      have fin : ∀ (s : Shared) (l' : List (PySem.Str × Tok)) (m : Nat), s = { s₀ with heap := s.heap, toks := s.toks } → Keeps s₀.heap s.heap → s.heap.get? D = some ⟨.type "list", none, .seq (strValues l').toArray m, #[]⟩ → (l'.map fun y => y.1.cps.toList).flatten = (l.map fun y => y.1.cps.toList).flatten ++ (x.cps.toList.drop p).take (a - p) → l'.length ≤ l.length + 1 → (l'.map fun y => y.1.length).sum ≤ (l.map fun y => y.1.length).sum + (a - p) →
        wpAny (model prog w) A.in1 (do
          let item ← pure (Value.str repl u)
          if item != .none then updateSeq D (·.push item)
          again (.builtin "re.Pattern.sub.loop" ⟨[.ref P, .str x t, .str repl u, rawInt 0, rawInt 0, rawInt ((n : Int) + 1), rawInt m'.handed, rawInt m'.handed, .bool (m'.handed == m'.start), .ref D, .bool false], []⟩)) (fun fin s' => match fin with | .done f => wants Q E (.ok f) s' | .again c' => c'.quiet = true ∧ codeAny (model prog w) A c' (wants Q E) s') (fun e s' => wants Q E (.error e) s') s := by
        intro s l' m es hk hl hfl' hlen' hsum'
        refine wpAny_bind (wpAny_pure (a := Value.str repl u) ?_)
        show wpAny _ _ (if (Value.str repl u != Value.none) = true then _ else _) _ _ _
        rw [if_pos (show (Value.str repl u != Value.none) = true from rfl)]
        refine wpAny_bind (wpAny_updateSeq hl rfl ?_ (by rw [List.size_toArray, sizeLine_eq, lv]; lia) (by rw [Array.size_push, List.size_toArray, sizeLine_eq, lv]; lia))
        refine wpAny_pure ⟨plainId_quiet (by decide +kernel) _, ?_⟩
        have eb : (m'.handed == m'.start) = false := by rw [h3, h4, beq_eq_false_iff_ne]; lia
        rw [eb, h4]
        have en : (n : Int) + 1 = ((n + 1 : Nat) : Int) := rfl
        rw [en]
        refine ih e (n + 1) _ (l' ++ [(repl, u)]) (m + 1) (by lia) y3 (by rw [es]) (keeps_upd hk hD) ?_ ?_ ?_ ?_
        · rw [upd_push hl, strs_snoc]
        · rw [List.map_append, List.flatten_append, hfl', ← hfl, y4]
          simp
        · rw [List.length_append]; simp; lia
        · simp only [List.map_append, List.sum_append, List.map_cons, List.map_nil, List.sum_cons, List.sum_nil]
          lia
      show wpAny _ _ (if (p : Int).toNat < m'.start then _ else _) _ _ _
      have ep : (p : Int).toNat = p := Int.toNat_natCast p
      by_cases hlt : p < a
      · rw [if_pos (show (p : Int).toNat < m'.start by rw [ep, h3]; exact hlt)]
        refine wpAny_bind (m := mkStr _) (wpAny_mkStr ?_ (by show (x.cps.extract (p : Int).toNat m'.start).size ≤ sizeLine; rw [sizeLine_eq, ep, h3]; simp; lia))
        refine wpAny_bind (wpAny_updateSeq hl rfl ?_ (by rw [List.size_toArray, sizeLine_eq, lv]; lia) (by rw [Array.size_push, List.size_toArray, sizeLine_eq, lv]; lia))
        refine fin _ (l ++ [(⟨x.cps.extract (p : Int).toNat m'.start⟩, s.toks)]) (m + 1) (by rw [es]) (keeps_upd hk hD) ?_ ?_ ?_ ?_
        · rw [upd_push hl, strs_snoc]
        · rw [List.map_append, List.flatten_append, ep, h3]
          simp
        · rw [List.length_append]; simp
        · simp only [List.map_append, List.sum_append, List.map_cons, List.map_nil, List.sum_cons, List.sum_nil]
          have : PySem.Str.length ⟨x.cps.extract (p : Int).toNat m'.start⟩ ≤ a - p := by show (x.cps.extract (p : Int).toNat m'.start).size ≤ _; rw [ep, h3]; simp; lia
          lia
      · rw [if_neg (show ¬ (p : Int).toNat < m'.start by rw [ep, h3]; exact hlt)]
        have ea : a - p = 0 := by lia
        refine fin s l m es hk hl (by rw [ea]; simp) (by lia) (by lia)
theorem str_nocall : typeLookup (.type "str") "__call__" = pure none := by rw [typeLookup_type, builtinLookup_eq_fast]; kernel_rfl
theorem call_sub {code : Array Nat} {x repl : PySem.Str} {k : Nat} {find : Nat → Option (Nat × Nat)} {rest : Nat → List Nat} (S : SubOk code x repl k find rest) {P : Addr} {t u : Tok} {Q : Value → Shared → Prop} {s : Shared} (hP : IsPat s.heap P code) (hb : repl.cps.contains 92 = false)
    (h : ∀ h' tk t', Keeps s.heap h' → Q (.str ⟨(rest 0).toArray⟩ t') { s with heap := h', toks := tk }) : wpAny (model prog w) A (call (.builtin "re.Pattern.sub") [.ref P, .str repl u, .str x t]) Q E s := by
  refine wpAny_call (codeAny_call_builtin slot_pat_sub.plain entry_pat_sub (slot_pat_sub.check _ _ _ _ _ _ _ _ hP.type (args_pat_sub _ _ _) ?_))
  unfold Builtin.«re.Pattern.sub» reSubstitute
  refine wpAny_bind (m := reNamed _ "sub" ["repl", "string", "count"] 2 [Value.str repl u, Value.str x t] []) (wpAny_pure (a := [some (Value.str repl u), some (Value.str x t), none]) ?_)
  refine wpAny_bind (wpAny_pure (a := (0 : Int)) ?_)
  refine wpAny_bind (wpAny_specialOf (typeIs_str _ _ _) str_nocall ?_)
  refine wpAny_bind (m := asStr? (.str repl u)) (wpAny_pure (a := some repl) ?_)
  refine wpAny_bind (wpAny_pure (a := !repl.cps.contains 92) ?_)
  rw [hb]
  refine wpAny_bind (wpAny_pure (a := (Value.str repl u, (0 : Int))) ?_)
  refine wpAny_bind (wpAny_holding (wp_target hP ?_))
  refine wpAny_bind (wpAny_newList ?_ (Nat.zero_le _))
  refine wpAny_pure ⟨plainId_quiet (by decide +kernel) _, ?_⟩
  refine sub_loop S (s₀ := s) fresh_none hP h (x.cps.size - 0 + 1) 0 0 _ [] 0 (by lia) (Nat.zero_le _) rfl (Keeps.push _) (Heap.get?_push_size _ rfl) rfl (Nat.zero_le _) (Nat.zero_le _)
end
end

section
open PySem PySem.W PyProof.Rows
open PySem.Sre PySem.Sre.M PySem.Builtin PySem.Builtin.Re
set_option autoImplicit false
set_option linter.unusedVariables false
set_option maxRecDepth 100000
set_option tactic.hygienic false
noncomputable def normS : Bool → List Nat → List Nat
  | _, [] => []
  | b, c :: r => if c = 13 then 13 :: 10 :: normS true r else if c = 10 then (if b = true then normS false r else 13 :: 10 :: normS false r) else c :: normS false r
noncomputable def dotsS : Bool → List Nat → List Nat
  | _, [] => []
  | b, c :: r => if (b && c == 46) = true then 46 :: 46 :: dotsS false r else c :: dotsS (c == 10) r
theorem drop_cons {x : Array Nat} {p : Nat} (h : p < x.size) : x.toList.drop p = x.getD p 0 :: x.toList.drop (p + 1) := by
  rw [List.drop_eq_getElem_cons (by simpa using h)]
  simp [Array.getD, h]
theorem normS_other {b : Bool} {l : List Nat} (h : l.head? ≠ some 10) : normS b l = normS false l := by
  cases l with
  | nil => rfl
  | cons c r =>
    have : c ≠ 10 := fun e => h (by rw [e]; rfl)
    simp [normS, this]
set_option tactic.hygienic true in
theorem first2 {x : Array Nat} : ∀ (f p : Nat), x.size - p < f → p ≤ x.size → match firstAt P2 x x.size f p with
    | none => normS false (x.toList.drop p) = x.toList.drop p
    | some a => p ≤ a ∧ a < end2 x x.size a ∧ end2 x x.size a ≤ x.size ∧ normS false (x.toList.drop p) = (x.toList.drop p).take (a - p) ++ [13, 10] ++ normS false (x.toList.drop (end2 x x.size a)) := by
  intro f
  induction f with
  | zero => intro p h; exact absurd h (Nat.not_lt_zero _)
  | succ f ih =>
    intro p hf hp
    unfold firstAt
    by_cases hl : p ≥ x.size
    · rw [if_pos hl]
      show normS false (x.toList.drop p) = x.toList.drop p
      rw [List.drop_of_length_le (by simpa using hl)]; rfl
    · rw [if_neg hl]
      have hd := drop_cons (x := x) (p := p) (by lia)
      by_cases hc : P2 (x.getD p 0) = true
      · rw [if_pos hc]
        have he : p < end2 x x.size p ∧ end2 x x.size p ≤ x.size := by
          unfold end2
          split
          · rename_i h; simp only [Bool.and_eq_true, decide_eq_true_eq] at h; lia
          · lia
        refine ⟨Nat.le_refl _, he.1, he.2, ?_⟩
        rw [Nat.sub_self, List.take_zero, List.nil_append, hd]
        unfold P2 at hc
        by_cases h13 : x.getD p 0 = 13
        · rw [h13]
          show 13 :: 10 :: normS true (x.toList.drop (p + 1)) = _
          unfold end2
          rw [h13]
          by_cases h10 : p + 1 < x.size ∧ x.getD (p + 1) 0 = 10
          · rw [if_pos (by simp [h10.1, h10.2])]
            rw [drop_cons (p := p + 1) h10.1, h10.2]
            rfl
          · rw [if_neg (by simp only [Bool.and_eq_true, decide_eq_true_eq, beq_iff_eq]; lia)]
            rw [normS_other]
            · rfl
            · intro e
              by_cases q : p + 1 < x.size
              · rw [drop_cons (p := p + 1) q] at e
                exact h10 ⟨q, Option.some.inj e⟩
              · rw [List.drop_of_length_le (by simp; lia)] at e; cases e
        · have h10 : x.getD p 0 = 10 := by
            simp only [Bool.or_eq_true, beq_iff_eq] at hc; lia
          have ee : end2 x x.size p = p + 1 := by unfold end2; rw [if_neg (by rw [h10]; simp)]
          rw [h10, ee]; rfl
      · rw [if_neg hc]
        have hne : x.getD p 0 ≠ 13 ∧ x.getD p 0 ≠ 10 := by
          unfold P2 at hc; simp only [Bool.or_eq_true, beq_iff_eq] at hc; lia
        have hn : normS false (x.toList.drop p) = x.getD p 0 :: normS false (x.toList.drop (p + 1)) := by
          rw [hd]; unfold normS; rw [if_neg hne.1, if_neg hne.2]; cases x.toList.drop (p + 1) <;> rfl
        have z := ih (p + 1) (by lia) (by lia)
        cases hx : firstAt P2 x x.size f (p + 1) with
        | none =>
          rw [hx] at z
          show normS false (x.toList.drop p) = x.toList.drop p
          rw [hn, z, hd]
        | some a =>
          rw [hx] at z
          obtain ⟨z1, z2, z3, z4⟩ := z
          refine ⟨by lia, z2, z3, ?_⟩
          rw [hn, z4, hd]
          have : a - p = (a - (p + 1)) + 1 := by lia
          rw [this, List.take_succ_cons]; rfl
theorem sub2 (x : PySem.Str) (hx : x.length ≤ 100000) : SubOk code2 x ⟨#[13, 10]⟩ 20 (fun p => if p < x.cps.size then (firstAt P2 x.cps x.cps.size (x.cps.size + 1 - p) p).map fun s => (s, end2 x.cps x.cps.size s) else none) (fun p => normS false (x.cps.toList.drop p)) := by
  refine ⟨fun p hp => search2 p, by lia, fun p hp h => ?_, fun p a e hp h => ?_, hx, by decide⟩
  · have z := first2 (x := x.cps) (x.cps.size + 1 - p) p (by lia) hp
    by_cases hl : p < x.cps.size
    · rw [if_pos hl, Option.map_eq_none_iff] at h
      rw [h] at z; exact z
    · show normS false (x.cps.toList.drop p) = _
      rw [List.drop_of_length_le (by simp; lia)]; rfl
  · have z := first2 (x := x.cps) (x.cps.size + 1 - p) p (by lia) hp
    by_cases hl : p < x.cps.size
    · rw [if_pos hl] at h
      obtain ⟨s, hs, h⟩ := Option.map_eq_some_iff.mp h
      rw [hs] at z
      cases h
      exact z
    · rw [if_neg hl] at h; cases h
noncomputable def bol (x : Array Nat) (p : Nat) : Bool := p == 0 || x.getD (p - 1) 0 == 10
theorem first1 {x : Array Nat} : ∀ (f p : Nat), x.size - p ≤ f → p ≤ x.size → match find1 x x.size f p with
    | none => dotsS (bol x p) (x.toList.drop p) = x.toList.drop p
    | some (a, e) => p ≤ a ∧ e = a + 1 ∧ e ≤ x.size ∧ dotsS (bol x p) (x.toList.drop p) = (x.toList.drop p).take (a - p) ++ [46, 46] ++ dotsS (bol x e) (x.toList.drop e) := by
  have hit : ∀ p, hit1 x x.size p = true → p < x.size ∧ dotsS (bol x p) (x.toList.drop p) = (x.toList.drop p).take (p - p) ++ [46, 46] ++ dotsS (bol x (p + 1)) (x.toList.drop (p + 1)) := by
    intro p h
    unfold hit1 at h
    simp only [Bool.and_eq_true, decide_eq_true_eq] at h
    obtain ⟨h1, h2, h3⟩ := h
    have h3' : x.getD p 0 = 46 := by simpa using h3
    refine ⟨h2, ?_⟩
    have hb : bol x p = true := h1
    have hb2 : bol x (p + 1) = false := by unfold bol; simp [h3']
    rw [hb, hb2, drop_cons h2, h3', Nat.sub_self]
    rfl
  have miss : ∀ p, p < x.size → hit1 x x.size p = false → dotsS (bol x p) (x.toList.drop p) = x.getD p 0 :: dotsS (bol x (p + 1)) (x.toList.drop (p + 1)) := by
    intro p hp h
    rw [drop_cons hp]
    unfold hit1 at h
    have hb : (bol x p && x.getD p 0 == 46) = false := by
      have : (bol x p && (decide (p < x.size) && x.getD p 0 == 46)) = false := h
      simpa [hp] using this
    have e : bol x (p + 1) = (x.getD p 0 == 10) := by unfold bol; simp
    show (if (bol x p && x.getD p 0 == 46) = true then _ else _) = _
    rw [hb, e]; rfl
  intro f
  induction f with
  | zero =>
    intro p hf hp
    unfold find1
    by_cases h : hit1 x x.size p = true
    · rw [if_pos h]
      have := (hit p h).1; lia
    · rw [if_neg h]
      show dotsS (bol x p) (x.toList.drop p) = x.toList.drop p
      rw [List.drop_of_length_le (by simp; lia)]; rfl
  | succ f ih =>
    intro p hf hp
    unfold find1
    by_cases h : hit1 x x.size p = true
    · rw [if_pos h]
      obtain ⟨h1, h2⟩ := hit p h
      exact ⟨Nat.le_refl _, rfl, by lia, h2⟩
    · rw [if_neg h]
      have h : hit1 x x.size p = false := by simpa using h
      by_cases hl : p < x.size
      · have z := ih (p + 1) (by lia) (by lia)
        have hm := miss p hl h
        cases hx : find1 x x.size f (p + 1) with
        | none =>
          rw [hx] at z
          show dotsS (bol x p) (x.toList.drop p) = x.toList.drop p
          rw [hm, z, drop_cons hl]
        | some ae =>
          obtain ⟨a, e⟩ := ae
          rw [hx] at z
          obtain ⟨z1, z2, z3, z4⟩ := z
          refine ⟨by lia, z2, z3, ?_⟩
          rw [hm, z4, drop_cons hl]
          have : a - p = (a - (p + 1)) + 1 := by lia
          rw [this, List.take_succ_cons]; rfl
      · have hn : ∀ f p, x.size ≤ p → find1 x x.size f p = none := by
          intro f
          induction f with
          | zero => intro p hp; unfold find1; rw [if_neg]; unfold hit1; simp; lia
          | succ f ih => intro p hp; unfold find1; rw [if_neg (by unfold hit1; simp; lia)]; exact ih _ (by lia)
        rw [hn f (p + 1) (by lia)]
        show dotsS (bol x p) (x.toList.drop p) = x.toList.drop p
        rw [List.drop_of_length_le (by simp; lia)]; rfl
theorem sub1 (x : PySem.Str) (hx : x.length ≤ 100000) : SubOk code1 x ⟨#[46, 46]⟩ (3 * x.cps.size + 6) (fun p => if p < x.cps.size then find1 x.cps x.cps.size (x.cps.size - p) p else none) (fun p => dotsS (bol x.cps p) (x.cps.toList.drop p)) := by
  have hs : x.length = x.cps.size := rfl
  refine ⟨fun p hp => search1 hp, by lia, fun p hp h => ?_, fun p a e hp h => ?_, hx, by decide⟩
  · have z := first1 (x := x.cps) (x.cps.size - p) p (by lia) hp
    by_cases hl : p < x.cps.size
    · rw [if_pos hl] at h
      rw [h] at z; exact z
    · show dotsS _ (x.cps.toList.drop p) = _
      rw [List.drop_of_length_le (by simp; lia)]; rfl
  · have z := first1 (x := x.cps) (x.cps.size - p) p (by lia) hp
    by_cases hl : p < x.cps.size
    · rw [if_pos hl] at h
      rw [h] at z
      obtain ⟨z1, z2, z3, z4⟩ := z
      exact ⟨z1, by lia, z3, z4⟩
    · rw [if_neg hl] at h; cases h
theorem firstAt_any {P : Nat → Bool} {x : Array Nat} : ∀ (f p : Nat), x.size - p < f → (firstAt P x x.size f p).isSome = (x.toList.drop p).any P := by
  intro f
  induction f with
  | zero => intro p h; exact absurd h (Nat.not_lt_zero _)
  | succ f ih =>
    intro p hf
    unfold firstAt
    by_cases hl : p ≥ x.size
    · rw [if_pos hl, List.drop_of_length_le (by simpa using hl)]; rfl
    · rw [if_neg hl, drop_cons (by lia)]
      by_cases hc : P (x.getD p 0) = true
      · rw [if_pos hc, List.any_cons, hc]; rfl
      · rw [if_neg hc, ih (p + 1) (by lia), List.any_cons, Bool.eq_false_iff.mpr hc]; rfl
end

section
open PySem PySem.W PyProof.Rows PySem.Spec PySem.SeqAt PySem.Calls
set_option autoImplicit false
set_option linter.unusedVariables false
set_option maxRecDepth 100000
set_option tactic.hygienic false
theorem match_bool : typeLookup (.type "re.Match") "__bool__" = pure none := by rw [typeLookup_type, builtinLookup_eq_fast]; kernel_rfl
theorem match_len : typeLookup (.type "re.Match") "__len__" = pure none := by rw [typeLookup_type, builtinLookup_eq_fast]; kernel_rfl
theorem truthy_match {M : Model} {A : Around} {E : Value → Shared → Prop} {s : Shared} {a : Addr} {o : Obj} {Q : Bool → Shared → Prop} (ho : s.heap.get? a = some o) (hc : o.cls = .type "re.Match") (h : Q true s) : wpAny M A (truthy (.ref a)) Q E s := by
  have hT : s.TypeIs (.ref a) "re.Match" := ⟨o, ho, hc⟩
  unfold truthy
  refine wpAny_bind (m := callSpecial? (.ref a) (Str.ofString "__bool__")) ?_
  unfold callSpecial?
  refine wpAny_bind (wpAny_specialOf hT match_bool ?_)
  refine wpAny_pure ?_
  exact wpAny_bind (wpAny_specialOf hT match_len (wpAny_pure h))
structure Pats where
  n : Addr
  v : Addr
  one : Addr
  two : Addr
structure PatsOk (W : Wd) (P : Pats) : Prop where
  n : IsPat W.h₀ P.n codeN
  v : IsPat W.h₀ P.v codeV
  one : IsPat W.h₀ P.one code1
  two : IsPat W.h₀ P.two code2
noncomputable def hasN (x : Str) : Bool := x.cps.toList.any PN
noncomputable def hasV (x : Str) : Bool := x.cps.toList.any PV'
noncomputable def pSearch (P : Pats) : PV → List PV → PM Bool
  | .glob a, [.str x] => pguard (x.length < 2 ^ 62) (if a = P.n then PM.pure (hasN x) else if a = P.v then PM.pure (hasV x) else pfail)
  | _, _ => pfail
noncomputable def dots (x : Str) : Str := ⟨(dotsS true x.cps.toList).toArray⟩
noncomputable def norm (x : Str) : Str := ⟨(normS false x.cps.toList).toArray⟩
noncomputable def pSubst (P : Pats) (a : Addr) : List PV → PM PV
  | [.str r, .str x] => pguard (x.length ≤ 100000) (if a = P.one ∧ r = ⟨#[46, 46]⟩ then PM.pure (.str (dots x)) else if a = P.two ∧ r = ⟨#[13, 10]⟩ then PM.pure (.str (norm x)) else pfail)
  | _ => pfail
section
variable {W : Wd} {d : Nat} {env : Env} {G : GG}
theorem Rel.pat {h : Heap} {ρ : Rh} {σ : PS} (R : Rel W env h ρ σ) {a : Addr} {code : Array Nat} (p : IsPat W.h₀ a code) : IsPat h a code := p.keeps R.base
theorem wp_bmG {β : Type} {R : RR (List Value) β} {a : Value} {name : Str} {id : String} {pl : Sem Bool} {es : List Expr} {pos : Pos} {q : PM β} {A : Around} {s : Shared} {ρ : Rh} {σ : PS} {Q : Value → Shared → Prop} {E : Value → Shared → Prop} (hes : SS W d env R es q) (hn : noStar es = true)
    (ha : AOk W d A s ρ) (hr : Rel W env s.heap ρ σ)
    (hgm : ∀ (Q : Value × List Value → Shared → Prop), Q (.builtin id, [a]) s → wpAny (model W.prog W.w) A (getMethod a name pl) Q E s)
    (h : match q σ with
      | some (.ok b, σ₁) => ∀ vs h₂ ρ₂ tk₂, AOk W d A { s with heap := h₂, toks := tk₂ } ρ₂ → Rel W env h₂ ρ₂ σ₁ → Ext W (fp env) s.heap ρ h₂ ρ₂ → R.rel h₂ ρ₂ vs b → wpAny (model W.prog W.w) A (call (.builtin id) (a :: vs)) Q E { s with heap := h₂, toks := tk₂ }
      | _ => False) :
    wpAny (model W.prog W.w) A (getMethod a name pl >>= fun fm => callWith pos fm.1 fm.2 (backTo pos (starEach es env)) (backToKw pos (keywordEach [] env))) Q E s := by
  refine wpAny_bind (hgm _ ?_)
  show wpAny _ _ (callWith pos (.builtin id) [a] (backTo pos (starEach es env)) []) _ _ _
  refine Calls.callWith_builtin (noStar_any hn) ?_
  refine sa_posR hes hn GG.tt (.builtin id) pos A s ρ σ _ _ ha hr trivial ?_
  match hq : q σ, h with
  | some (.ok b, σ₁), h =>
    intro x h₂ ρ₂ tk₂ r2 e2 l2 ra
    obtain ⟨ek, r1⟩ := ra
    rw [ek]
    exact h x.pos h₂ ρ₂ tk₂ (ha.ext r2 e2 l2) r2 e2 r1
theorem wp_methG {A : Around} {s : Shared} {E : Value → Shared → Prop} {Q : Value → Shared → Prop} {o : Expr} {name : Str} {apos pos : Pos} {es : List Expr} {ks : List Keyword}
    (h : wpAny (model W.prog W.w) A (eval o env) (fun a s => wpAny (model W.prog W.w) A (getMethod a name (do return (← importBound o env).getD true) >>= fun fm => callWith pos fm.1 fm.2 (backTo pos (starEach es env)) (backToKw pos (keywordEach ks env))) Q E s) E s)
    (hb : ∀ t, attributeBase o name env t = t) (hf : methodCallForm (es.length + ks.length) (backTo pos (starEach es env)) (backToKw pos (keywordEach ks env)) = true) (hpos : (apos.endLine == pos.line) = true) :
    wpAny (model W.prog W.w) A (eval (.Call (.Attribute o name apos) es ks pos) env) Q E s := by
  have e : eval (.Call (.Attribute o name apos) es ks pos) env = (attributeBase o name env (eval o env) >>= fun ov => standAt apos.atName >>= fun _ =>
    methodCall o name apos pos env ov (es.length + ks.length) (backTo pos (starEach es env)) (backToKw pos (keywordEach ks env))) := rfl
  rw [e, hb]
  refine wpAny_bind (wpAny_mono h (fun a s' y => wpAny_bind (wpAny_standAt ?_)) fun _ _ x => x)
  unfold methodCall calleeOf
  rw [hf]
  simp only [if_true]
  have e2 : methodCallPos true o env apos pos = pure pos := by
    unfold methodCallPos
    rw [hpos]; rfl
  intro Γ p' hΓ
  have x := y Γ p' hΓ
  rw [Sem.wp_bind'] at x ⊢
  rw [Sem.wp_holding]
  refine Sem.wp_mono _ Γ _ (fun fm p₁ s₁ h₁ => ?_) (fun _ _ _ h => h) _ _ x
  rw [e2]
  exact h₁
set_option tactic.hygienic true in
theorem pSearch_inv {P : Pats} {s : Shared} {ρ : Rh} {σ : PS} {Q : Bool → Shared → Prop} {E : Value → Shared → Prop} {a : PV} {l : List PV} (hp : Post W env rrB s ρ Q E (pSearch P a l σ)) :
    ∃ b y, a = .glob b ∧ l = [.str y] ∧ y.length < 2 ^ 62 ∧ ((b = P.n ∧ Post W env rrB s ρ Q E (PM.pure (hasN y) σ)) ∨ (b = P.v ∧ Post W env rrB s ρ Q E (PM.pure (hasV y) σ))) := by
  unfold pSearch at hp
  split at hp
  · rename_i b y
    unfold pguard at hp
    split at hp
    · rename_i hy
      split at hp
      · rename_i e; exact ⟨b, y, rfl, rfl, hy, .inl ⟨e, hp⟩⟩
      · split at hp
        · rename_i e; exact ⟨b, y, rfl, rfl, hy, .inr ⟨e, hp⟩⟩
        · exact hp.elim
    · exact hp.elim
  · exact hp.elim
theorem t_search {P : Pats} {o : Expr} {apos pos : Pos} {es : List Expr} {p : PM PV} {q : PM (List PV)} (hP : PatsOk W P) (ho : SE W d env o p) (hes : SEs W d env es q) (hn : noStar es = true)
    (hb : ∀ t, attributeBase o "search" env t = t) (hf : methodCallForm (es.length + 0) (backTo pos (starEach es env)) [] = true) (hpos : (apos.endLine == pos.line) = true)
    (hw : isTrue (.Call (.Attribute o "search" apos) es [] pos) env (eval (.Call (.Attribute o "search" apos) es [] pos) env) = (eval (.Call (.Attribute o "search" apos) es [] pos) env >>= fun v => standAt pos >>= fun _ => holding [v] (truthy v))) :
    ST W d env (.Call (.Attribute o "search" apos) es [] pos) (PM.bind (pnoexc p) fun a => PM.bind (pnoexc q) fun l => pSearch P a l) := by
  intro G
  rw [hw]
  intro A s ρ σ Q E ha hr hg hp
  refine wpAny_bind (wp_methG (ks := []) (ho G A s ρ σ _ _ ha hr hg ?_) hb hf hpos)
  unfold PM.bind pnoexc at hp
  match hq : p σ, hp with
  | some (.ok a, σ₁), hp =>
    intro v h₁ ρ₁ tk₁ r1 e1 l1 rv
    dsimp only at hp
    match hq2 : q σ₁, hp with
    | some (.ok l, σ₂), hp =>
      dsimp only at hp
      obtain ⟨a, y, rfl, rfl, hy, hp2⟩ := pSearch_inv hp
      · cases rv
        have fin : ∀ {code : Array Nat} {r : Option (Nat × Nat)} {k : Nat} {b : Bool}, IsPat W.h₀ a code → Ends k (PySem.Sre.forSearch code y.cps 0 0 y.cps.size false) r → k ≤ 2 ^ 64 → r.isSome = b → y.length < 2 ^ 62 → Post W env rrB s ρ Q E (PM.pure b σ₂) →
            wpAny (model W.prog W.w) A (getMethod (.ref a) "search" (do return (← importBound o env).getD true) >>= fun fm => callWith pos fm.1 fm.2 (backTo pos (starEach es env)) (backToKw pos (keywordEach [] env))) (fun v s => wpAny (model W.prog W.w) A (standAt pos >>= fun _ => holding [v] (truthy v)) Q E s) E { s with heap := h₁, toks := tk₁ } := by
          intro code r k b hpat hends hk hb2 hy hp
          refine wp_bmG (R := rrL) (id := "re.Pattern.search") hes hn (ha.ext r1 e1 l1) r1 (fun Q h => ?_) ?_
          · have ip : IsPat h₁ a code := r1.pat hpat
            exact getMethod_builtin (IsPat.type (s := { s with heap := h₁, toks := tk₁ }) ip) plainAttrs_pat slot_pat_search type_pat_search (fun c e => by
              cases e
              obtain ⟨T, o, oT, vs, cs, n, e1, r2, r3, _⟩ := ip.ex
              exact ⟨o, e1, r3⟩) h
          · rw [hq2]
            intro vs h₂ ρ₂ tk₂ ha2 r2 e2 ra
            obtain ⟨v, rfl, t, rfl⟩ := one_inv ra
            refine call_search (s := { s with heap := h₂, toks := tk₂ }) (r2.pat hpat) hy hends hk (fun e => ?_) fun e h' c ob kp hob hcl => ?_
            · have : b = false := by rw [← hb2, e]; rfl
              subst this
              exact wpAny_bind (wpAny_standAt (wpAny_holding (truthy_none (hp false h₂ ρ₂ tk₂ r2 (e1.trans e2) ⟨ha2.tok, ha2.pos⟩ rfl))))
            · have : b = true := by
                rw [← hb2]
                cases r with
                | none => exact absurd rfl e
                | some _ => rfl
              subst this
              exact wpAny_bind (wpAny_standAt (wpAny_holding (truthy_match (s := { s with heap := h', toks := tk₂ }) hob hcl (hp true h' ρ₂ tk₂ (r2.keeps kp) ((e1.trans e2).trans (Ext0.keeps kp).toExt) ⟨ha2.tok, ha2.pos⟩ rfl))))
        have any : ∀ {Pd : Nat → Bool} {e : Nat → Nat}, (if 0 < y.cps.size then (firstAt Pd y.cps y.cps.size (y.cps.size + 1 - 0) 0).map fun s => (s, e s) else none).isSome = y.cps.toList.any Pd := by
          intro Pd e
          have z := firstAt_any (P := Pd) (x := y.cps) (y.cps.size + 1) 0 (by omega)
          by_cases hl : 0 < y.cps.size
          · rw [if_pos hl, Option.isSome_map]; simpa using z
          · rw [if_neg hl]
            have : y.cps.toList = [] := by
              rw [List.eq_nil_iff_length_eq_zero, Array.length_toList]; omega
            rw [this]; rfl
        rcases hp2 with ⟨ea, hp2⟩ | ⟨ea, hp2⟩
        · subst ea
          exact fin hP.n (searchN 0) (by decide) any hy hp2
        · subst ea
          exact fin hP.v (searchV 0) (by decide) any hy hp2
set_option tactic.hygienic true in
theorem pSubst_inv {P : Pats} {s : Shared} {ρ : Rh} {σ : PS} {Q : Value → Shared → Prop} {E : Value → Shared → Prop} {a : Addr} {l : List PV} (hp : Post0 W env rrV s ρ Q E (pSubst P a l σ)) :
    ∃ r y, l = [.str r, .str y] ∧ y.length ≤ 100000 ∧ ((a = P.one ∧ r = ⟨#[46, 46]⟩ ∧ Post0 W env rrV s ρ Q E (PM.pure (.str (dots y)) σ)) ∨ (a = P.two ∧ r = ⟨#[13, 10]⟩ ∧ Post0 W env rrV s ρ Q E (PM.pure (.str (norm y)) σ))) := by
  unfold pSubst at hp
  split at hp
  · rename_i r y
    obtain ⟨hy, hp⟩ := pguard_inv hp
    split at hp
    · rename_i e; exact ⟨r, y, rfl, hy, .inl ⟨e.1, e.2, hp⟩⟩
    · split at hp
      · rename_i e; exact ⟨r, y, rfl, hy, .inr ⟨e.1, e.2, hp⟩⟩
      · exact hp.elim
  · exact hp.elim
theorem s_sub_ {P : Pats} {o : Expr} {apos pos : Pos} {es : List Expr} {p : PM PV} {q : PM (List PV)} (hP : PatsOk W P) (ho : SE W d env o p) (hes : SEs W d env es q) (hn : noStar es = true)
    (hb : ∀ t, attributeBase o "sub" env t = t) (hf : methodCallForm (es.length + 0) (backTo pos (starEach es env)) [] = true) (hpos : (apos.endLine == pos.line) = true) :
    SE W d env (.Call (.Attribute o "sub" apos) es [] pos) (PM.bind p fun a => match a with
      | .glob a => pguard (a = P.one ∨ a = P.two) (PM.bind q fun l => pSubst P a l)
      | _ => pfail) := by
  refine s_meth_ (ks := []) ho (fun G a pa ga => ?_) hb hf hpos
  cases pa with
  | glob a =>
    refine Sim.under fun ⟨h, ρ, g⟩ => ?_
    have e := ga h ρ g
    cases e
    refine s_guard fun hor => ?_
    intro A s ρ σ Q E ha hr hg hp
    have hpat : ∃ code, IsPat W.h₀ a code := by
      rcases hor with rfl | rfl
      · exact ⟨_, hP.one⟩
      · exact ⟨_, hP.two⟩
    obtain ⟨code, hpat⟩ := hpat
    refine wp_bm (G := G) (R := rrL) (id := "re.Pattern.sub") hes hn ha hr hg hp (fun Q h => ?_) (fun vs l => Sim.of0 ?_)
    · have ip : IsPat s.heap a code := hr.pat hpat
      exact getMethod_builtin (IsPat.type ip) plainAttrs_pat slot_pat_sub type_pat_sub (fun c e => by
        cases e
        obtain ⟨T, o, oT, vs, cs, n, e1, r2, r3, _⟩ := ip.ex
        exact ⟨o, e1, r3⟩) h
    · intro A s ρ σ Q E ha hr hg hp
      obtain ⟨r, y, rfl, hy, hp3⟩ := pSubst_inv hp
      obtain ⟨v1, v2, rfl, ⟨t, rfl⟩, ⟨u, rfl⟩⟩ := two_inv (show All2 (RepV s.heap ρ) vs [.str r, .str y] from hg.2)
      rcases hp3 with ⟨ea, er, hp3⟩ | ⟨ea, er, hp3⟩
      · subst ea er
        refine call_sub (sub1 y hy) (hr.pat hP.one) (by decide +kernel) fun h' tk t' kp => ?_
        exact post_keep hr hp3 kp ⟨t', rfl⟩ tk
      · subst ea er
        refine call_sub (sub2 y hy) (hr.pat hP.two) (by decide +kernel) fun h' tk t' kp => ?_
        exact post_keep hr hp3 kp ⟨t', rfl⟩ tk
  | _ => exact s_fail
end
end

section
open PySem PySem.W PyProof.Rows PySem.Spec PySem.SeqAt PySem.Calls
set_option autoImplicit false
set_option linter.unusedVariables false
set_option maxRecDepth 100000
set_option tactic.hygienic false
section
variable {W : Wd} {d : Nat} {env : Env} {G : GG}
theorem wp_setSlice {prog : Program} {w : World} {A : Around} {E : Value → Shared → Prop} {s : Shared} {l sl b : Addr} {items new : Array Value} {n : Nat} {Q : Unit → Shared → Prop} (ho : s.heap.get? l = some ⟨.type "list", none, .seq items n, #[]⟩) (hb : s.heap.IsList b new) (hne : l ≠ b)
    (hs : s.heap.IsSliceOf sl .none .none .none) (hsz : items.size + new.size ≤ sizeLine)
    (h : ∀ h' n', h'.get? l = some ⟨.type "list", none, .seq new n', #[]⟩ → Heap.SameBut l s.heap h' → Q () { s with heap := h' }) : wpAny (model prog w) A (setItem (.ref l) (.ref sl) (.ref b)) Q E s := by
  have hl : s.heap.IsList l items := ⟨_, ho, rfl, n, rfl⟩
  have hd : (⟨.type "list", none, .seq items n, #[]⟩ : Obj).data = .seq items n := rfl
  obtain ⟨ob, hob, hcb, nb, hdb⟩ := id hb
  obtain ⟨os, hos, hcs, hds⟩ := id hs
  have hTs : s.TypeIs (.ref sl) "slice" := ⟨os, hos, hcs⟩
  unfold setItem
  try with_reducible refine wpAny_holding ?_
  first | refine wpAny_bind (wpAny_pure ?_) | skip
  refine wpAny_bind (wpAny_sequenceKey hl.typeIs (by decide) ?_)
  refine wpAny_bind (wpAny_callSpecial?_slot (name := Str.ofString "__setitem__") hl.typeIs slot_list_setitem
    (wpAny_call_entry slot_list_setitem hl.typeIs entry_list_setitem ?_ (args_list_setitem _ _ _)))
  show wpAny _ _ (Builtin.List.listSubscript? (.ref sl) >>= _) _ _ s
  refine wpAny_bind ?_
  unfold Builtin.List.listSubscript?
  refine wpAny_bind (wpAny_specialOf hTs slice_no_index ?_)
  simp only [Option.isNone_none, if_true]
  refine wpAny_pure ?_
  show wpAny _ _ (typeOf (.ref sl) >>= _) _ _ s
  refine wpAny_bind (wpAny_typeOf hTs ?_)
  rw [if_neg (by decide)]
  rw [listSliceParts_eq]
  refine wpAny_bind (wpAny_bind (wpAny_field hos hds (x := .none) rfl (wpAny_bind (wpAny_listPart .none ?_))))
  rw [if_neg (by decide)]
  refine wpAny_bind (wpAny_field hos hds (x := .none) rfl (wpAny_bind (wpAny_listPart .none ?_)))
  refine wpAny_bind (wpAny_field hos hds (x := .none) rfl (wpAny_bind (wpAny_listPart .none (wpAny_pure ?_))))
  have hsr : PySem.Builtin.List.listSameRef (.ref l) (.ref b) = false := by
    show (l == b) = false
    simpa using hne
  dsimp only
  rw [hsr]
  refine wpAny_bind (m := Builtin.List.listAllItems (.ref b) _) ?_
  unfold Builtin.List.listAllItems
  refine wpAny_bind (wpAny_typeOf hb.typeIs ?_)
  rw [if_pos (by decide)]
  unfold Builtin.List.listItems
  refine wpAny_bind (wpAny_seqItems hob hdb (wpAny_pure ?_))
  refine wpAny_bind (wpAny_bind (wpAny_seqItems ho hd (wpAny_pure ?_)))
  refine wpAny_bind (wpAny_of_eq (sliceIndices_raw none none none items.size (by simp)) ?_)
  have e1 : (sliceBounds none none none items.size) = (0, (items.size : Int), 1) := rfl
  rw [e1]
  show wpAny _ _ (if ((1 : Int) == 1) = true then _ else _) _ _ s
  rw [if_pos (by decide)]
  refine wpAny_bind (wpAny_rule ?_)
  have e2 : Builtin.List.listTooLong (items.size + new.size) = false := by
    unfold Builtin.List.listTooLong
    exact decide_eq_false (by lia)
  rw [e2, if_neg (by decide)]
  refine wpAny_bind (m := Builtin.List.listUpdate (.ref l) _) (wpAny_updateSeq ho hd ?_ (by lia) ?_)
  · refine wpAny_bind (wpAny_letGo ?_)
    refine wpAny_pure ⟨_, rfl, wpAny_pure ?_⟩
    refine h _ (if new.size = items.size then n else n + 1) ?_ (Heap.SameBut.update ..)
    rw [Heap.get?_update_self _ ho rfl]
    by_cases hz : new.size = items.size <;> simp [Obj.mapSeq, hz]
  · simp
    lia
noncomputable def pallset (a v : PV) : PM Unit := match a, v with
  | .ref i, .ref j => plist i fun l => plist j fun l' => pguard (i ≠ j ∧ l.length + l'.length ≤ sizeLine) (fun σ => some (.ok (), { σ with H := σ.H.set i (.list l') }))
  | _, _ => pfail
set_option tactic.hygienic true in
theorem a_slice {o : Expr} {sp' sp : Pos} {p : PM PV} (ho : SE W d env o p) : SAs W d env (.Subscript o (.Slice none none none sp') sp) (fun v => PM.bind p fun a => pallset a v) := by
  intro G v pv gv
  rw [arm_assign_Subscript, arm_Slice]
  refine Sim.bind (Sim.holding (ho G)) fun a pa => ?_
  refine Sim.of0 ?_
  intro A s ρ σ Q E ha hr hg hp
  have ra : RepV s.heap ρ a pa := hg.2
  have rv := gv _ _ hg.1
  unfold pallset at hp
  split at hp
  · rename_i i j
    obtain ⟨l, e1, hp⟩ := plist_inv hp
    obtain ⟨l', e2, hp⟩ := plist_inv hp
    obtain ⟨⟨hne, hsz⟩, hp⟩ := pguard_inv hp
    obtain ⟨x, rfl, ex, vs, n, hox, zx⟩ := ref_inv hr.cells ra e1
    obtain ⟨y, rfl, ey, ws, n2, hoy, zy⟩ := ref_inv hr.cells rv e2
    have hxy : x ≠ y := fun e => hne (hr.cells.nd i j x ex (e ▸ ey))
    refine wpAny_bind (m := holding _ _) (wpAny_holding ?_)
    refine wpAny_bind (wpAny_pure (wpAny_bind (wpAny_holding (wpAny_pure (wpAny_bind (wpAny_holding (wpAny_pure ?_)))))))
    unfold newFields
    refine wpAny_newObj_type (wpAny_bind (wpAny_standAt (wpAny_bind (wpAny_holding ?_)))) (by show 3 ≤ sizeLine + 2; rw [sizeLine_eq]; lia)
    have k := Keeps.push (h := s.heap) { cls := .type "slice", data := .fields #[.none, .none, .none] }
    refine wp_setSlice (s := { s with heap := s.heap.push { cls := .type "slice", data := .fields #[.none, .none, .none] } }) (k _ _ hox) ⟨_, k _ _ hoy, rfl, n2, rfl⟩ hxy (Heap.IsSliceOf.new s.heap .none .none .none) (by rw [List.size_toArray, List.size_toArray, zx.length, zy.length]; exact hsz) fun h' n' ho' sb => ?_
    refine wp_release ?_
    have R1 := hr.keeps k
    have st1 := k.stb (ρ := ρ) .refl
    have st := R1.cells.stbSet (get_mem ex) sb.2
    have ro : RepO W h' ρ x (.list l') := ⟨ws, n', ho', zy.mono fun _ _ y => (y.stb st1).stb st⟩
    exact hp () h' ρ _ (R1.set ex sb.2 ro) ((Ext0.keeps k).trans (Ext0.set (get_mem ex) sb.2 ro)) trivial
  · exact hp.elim

end
end

section
open PySem PySem.W PyProof.Rows
set_option autoImplicit false
set_option maxRecDepth 100000
set_option tactic.hygienic false
section
variable {W : Wd} {d : Nat} {env : Env} {G : GG}

noncomputable def fmt1 : Str := Str.ofString "%s: %s"
theorem tup_str2 {h : Heap} {ρ : Rh} {v : Value} {x y : Str} (r : RepV h ρ v (.tup [.str x, .str y])) : ∃ a t u, v = .ref a ∧ IsTup h a #[.str x t, .str y u] := by
  obtain ⟨a, vs, rfl, ht, z⟩ := r
  cases z with
  | cons r1 z => cases z with
    | cons r2 z => cases z with
      | nil => obtain ⟨t, rfl⟩ := r1; obtain ⟨u, rfl⟩ := r2; exact ⟨a, t, u, rfl, ht⟩
theorem percent_bin {A : Around} {E : Value → Shared → Prop} {s : Shared} {X T : PySem.Str} {t : Tok} {Q : Value → Shared → Prop} {b : Addr} {its : Array Value} (ht : IsTup s.heap b its)
    (hm : Meets (Builtin.«str.__mod__» ⟨[.str X t, .ref b], []⟩) (fun _ R s => IsTup s.heap b its ∧ ∀ t' k, R (.ok (.ret (.str T t'))) { s with toks := k }))
    (h : ∀ t' k, Q (.str T t') { s with toks := k }) : wpAny (model W.prog W.w) A (binaryOp .Mod (.str X t) (.ref b)) Q E s := by
  have hT : s.TypeIs (.ref b) "tuple" := by
    obtain ⟨o, ho, hc, _⟩ := ht
    exact ⟨o, ho, hc⟩
  exact KPt.bin_left (T := "str") (U := "tuple") (op := .Mod) (by decide) (typeIs_str s X t) hT F.fills_str_mod KPt.fills_tuple F.slot_str_mod
    (call_meets F.slot_str_mod (typeIs_str s X t) F.entry_str_mod (F.args_str_mod_2 _ _) hm ⟨ht, fun t' k => ⟨(fun e => nomatch e), h t' k⟩⟩)
set_option maxHeartbeats 4000000 in
theorem meets_fmt1 (x y : Str) (t t1 t2 : Tok) (b : Addr) (hx : x.length ≤ 1000000) (hy : y.length ≤ 1000000) :
    Meets (Builtin.«str.__mod__» ⟨[.str ⟨#[37, 115, 58, 32, 37, 115]⟩ t, .ref b], []⟩) (fun _ R s => IsTup s.heap b #[.str x t1, .str y t2] ∧ ∀ t' k, R (.ok (.ret (.str (x ++ ⟨#[58, 32]⟩ ++ y) t'))) { s with toks := k }) := by
  kpt_run
end
end

section
open PySem PySem.W PyProof.Rows PySem.Spec PySem.SeqAt PySem.Calls
set_option autoImplicit false
set_option linter.unusedVariables false
set_option maxRecDepth 100000
set_option tactic.hygienic false
noncomputable def namesOk (names : List (Str × NameKind)) (ns : List String) : Bool := ns.all fun n => names.lookup (Str.ofString n) == some .local || (names.lookup (Str.ofString n) == some .cell && ((cellsFrom 0 names []).map (·.1)).contains (Str.ofString n))
theorem lookup_isSome {α : Type} : ∀ {l : List (Str × α)} {x : Str}, (l.map (·.1)).contains x = true → (l.lookup x).isSome = true
  | [], x, h => by simp at h
  | (y, c) :: l, x, h => by
    rw [List.lookup_cons]
    cases e : x == y with
    | true => rfl
    | false =>
      refine lookup_isSome ?_
      simp only [List.map_cons, List.contains_cons, e, Bool.false_or] at h
      exact h
theorem names_ok {names : List (Str × NameKind)} {ns : List String} (h : namesOk names ns = true) : ∀ k, ∀ n ∈ ns, names.lookup (Str.ofString n) = some .local ∨ (names.lookup (Str.ofString n) = some .cell ∧ ((cellsFrom k names []).lookup (Str.ofString n)).isSome = true) := by
  intro k n hn
  have z := List.all_eq_true.mp h n hn
  simp only [Bool.or_eq_true, beq_iff_eq, Bool.and_eq_true] at z
  rcases z with z | ⟨z1, z2⟩
  · exact .inl z
  · refine .inr ⟨z1, lookup_isSome ?_⟩
    rw [cellsFrom_names names k 0 [] [] rfl]
    exact z2
theorem zip_names : ∀ {ns : List String} {args : List PV}, args.length = ns.length → (ns.zip args).map (·.1) = ns
  | [], [], _ => rfl
  | n :: ns, a :: as, h => by simp only [List.zip_cons_cons, List.map_cons]; rw [zip_names (by simpa using h)]
theorem zip_rel {W : Wd} {h : Heap} {ρ : Rh} : ∀ {ns : List String} {vs : List Value} {l : List PV}, All2 (RepV h ρ) vs l → BRel h ρ ((ns.map Str.ofString).zip vs) (ns.zip l)
  | [], _, _, _ => .nil
  | n :: ns, _, _, .nil => .nil
  | n :: ns, _, _, .cons r z => .cons ⟨rfl, r⟩ (zip_rel (W := W) z)
theorem BindOk.mk {W : Wd} {fd : FuncData} {pb : List PV → List (String × PV) → Option (List (String × PV))}
    (h : ∀ (s : Shared) (ρ : Rh) (args : List Value) (kw : List (Str × Value)) (pargs : List PV) (pkw : List (String × PV)) (l : List (String × PV)), (∀ b o, W.h₀.get? b = some o → s.heap.get? b = some o) → All2 (RepV s.heap ρ) args pargs → KwRel s.heap ρ kw pkw → pb pargs pkw = some l → ∃ binds, BindsTo s fd ⟨args, kw⟩ binds ∧ BRel s.heap ρ binds l) :
    BindOk W fd (fun a k H => (pb a k).map fun l => (l, H)) := by
  intro M A s ρ H args kw pargs pkw l H' Q E hc ra rk e hq
  obtain ⟨l', e1, e2⟩ := Option.map_eq_some_iff.mp e
  cases e2
  obtain ⟨binds, hb, hr⟩ := h s ρ args kw pargs pkw l hc.base ra rk e1
  exact hb M A E Q (hq binds s.heap ρ s.toks hc Keeps.refl .refl rfl (Nat.le_refl _) hr)
noncomputable def pb0 (ns : List String) : List PV → List (String × PV) → Option (List (String × PV)) := fun a k => if a.length = ns.length ∧ k = [] then some (ns.zip a) else none
noncomputable def pbOf (pb : List PV → List (String × PV) → Option (List (String × PV))) : List PV → List (String × PV) → List PO → Option (List (String × PV) × List PO) := fun a k H => (pb a k).map fun l => (l, H)
set_option tactic.hygienic true in
theorem bind_pos {W : Wd} {fd : FuncData} {ns : List String} (h : ∀ args : List Value, args.length = ns.length → bindArgs fd ⟨args, []⟩ = pure ((ns.map Str.ofString).zip args)) : BindOk W fd (pbOf (pb0 ns)) := by
  refine BindOk.mk fun s ρ args kw pargs pkw l hb ra rk e => ?_
  unfold pb0 at e
  split at e
  · rename_i hh
    obtain ⟨h1, rfl⟩ := hh
    cases e
    cases rk
    exact ⟨_, BindsTo.of_eq (h args (by rw [ra.length]; exact h1)), zip_rel (W := W) ra⟩
  · cases e
theorem len_one {α : Type} : ∀ {l : List α}, l.length = 1 → ∃ a, l = [a]
  | [a], _ => ⟨a, rfl⟩
theorem len_cons {α : Type} {n : Nat} : ∀ {l : List α}, l.length = n + 1 → ∃ a r, l = a :: r ∧ r.length = n
  | a :: r, h => ⟨a, r, rfl, Nat.succ.inj h⟩
theorem bp1 {fd : FuncData} {n : String} (h : ∀ a : Value, bindArgs fd ⟨[a], []⟩ = pure [(Str.ofString n, a)]) : ∀ args : List Value, args.length = [n].length → bindArgs fd ⟨args, []⟩ = pure (([n].map Str.ofString).zip args) := by
  intro args e
  obtain ⟨a, rfl⟩ := len_one e
  exact h a
theorem bp2 {fd : FuncData} {n m : String} (h : ∀ a b : Value, bindArgs fd ⟨[a, b], []⟩ = pure [(Str.ofString n, a), (Str.ofString m, b)]) : ∀ args : List Value, args.length = [n, m].length → bindArgs fd ⟨args, []⟩ = pure (([n, m].map Str.ofString).zip args) := by
  intro args e
  obtain ⟨a, r, rfl, e1⟩ := len_cons e
  obtain ⟨b, rfl⟩ := len_one e1
  exact h a b
theorem bp3 {fd : FuncData} {n m l : String} (h : ∀ a b c : Value, bindArgs fd ⟨[a, b, c], []⟩ = pure [(Str.ofString n, a), (Str.ofString m, b), (Str.ofString l, c)]) : ∀ args : List Value, args.length = [n, m, l].length → bindArgs fd ⟨args, []⟩ = pure (([n, m, l].map Str.ofString).zip args) := by
  intro args e
  obtain ⟨a, r1, rfl, e1⟩ := len_cons e
  obtain ⟨b, r2, rfl, e2⟩ := len_cons e1
  obtain ⟨c, rfl⟩ := len_one e2
  exact h a b c
set_option tactic.hygienic true in
theorem pb0_names {ns : List String} {a : List PV} {kw : List (String × PV)} {H : List PO} {l : List (String × PV)} {H' : List PO} (h : pbOf (pb0 ns) a kw H = some (l, H')) : l.map (·.1) = ns := by
  unfold pbOf pb0 at h
  obtain ⟨l', e1, e2⟩ := Option.map_eq_some_iff.mp h
  cases e2
  split at e1
  · rename_i hh; cases e1; exact zip_names hh.1
  · cases e1
section
variable {W : Wd} {d : Nat} {env : Env} {G : GG}
theorem ex_mk {α : Type} {A B : α → Prop} {p : α} (h : A p) (l : B p) : ∃ p, A p ∧ B p := ⟨p, h, l⟩
theorem st_swap2 {ts : List Expr} {k : Nat} {tp : Pos} {e : Expr} {pos : Pos} {p : PM PV} {n m : String} (hs : swapsWithSole [.Tuple ts k tp] e pos.line env = pure false) (hw : swappedStores [.Tuple ts k tp] e env = pure (some [Str.ofString n, Str.ofString m])) (h : SE W d env e p) (hn : Stores env n) (hm : Stores env m) :
    SSt W d env (.Assign [.Tuple ts k tp] e pos) (PM.bind p fun v => PM.bind (pswap [n, m] v) fun _ => PM.pure .next) := st_swap h (by intro x hx; simp only [List.mem_cons, List.not_mem_nil, or_false] at hx; rcases hx with rfl | rfl <;> assumption) hs hw
theorem st_swap3 {ts : List Expr} {k : Nat} {tp : Pos} {e : Expr} {pos : Pos} {p : PM PV} {n m l : String} (hs : swapsWithSole [.Tuple ts k tp] e pos.line env = pure false) (hw : swappedStores [.Tuple ts k tp] e env = pure (some [Str.ofString n, Str.ofString m, Str.ofString l])) (h : SE W d env e p) (hn : Stores env n) (hm : Stores env m) (hl : Stores env l) :
    SSt W d env (.Assign [.Tuple ts k tp] e pos) (PM.bind p fun v => PM.bind (pswap [n, m, l] v) fun _ => PM.pure .next) := st_swap h (by intro x hx; simp only [List.mem_cons, List.not_mem_nil, or_false] at hx; rcases hx with rfl | rfl | rfl <;> assumption) hs hw
theorem st_iadd {n : String} {e : Expr} {npos pos : Pos} {p : PM PV} (h : SE W d env e p) (hst : Stores env n) (hd : (Str.ofString n == ("__debug__" : Str)) = false := by decide) (hc : (Str.ofString n == ("__classdict__" : Str)) = false := by decide) :
    SSt W d env (.AugAssign (.Name (Str.ofString n) npos) .Add e pos) (PM.bind (pget n) fun a => PM.bind p fun b => PM.bind (pIAdd a b) fun c => PM.bind (pput n c) fun _ => PM.pure .next) := st_aug (fun _ _ _ _ _ x y => o_iadd x y) h hst hd hc
theorem st_idiv {n : String} {e : Expr} {npos pos : Pos} {p : PM PV} (h : SE W d env e p) (hst : Stores env n) (hd : (Str.ofString n == ("__debug__" : Str)) = false := by decide) (hc : (Str.ofString n == ("__classdict__" : Str)) = false := by decide) :
    SSt W d env (.AugAssign (.Name (Str.ofString n) npos) .FloorDiv e pos) (PM.bind (pget n) fun a => PM.bind p fun b => PM.bind (pDiv a b) fun c => PM.bind (pput n c) fun _ => PM.pure .next) := st_aug (fun _ _ _ _ _ x y => o_idiv x y) h hst hd hc
theorem e_name {n : String} {pos : Pos} (hd : (Str.ofString n == ("__debug__" : Str)) = false) (hc : (Str.ofString n == ("__classdict__" : Str)) = false) : SE W d env (.Name (Str.ofString n) pos) (pget n) := fun G => s_name hd hc
theorem e_glob {x : Str} {pos : Pos} {a : Addr} (hx : env.kindOf x = some .globalImplicit) (e : nsIn W.K mainGlobals x = some (some (.ref a))) (hd : (x == ("__debug__" : Str)) = false) : SE W d env (.Name x pos) (PM.pure (.glob a)) := fun G => s_gname hx e (fun _ _ => rfl) hd
theorem e_gstr {x s : Str} {t : Tok} {pos : Pos} (hx : env.kindOf x = some .globalImplicit) (e : nsIn W.K mainGlobals x = some (some (.str s t))) (hd : (x == ("__debug__" : Str)) = false) : SE W d env (.Name x pos) (PM.pure (.str s)) := fun G => s_gname hx e (fun _ _ => ⟨_, rfl⟩) hd
theorem e_btype {x : Str} {pos : Pos} {T : String} (hx : env.kindOf x = some .globalImplicit) (e : nsIn W.K mainGlobals x = some none) (eb : bootBuiltins x = some (.type T)) (hn : x ≠ "__name__") (hd : (x == ("__debug__" : Str)) = false) : SE W d env (.Name x pos) (PM.pure (.typ T)) := fun G => s_bname hx e eb (fun _ _ => rfl) hn hd
theorem e_tstr {pos : Pos} (hx : env.kindOf "str" = some .globalImplicit) (e : nsIn W.K mainGlobals "str" = some none) : SE W d env (.Name "str" pos) (PM.pure (.typ "str")) := e_btype hx e (by decide +kernel) (by decide) (by decide)
theorem e_tlist {pos : Pos} (hx : env.kindOf "list" = some .globalImplicit) (e : nsIn W.K mainGlobals "list" = some none) : SE W d env (.Name "list" pos) (PM.pure (.typ "list")) := e_btype hx e (by decide +kernel) (by decide) (by decide)
theorem e_none {k : Nat} {pos : Pos} : SE W d env (.Constant .none k pos) (PM.pure .none) := fun _ => s_cnone
theorem e_bool {b : Bool} {k : Nat} {pos : Pos} : SE W d env (.Constant (.bool b) k pos) (PM.pure (.bool b)) := fun _ => s_cbool
theorem e_int {i : Int} {k : Nat} {pos : Pos} : SE W d env (.Constant (.int i) k pos) (PM.pure (.int i)) := fun _ => s_cint
theorem e_str {x : Str} {k : Nat} {pos : Pos} : SE W d env (.Constant (.str x) k pos) (PM.pure (.str x)) := fun _ => s_cstr
theorem s_lits3 {x y z : Str} {k1 k2 k3 : Nat} {p1 p2 p3 lp pos : Pos} {i : Expr} {q : PM PV} (hi : SE W d env i q) (hs : ∀ o x, subscripted i false o x = operate [o, x] (getItem o x)) :
    SE W d env (.Subscript (.List [.Constant (.str x) k1 p1, .Constant (.str y) k2 p2, .Constant (.str z) k3 p3] lp) i pos) (PM.bind (palloc (.list [.lit x, .lit y, .lit z])) fun a => PM.bind q fun b => pitem a b) := by
  have h := s_item (W := W) (d := d) (env := env) (pos := pos) (s_list (pos := lp) (ss_cons (s_clit (x := x) (k := k1) (pos := p1)) (ss_cons (s_clit (x := y) (k := k2) (pos := p2)) (ss_cons (s_clit (x := z) (k := k3) (pos := p3)) ss_nil rfl) rfl) rfl)) hi hs
  have e : (PM.bind (PM.bind (PM.pure (.lit x)) fun a => PM.bind (PM.bind (PM.pure (.lit y)) fun a => PM.bind (PM.bind (PM.pure (.lit z)) fun a => PM.bind (PM.pure []) fun l => PM.pure (a :: l)) fun l => PM.pure (a :: l)) fun l => PM.pure (a :: l)) fun l => pguard (l.length ≤ sizeLine) (palloc (.list l))) = palloc (.list [.lit x, .lit y, .lit z]) := by
    funext σ
    show pguard (3 ≤ sizeLine) (palloc (.list [.lit x, .lit y, .lit z])) σ = _
    unfold pguard
    rw [if_pos (by rw [sizeLine_eq]; lia)]
  rw [e] at h
  exact h
noncomputable def pFmt1 : PV → PV → PM PV
  | .str f, .tup [.str x, .str y] => pguard (f = Str.ofString "%s: %s" ∧ x.length ≤ 1000000 ∧ y.length ≤ 1000000) (PM.pure (.str (x ++ ⟨#[58, 32]⟩ ++ y)))
  | _, _ => pfail
set_option tactic.hygienic true in
theorem pFmt1_inv {s : Shared} {ρ : Rh} {σ : PS} {Q : Value → Shared → Prop} {E : Value → Shared → Prop} {pa pb : PV} (hp : Post0 W env rrV s ρ Q E (pFmt1 pa pb σ)) :
    ∃ x y, pa = .str (Str.ofString "%s: %s") ∧ pb = .tup [.str x, .str y] ∧ x.length ≤ 1000000 ∧ y.length ≤ 1000000 ∧ Post0 W env rrV s ρ Q E (PM.pure (.str (x ++ ⟨#[58, 32]⟩ ++ y)) σ) := by
  unfold pFmt1 at hp
  split at hp
  · rename_i f x y
    obtain ⟨⟨h0, h1, h2⟩, hp⟩ := pguard_inv hp
    exact ⟨x, y, by rw [h0], rfl, h1, h2, hp⟩
  · exact hp.elim
theorem fmt1_eq : Str.ofString "%s: %s" = ⟨#[37, 115, 58, 32, 37, 115]⟩ := by decide +kernel
theorem o_fmt1 {a b : Value} {pa pb : PV} (ga : ∀ h ρ, G.P h ρ → RepV h ρ a pa) (gb : ∀ h ρ, G.P h ρ → RepV h ρ b pb) : Sim W d env rrV G (binaryOp .Mod a b) (pFmt1 pa pb) := by
  refine Sim.of0 ?_
  intro A s ρ σ Q E ha hr hg hp
  have ra := ga _ _ hg
  have rb := gb _ _ hg
  obtain ⟨x, y, rfl, rfl, h1, h2, hp⟩ := pFmt1_inv hp
  obtain ⟨t, rfl⟩ := ra
  obtain ⟨c, t1, t2, rfl, ht⟩ := tup_str2 rb
  rw [fmt1_eq]
  exact percent_bin ht (meets_fmt1 x y t t1 t2 c h1 h2) fun t' k => post_val hr hp ⟨_, rfl⟩ _
theorem s_fmt1 {l r : Expr} {pos : Pos} {p q : PM PV} (hl : SE W d env l p) (hr : SE W d env r q) : SE W d env (.BinOp l .Mod r pos) (PM.bind p fun a => PM.bind q fun b => pFmt1 a b) := s_bin (fun _ _ _ _ _ x y => o_fmt1 x y) hl hr
theorem f_more {d' : Nat} {f : Value} {spec : FSpec} (h : FHolds W d f spec) (l : d ≤ d') : FHolds W d' f spec := h.more l
theorem c_strI1 {spec : FSpec} {fa : Addr} (hs : findIn W.K (.ref W.C) "__str__" = some (some (.ref fa))) (hf : typeIn W.K (.ref fa) = some (.type "function")) (F : FHolds W (d - 1) (.ref fa) spec) (hd : 0 < d) : CallOk W d env (.type "str") (fStrI spec) := by
  obtain ⟨n, rfl⟩ : ∃ n, d = n + 1 := ⟨d - 1, by lia⟩
  exact c_strI (by simpa using F) hs hf
theorem m_lower {o : Expr} {apos pos : Pos} {es : List Expr} {p : PM PV} {q : PM (List PV)} (ho : SE W d env o p) (hes : SEs W d env es q) (hn : noStar es = true) (hb : ∀ t, attributeBase o "lower" env t = t) (hf : methodCallForm (es.length + 0) (backTo pos (starEach es env)) [] = true) (hpos : (apos.endLine == pos.line) = true) :
    SE W d env (.Call (.Attribute o "lower" apos) es [] pos) (PM.bind p fun a => pstr a fun x => PM.bind q fun l => mLower x l) := s_lower ho hes hn hb hf hpos
theorem m_strip {o : Expr} {apos pos : Pos} {es : List Expr} {p : PM PV} {q : PM (List PV)} (ho : SE W d env o p) (hes : SEs W d env es q) (hn : noStar es = true) (hb : ∀ t, attributeBase o "strip" env t = t) (hf : methodCallForm (es.length + 0) (backTo pos (starEach es env)) [] = true) (hpos : (apos.endLine == pos.line) = true) :
    SE W d env (.Call (.Attribute o "strip" apos) es [] pos) (PM.bind p fun a => pstr a fun x => PM.bind q fun l => mStrip x l) := s_strip ho hes hn hb hf hpos
theorem m_partition {o : Expr} {apos pos : Pos} {es : List Expr} {p : PM PV} {q : PM (List PV)} (ho : SE W d env o p) (hes : SEs W d env es q) (hn : noStar es = true) (hb : ∀ t, attributeBase o "partition" env t = t) (hf : methodCallForm (es.length + 0) (backTo pos (starEach es env)) [] = true) (hpos : (apos.endLine == pos.line) = true) :
    SE W d env (.Call (.Attribute o "partition" apos) es [] pos) (PM.bind p fun a => pstr a fun x => PM.bind q fun l => mPartition x l) := s_partition ho hes hn hb hf hpos
theorem m_split {o : Expr} {apos pos : Pos} {es : List Expr} {p : PM PV} {q : PM (List PV)} (ho : SE W d env o p) (hes : SEs W d env es q) (hn : noStar es = true) (hb : ∀ t, attributeBase o "split" env t = t) (hf : methodCallForm (es.length + 0) (backTo pos (starEach es env)) [] = true) (hpos : (apos.endLine == pos.line) = true) :
    SE W d env (.Call (.Attribute o "split" apos) es [] pos) (PM.bind p fun a => pstr a fun x => PM.bind q fun l => mSplit x l) := s_split ho hes hn hb hf hpos
theorem m_join {o : Expr} {apos pos : Pos} {es : List Expr} {p : PM PV} {q : PM (List PV)} (ho : SE W d env o p) (hes : SEs W d env es q) (hn : noStar es = true) (hb : ∀ t, attributeBase o "join" env t = t) (hf : methodCallForm (es.length + 0) (backTo pos (starEach es env)) [] = true) (hpos : (apos.endLine == pos.line) = true) :
    SE W d env (.Call (.Attribute o "join" apos) es [] pos) (PM.bind p fun a => pstr a fun x => PM.bind q fun l => mJoin x l) := s_join ho hes hn hb hf hpos
theorem m_index {o : Expr} {apos pos : Pos} {es : List Expr} {p : PM PV} {q : PM (List PV)} (ho : SE W d env o p) (hes : SEs W d env es q) (hn : noStar es = true) (hb : ∀ t, attributeBase o "index" env t = t) (hf : methodCallForm (es.length + 0) (backTo pos (starEach es env)) [] = true) (hpos : (apos.endLine == pos.line) = true) :
    SE W d env (.Call (.Attribute o "index" apos) es [] pos) (PM.bind p fun a => pstr a fun x => PM.bind q fun l => mIndex x l) := s_index ho hes hn hb hf hpos
theorem ml_append {o : Expr} {apos pos : Pos} {es : List Expr} {p : PM PV} {q : PM (List PV)} (ho : SE W d env o p) (hes : SEs W d env es q) (hn : noStar es = true) (hb : ∀ t, attributeBase o "append" env t = t) (hf : methodCallForm (es.length + 0) (backTo pos (starEach es env)) [] = true) (hpos : (apos.endLine == pos.line) = true) :
    SE W d env (.Call (.Attribute o "append" apos) es [] pos) (PM.bind p fun a => match a with
      | .ref i => plist i fun _ => PM.bind q fun l => mAppend i l
      | _ => pfail) := s_append ho hes hn hb hf hpos
theorem ml_index {o : Expr} {apos pos : Pos} {es : List Expr} {p : PM PV} {q : PM (List PV)} (ho : SE W d env o p) (hes : SEs W d env es q) (hn : noStar es = true) (hb : ∀ t, attributeBase o "index" env t = t) (hf : methodCallForm (es.length + 0) (backTo pos (starEach es env)) [] = true) (hpos : (apos.endLine == pos.line) = true) :
    SE W d env (.Call (.Attribute o "index" apos) es [] pos) (PM.bind p fun a => match a with
      | .ref i => plist i fun _ => PM.bind q fun l => mLIndex i l
      | _ => pfail) := s_lindex ho hes hn hb hf hpos
theorem b_len {px pos : Pos} {es : List Expr} {q : PM (List PV)} (hx : env.kindOf "len" = some .globalImplicit) (e : nsIn W.K mainGlobals "len" = some none) (hes : SEs W d env es q) (hn : noStar es = true) : SE W d env (.Call (.Name "len" px) es [] pos) (PM.bind q fLen) := s_bcall hx e (by decide +kernel) hes hn c_len
theorem b_sum {px pos : Pos} {es : List Expr} {q : PM (List PV)} (hx : env.kindOf "sum" = some .globalImplicit) (e : nsIn W.K mainGlobals "sum" = some none) (hes : SEs W d env es q) (hn : noStar es = true) : SE W d env (.Call (.Name "sum" px) es [] pos) (PM.bind q fSum) := s_bcall hx e (by decide +kernel) hes hn c_sum
theorem b_chr {px pos : Pos} {es : List Expr} {q : PM (List PV)} (hx : env.kindOf "chr" = some .globalImplicit) (e : nsIn W.K mainGlobals "chr" = some none) (hes : SEs W d env es q) (hn : noStar es = true) : SE W d env (.Call (.Name "chr" px) es [] pos) (PM.bind q fChr) := s_bcall hx e (by decide +kernel) hes hn c_chr
theorem b_int {px pos : Pos} {es : List Expr} {q : PM (List PV)} (hx : env.kindOf "int" = some .globalImplicit) (e : nsIn W.K mainGlobals "int" = some none) (hes : SEs W d env es q) (hn : noStar es = true) : SE W d env (.Call (.Name "int" px) es [] pos) (PM.bind q fInt) := s_tcall hx e (by decide +kernel) hes hn c_int
theorem b_type {px pos : Pos} {es : List Expr} {q : PM (List PV)} (hx : env.kindOf "type" = some .globalImplicit) (e : nsIn W.K mainGlobals "type" = some none) (hes : SEs W d env es q) (hn : noStar es = true) : SE W d env (.Call (.Name "type" px) es [] pos) (PM.bind q fType) := s_tcall hx e (by decide +kernel) hes hn c_type
noncomputable def fStrB (spec : FSpec) : List PV → PM PV
  | [.int n] => fStr [.int n]
  | [.ref i] => fStrI spec [.ref i]
  | _ => pfail
theorem b_strB {px pos : Pos} {es : List Expr} {q : PM (List PV)} {spec : FSpec} {fa : Addr} (hx : env.kindOf "str" = some .globalImplicit) (e : nsIn W.K mainGlobals "str" = some none) (hes : SEs W d env es q) (hn : noStar es = true) (hs : findIn W.K (.ref W.C) "__str__" = some (some (.ref fa))) (hf : typeIn W.K (.ref fa) = some (.type "function")) (F : FHolds W (d - 1) (.ref fa) spec) (hd : 0 < d) : SE W d env (.Call (.Name "str" px) es [] pos) (PM.bind q (fStrB spec)) := by
  refine s_tcall (T := "str") hx e (by decide +kernel) hes hn fun G vs l gl => ?_
  unfold fStrB
  split
  · exact c_str G vs _ gl
  · exact c_strI1 hs hf F hd G vs _ gl
  · exact s_fail
noncomputable def pNeg : PV → PM PV
  | .int n => PM.pure (.int (-n))
  | _ => pfail
theorem s_neg {e : Expr} {pos : Pos} {p : PM PV} (h : SE W d env e p) : SE W d env (.UnaryOp .USub e pos) (PM.bind p pNeg) := by
  intro G
  show Sim W d env rrV G (eval e env >>= fun v => standAt pos >>= fun _ => holding [v] (unaryOp .USub v)) _
  refine Sim.bind (h G) fun a pa => Sim.stand (Sim.holding (Sim.of0 ?_))
  intro A s ρ σ Q E ha hr hg hp
  have ra : RepV s.heap ρ a pa := hg.2
  unfold pNeg at hp
  split at hp
  · obtain ⟨t, rfl⟩ := ra
    exact PyProof.Rows.neg_int (post_val hr hp ⟨_, rfl⟩ _)
  · exact hp.elim
end
end

section
open PySem PySem.W PyProof.Rows PySem.Spec PySem.SeqAt PySem.Calls
set_option autoImplicit false
set_option linter.unusedVariables false
set_option maxRecDepth 100000
set_option tactic.hygienic false
structure ListAt (W : Wd) (a : Addr) (l : List PV) : Prop where
  ex : ∃ vs : List Value, W.h₀.IsList a vs.toArray ∧ All2 (fun v p => ∀ (h : Heap) (ρ : Rh), RepV h ρ v p) vs l
noncomputable def pcutg (a : Addr) (l : List PV) (o x y z : PV) : PM PV := match o with
  | .glob b => pguard (b = a) (ppart x fun lo => ppart y fun hi => ppart z fun st => pguard (st ≠ some 0) (pguard (l.length ≤ sizeLine) (palloc (.list (ppick l lo hi st)))))
  | _ => pfail
section
variable {W : Wd} {d : Nat} {env : Env} {G : GG}
theorem o_cutg {ad : Addr} {l : List PV} (hL : ListAt W ad l) {value : Expr} {lo hi st : Option Expr} {sp pos : Pos} {o a b c : Value} {po pa pb pc : PV} (go : ∀ h ρ, G.P h ρ → RepV h ρ o po) (ga : ∀ h ρ, G.P h ρ → RepV h ρ a pa) (gb : ∀ h ρ, G.P h ρ → RepV h ρ b pb) (gc : ∀ h ρ, G.P h ρ → RepV h ρ c pc) :
    Sim W d env rrV G (holding [o] (newFields "slice" [a, b, c]) >>= fun i => standAt pos >>= fun _ => subscriptTail value (.Slice lo hi st sp) o i) (pcutg ad l po pa pb pc) := by
  refine Sim.of0 ?_
  intro A s ρ σ Q E ha hr hg hp
  have ro := go _ _ hg
  have ra := ga _ _ hg
  have rb := gb _ _ hg
  have rc := gc _ _ hg
  unfold pcutg at hp
  cases po with
  | glob ga =>
    dsimp only at hp
    obtain ⟨hga, hp2⟩ := pguard_inv hp
    clear hp
    subst hga
    obtain ⟨x, u1, eu1, em1, p1, hp⟩ := ppart_inv ra hp2
    obtain ⟨y, u2, eu2, em2, p2, hp⟩ := ppart_inv rb hp
    obtain ⟨z, u3, eu3, em3, p3, hp⟩ := ppart_inv rc hp
    obtain ⟨h0, hp⟩ := pguard_inv hp
    unfold newFields
    refine wpAny_bind (wpAny_holding (wpAny_newObj_type (wpAny_bind (wpAny_standAt ?_)) (by show 3 ≤ sizeLine + 2; rw [sizeLine_eq]; lia)))
    have hs : ∀ (v w : Value), subscripted (.Slice lo hi st sp) false v w = operate (match st with | none => [w, v] | some _ => [v, w]) (getItem v w) := by
      intro v w; cases st <;> rfl
    have k := Keeps.push (h := s.heap) { cls := .type "slice", data := .fields #[a, b, c] }
    have R1 := hr.keeps k
    have hp1 := hp.trans (s₁ := { s with heap := s.heap.push { cls := .type "slice", data := .fields #[a, b, c] } }) rfl (Ext0.keeps k)
    have hsl := Heap.IsSliceOf.new s.heap a b c
    obtain ⟨hsz, hp1⟩ := pguard_inv hp1
    obtain ⟨vs, hl0, zz⟩ := hL.ex
    have zz : All2 (RepV (s.heap.push { cls := .type "slice", data := .fields #[a, b, c] }) ρ) vs l := zz.mono fun _ _ h => h _ _
    have hl : (s.heap.push { cls := .type "slice", data := .fields #[a, b, c] }).IsList ga vs.toArray := by
      obtain ⟨ob, e1, e2⟩ := hl0
      exact ⟨ob, R1.cells.base _ _ e1, e2⟩
    have ho : o = .ref ga := ro
    subst ho
    refine tail_any (s := { s with heap := s.heap.push { cls := .type "slice", data := .fields #[a, b, c] } }) hl.typeIs slot_list_getitem.lookup (wpAny_getItem_list_slice hl hsl p1 p2 p3 h0 ?_ (by rw [List.size_toArray, zz.length]; exact hsz)) (hs _ _)
    have e : slicePick vs.toArray x y z = (ppick vs x y z).toArray := by
      unfold slicePick ppick
      simp
    rw [e]
    refine post_list R1 hp1 ?_ s.toks
    unfold ppick
    rw [zz.length]
    exact zz.filterMap _
  | _ => exact hp.elim
theorem s_cutg {ad : Addr} {l : List PV} (hL : ListAt W ad l) {v : Expr} {lo hi st : Option Expr} {sp pos : Pos} {p a b c : PM PV} (hv : SE W d env v p) (ha : SP W d env lo a) (hb : SP W d env hi b) (hc : SP W d env st c) :
    SE W d env (.Subscript v (.Slice lo hi st sp) pos) (PM.bind p fun o => PM.bind a fun x => PM.bind b fun y => PM.bind c fun z => pcutg ad l o x y z) := by
  intro G
  rw [eval_Subscript, arm_Slice]
  refine Sim.bind (hv G) fun o po => ?_
  refine Sim.eq (t' := holding [o] (valueOrNone (evalOpt lo env)) >>= fun l => holding [o] (holding [l] (valueOrNone (evalOpt hi env))) >>= fun u => holding [o] (holding [l, u] (valueOrNone (evalOpt st env))) >>= fun s =>
    holding [o] (newFields "slice" [l, u, s]) >>= fun i => standAt pos >>= fun _ => subscriptTail v (.Slice lo hi st sp) o i) ?_ ?_ rfl
  · refine Sim.bind (Sim.holding (ha _)) fun l pl => Sim.bind (Sim.holding (Sim.holding (hb _))) fun u pu => Sim.bind (Sim.holding (Sim.holding (hc _))) fun s ps => ?_
    exact o_cutg hL (fun _ _ g => g.1.1.1.2) (fun _ _ g => g.1.1.2) (fun _ _ g => g.1.2) (fun _ _ g => g.2)
  · have hb : ∀ {α β : Type} (m : Sem α) (f : α → Sem β), holding [o] (m >>= f) = (holding [o] m >>= fun a => holding [o] (f a)) := fun m f => PySem.holding_bind [o] m f
    simp only [hb, bind_assoc]
    rfl
end
end

section
open PySem PySem.W PyProof.Rows PySem.Spec PySem.SeqAt PySem.Calls
set_option autoImplicit false
set_option linter.unusedVariables false
set_option maxRecDepth 100000
set_option tactic.hygienic false
noncomputable def PW {α : Type} (p : PM α) (σ : PS) (Q : α → PS → Prop) : Prop := ∃ a σ', p σ = some (.ok a, σ') ∧ Q a σ'
section
variable {α β : Type} {σ : PS}
theorem PW.mono {p : PM α} {Q Q' : α → PS → Prop} (h : PW p σ Q) (k : ∀ a σ', Q a σ' → Q' a σ') : PW p σ Q' := by
  obtain ⟨a, σ', e, q⟩ := h; exact ⟨a, σ', e, k _ _ q⟩
theorem PW.bind {p : PM α} {q : α → PM β} {Q : β → PS → Prop} (h : PW p σ fun a σ' => PW (q a) σ' Q) : PW (PM.bind p q) σ Q := by
  obtain ⟨a, σ', e, b, σ'', e2, hq⟩ := h
  exact ⟨b, σ'', by unfold PM.bind; rw [e]; exact e2, hq⟩
theorem PW.pure {a : α} {Q : α → PS → Prop} (h : Q a σ) : PW (PM.pure a) σ Q := ⟨a, σ, rfl, h⟩
theorem PW.get {n : String} {v : PV} {Q : PV → PS → Prop} (e : σ.loc.lookup n = some v) (h : Q v σ) : PW (pget n) σ Q := ⟨v, σ, by unfold pget; rw [e], h⟩
theorem PW.put {n : String} {v : PV} {Q : Unit → PS → Prop} (h : Q () { σ with loc := lset n v σ.loc }) : PW (pput n v) σ Q := ⟨(), _, rfl, h⟩
theorem PW.guard {c : Prop} [Decidable c] {p : PM α} {Q : α → PS → Prop} (hc : c) (h : PW p σ Q) : PW (pguard c p) σ Q := by
  unfold pguard; rw [if_pos hc]; exact h
theorem PW.alloc {o : PO} {Q : PV → PS → Prop} (h : Q (.ref σ.H.length) { σ with H := σ.H ++ [o] }) : PW (palloc o) σ Q := ⟨_, _, rfl, h⟩
theorem PW.plist {i : Nat} {f : List PV → PM α} {l : List PV} {Q : α → PS → Prop} (e : σ.H[i]? = some (.list l)) (h : PW (f l) σ Q) : PW (plist i f) σ Q := by
  obtain ⟨a, σ', e2, q⟩ := h
  exact ⟨a, σ', by unfold Mine.plist; rw [e]; exact e2, q⟩
theorem PW.inst {i k : Nat} {fs : List (String × PV)} {f : Nat → List (String × PV) → PM α} {Q : α → PS → Prop} (e : σ.H[i]? = some (.inst k)) (e2 : σ.H[k]? = some (.dct fs)) (h : PW (f k fs) σ Q) : PW (pinst i f) σ Q := by
  obtain ⟨a, σ', e3, q⟩ := h
  exact ⟨a, σ', by unfold pinst; rw [e]; dsimp only; rw [e2]; exact e3, q⟩
theorem PW.opt {γ : Type} {o : Option γ} {c : γ} {f : γ → PM α} {Q : α → PS → Prop} (e : o = some c) (h : PW (f c) σ Q) : PW (popt o f) σ Q := by subst e; exact h
theorem PW.noexc {p : PM α} {Q : α → PS → Prop} (h : PW p σ Q) : PW (pnoexc p) σ Q := by
  obtain ⟨a, σ', e, q⟩ := h
  exact ⟨a, σ', by unfold pnoexc; rw [e], q⟩
theorem PW.call {spec : FSpec} {a : List PV} {kw : List (String × PV)} {v : PV} {H' : List PO} {Q : PV → PS → Prop} (e : spec a kw σ.H = some (.ok v, H')) (h : Q v { σ with H := H' }) : PW (pcall spec a kw) σ Q := ⟨v, _, by unfold pcall; rw [e], h⟩
theorem PW.ite {c : PM Bool} {p q : PM α} {Q : α → PS → Prop} (h : PW c σ fun b σ' => PW (if b = true then p else q) σ' Q) : PW (pite c p q) σ Q := PW.bind h
theorem PW.seq {p q : PM PF} {Q : PF → PS → Prop} (h : PW p σ fun f σ' => match f with
    | .next => PW q σ' Q
    | f => Q f σ') : PW (pseq p q) σ Q := by
  refine PW.bind (h.mono fun f σ' z => ?_)
  cases f with
  | next => exact z
  | _ => exact PW.pure z
theorem PW.eq {p : PM α} {r : Option (Res α × PS)} {a : α} {σ' : PS} (h : PW p σ fun b τ => b = a ∧ τ = σ') : p σ = some (.ok a, σ') := by
  obtain ⟨b, τ, e, rfl, rfl⟩ := h; exact e
theorem PW.fspec {pb : List PV → List (String × PV) → List PO → Option (List (String × PV) × List PO)} {p : PM PF} {a : List PV} {kw : List (String × PV)} {H H₁ H' : List PO} {l : List (String × PV)} {v : PV} (e : pb a kw H = some (l, H₁))
    (h : PW p ⟨l, H₁⟩ fun f σ' => σ'.H = H' ∧ (f = .ret v ∨ (f = .next ∧ v = .none))) : fspec pb p a kw H = some (.ok v, H') := by
  obtain ⟨f, σ', e2, rfl, h⟩ := h
  unfold Mine.fspec
  rw [e]
  dsimp only
  rw [e2]
  rcases h with rfl | ⟨rfl, rfl⟩ <;> rfl
theorem PW.forList {i : Nat} {l : List PV} {asg : PV → PM Unit} {b : PM PF} {Q : PF → PS → Prop} (I : Nat → PS → Prop) (hl : ∀ j σ, I j σ → σ.H[i]? = some (.list l))
    (step : ∀ j p σ, l[j]? = some p → I j σ → PW (asg p) σ fun _ σ₁ => PW b σ₁ fun f σ₂ => match f with
      | .next => I (j + 1) σ₂
      | .cont => I (j + 1) σ₂
      | .brk => Q .next σ₂
      | .ret v => Q (.ret v) σ₂)
    (fin : ∀ σ, I l.length σ → Q .next σ) : ∀ (N j : Nat) (σ : PS), l.length < N + j → j ≤ l.length → I j σ → PW (pfor (nxList i) asg b N j) σ Q := by
  intro N
  induction N with
  | zero => intro j σ h1 h2; lia
  | succ N ih =>
    intro j σ h1 h2 hI
    have hn : nxList i j σ.H = some l[j]? := by unfold nxList; rw [hl j σ hI]
    by_cases hj : j < l.length
    · have e : l[j]? = some l[j] := List.getElem?_eq_getElem hj
      rw [e] at hn
      have z : PW (PM.bind (pnoexc (asg l[j])) (fun _ => PM.bind (pnoexc b) fun r => pturn r (pfor (nxList i) asg b N (j + 1)))) σ Q := by
        refine PW.bind (PW.noexc ((step j _ σ e hI).mono fun _ σ₁ h₁ => PW.bind (PW.noexc (h₁.mono fun f σ₂ h₂ => ?_))))
        cases f with
        | next => exact ih (j + 1) σ₂ (by lia) (by lia) h₂
        | cont => exact ih (j + 1) σ₂ (by lia) (by lia) h₂
        | brk => exact PW.pure h₂
        | ret v => exact PW.pure h₂
      obtain ⟨a, σ', e3, q⟩ := z
      exact ⟨a, σ', by unfold pfor; rw [hn]; exact e3, q⟩
    · have : j = l.length := by lia
      subst this
      have e : l[l.length]? = none := List.getElem?_eq_none (Nat.le_refl _)
      rw [e] at hn
      exact ⟨.next, σ, by unfold pfor; rw [hn], fin σ hI⟩
theorem PW.forRange {a n : Int} {asg : PV → PM Unit} {b : PM PF} {Q : PF → PS → Prop} (I : Nat → PS → Prop)
    (step : ∀ (j : Nat) σ, (j : Int) < n → I j σ → PW (asg (.int (a + j))) σ fun _ σ₁ => PW b σ₁ fun f σ₂ => match f with
      | .next => I (j + 1) σ₂
      | .cont => I (j + 1) σ₂
      | .brk => Q .next σ₂
      | .ret v => Q (.ret v) σ₂)
    (fin : ∀ (j : Nat) σ, ¬ ((j : Int) < n) → I j σ → Q .next σ) : ∀ (N j : Nat) (σ : PS), 0 < N → n < N + j → I j σ → PW (pfor (nxRange a n) asg b N j) σ Q := by
  intro N
  induction N with
  | zero =>
    intro j σ h0 h1 hI
    lia
  | succ N ih =>
    intro j σ h0 h1 hI
    by_cases hj : (j : Int) < n
    · have hn : nxRange a n j σ.H = some (some (.int (a + j))) := by unfold nxRange; rw [if_pos hj]
      have z : PW (PM.bind (pnoexc (asg (.int (a + j)))) (fun _ => PM.bind (pnoexc b) fun r => pturn r (pfor (nxRange a n) asg b N (j + 1)))) σ Q := by
        refine PW.bind (PW.noexc ((step j σ hj hI).mono fun _ σ₁ h₁ => PW.bind (PW.noexc (h₁.mono fun f σ₂ h₂ => ?_))))
        cases f with
        | next => exact ih (j + 1) σ₂ (by lia) (by lia) h₂
        | cont => exact ih (j + 1) σ₂ (by lia) (by lia) h₂
        | brk => exact PW.pure h₂
        | ret v => exact PW.pure h₂
      obtain ⟨x, σ', e3, q⟩ := z
      exact ⟨x, σ', by unfold pfor; rw [hn]; exact e3, q⟩
    · have hn : nxRange a n j σ.H = some none := by unfold nxRange; rw [if_neg hj]
      exact ⟨.next, σ, by unfold pfor; rw [hn], fin j σ hj hI⟩

theorem PW.compL {nx : NX} {asg : PV → PM Unit} {test : PM Bool} {elt : PM PV} {acc : Nat} {Q : Unit → PS → Prop} (I : Nat → List PV → PS → Prop) (len : Nat) (src : Nat → PV)
    (hnx : ∀ j out σ, I j out σ → nx j σ.H = some (if j < len then some (src j) else none)) (hacc : ∀ j out σ, I j out σ → σ.H[acc]? = some (.list out))
    (step : ∀ j out σ, j < len → I j out σ → PW (asg (src j)) σ fun _ σ₁ => PW test σ₁ fun t σ₂ => if t = true then PW elt σ₂ fun v σ₃ => σ₃.H[acc]? = some (.list out) ∧ I (j + 1) (out ++ [v]) { σ₃ with H := σ₃.H.set acc (.list (out ++ [v])) } else I (j + 1) out σ₂)
    (hsz : ∀ j out σ, I j out σ → out.length ≤ j) (hlen : len ≤ 1000)
    (fin : ∀ out σ, I len out σ → Q () σ) : ∀ (N j : Nat) (out : List PV) (σ : PS), len < N + j → j ≤ len → I j out σ → PW (pcompL nx asg test elt acc N j) σ Q := by
  intro N
  induction N with
  | zero => intro j out σ h1 h2; lia
  | succ N ih =>
    intro j out σ h1 h2 hI
    have hn := hnx j out σ hI
    by_cases hj : j < len
    · rw [if_pos hj] at hn
      have z : PW (PM.bind (pnoexc (asg (src j))) (fun _ => PM.bind (pnoexc test) fun t => if t = true then PM.bind (pnoexc elt) fun v => PM.bind (mAppend acc [v]) fun _ => pcompL nx asg test elt acc N (j + 1) else pcompL nx asg test elt acc N (j + 1))) σ Q := by
        refine PW.bind (PW.noexc ((step j out σ hj hI).mono fun _ σ₁ h₁ => PW.bind (PW.noexc (h₁.mono fun t σ₂ h₂ => ?_))))
        cases t with
        | false => exact ih (j + 1) out σ₂ (by lia) (by lia) h₂
        | true =>
          refine PW.bind (PW.noexc (PW.mono h₂ fun v σ₃ h₃ => PW.bind ?_))
          unfold mAppend
          refine PW.plist h₃.1 (PW.guard (by rw [sizeLine_eq]; have := hsz _ _ _ h₃.2; rw [List.length_append] at this; simp at this; lia) ⟨.none, _, rfl, ?_⟩)
          exact ih (j + 1) _ _ (by lia) (by lia) h₃.2
      obtain ⟨a, σ', e3, q⟩ := z
      exact ⟨a, σ', by unfold pcompL; rw [hn]; exact e3, q⟩
    · rw [if_neg hj] at hn
      have : j = len := by lia
      subst this
      exact ⟨(), σ, by unfold pcompL; rw [hn], fin out σ hI⟩
theorem PW.comp {capt : List String} {p : PM NX} {asg : PV → PM Unit} {test : PM Bool} {elt : PM PV} {N : Nat} {Q : PV → PS → Prop}
    (h : PW p σ fun nx σ₁ => PW (pcompL nx asg test elt σ₁.H.length N 0) (pinner capt { σ₁ with H := σ₁.H ++ [.list []] }) fun _ σ' => ∃ loc, pback capt σ'.loc σ₁.loc = some loc ∧ Q (.ref σ₁.H.length) ⟨loc, σ'.H⟩) : PW (pcomp capt p asg test elt N) σ Q := by
  unfold pcomp
  refine PW.bind (PW.noexc (h.mono fun nx σ₁ h₁ => ?_))
  obtain ⟨_, σ', e, loc, e2, q⟩ := h₁
  refine ⟨.ref σ₁.H.length, ⟨loc, σ'.H⟩, ?_, q⟩
  dsimp only
  rw [e]
  dsimp only
  rw [e2]
end
end

section
open PySem PySem.W PyProof.Rows PySem.Spec PySem.SeqAt PySem.Calls
set_option autoImplicit false
set_option linter.unusedVariables false
set_option maxRecDepth 100000
set_option tactic.hygienic false
section
variable {α β : Type} {σ : PS}
theorem lset_self {n : String} {v : PV} {l : List (String × PV)} : (lset n v l).lookup n = some v := by rw [lset_lookup, if_pos rfl]
theorem lset_ne {n m : String} {v w : PV} {l : List (String × PV)} (h : m ≠ n) (e : l.lookup m = some w) : (lset n v l).lookup m = some w := by rw [lset_lookup, if_neg h]; exact e
theorem PW.ifT {c : Bool} {p q : PM α} {Q : α → PS → Prop} (e : c = true) (h : PW p σ Q) : PW (if c = true then p else q) σ Q := by subst e; exact h
theorem PW.ifF {c : Bool} {p q : PM α} {Q : α → PS → Prop} (e : c = false) (h : PW q σ Q) : PW (if c = true then p else q) σ Q := by subst e; exact h
theorem PW.str {x : Str} {f : Str → PM α} {Q : α → PS → Prop} (h : PW (f x) σ Q) : PW (pstr (.str x) f) σ Q := h
theorem PW.tup {l : List PV} {f : List PV → PM α} {Q : α → PS → Prop} (h : PW (f l) σ Q) : PW (ptup (.tup l) f) σ Q := h
theorem PW.lower {x : Str} {Q : PV → PS → Prop} (hx : x.length ≤ 5592405) (h : Q (.str (Txt.lower x)) σ) : PW (mLower x []) σ Q := PW.guard hx (PW.pure h)
theorem PW.eqS {x y : Str} {Q : PV → PS → Prop} (h : Q (.bool (x == y)) σ) : PW (pEq (.str x) (.str y)) σ Q := PW.pure h
theorem PW.neS {x y : Str} {Q : PV → PS → Prop} (h : Q (.bool (x != y)) σ) : PW (pNe (.str x) (.str y)) σ Q := PW.pure h
theorem PW.tB {b : Bool} {Q : Bool → PS → Prop} (h : Q b σ) : PW (ptruthy (.bool b)) σ Q := PW.pure h
theorem PW.searchN {P : Pats} {a : Addr} {x : Str} {Q : Bool → PS → Prop} (e : a = P.n) (hx : x.length < 2 ^ 62) (h : Q (hasN x) σ) : PW (pSearch P (.glob a) [.str x]) σ Q := by
  unfold pSearch; refine PW.guard hx ?_; rw [if_pos e]; exact PW.pure h
theorem PW.searchV {P : Pats} {a : Addr} {x : Str} {Q : Bool → PS → Prop} (n : a ≠ P.n) (e : a = P.v) (hx : x.length < 2 ^ 62) (h : Q (hasV x) σ) : PW (pSearch P (.glob a) [.str x]) σ Q := by
  unfold pSearch; refine PW.guard hx ?_; rw [if_neg n, if_pos e]; exact PW.pure h
theorem PW.nxL {i : Nat} {l : List PV} {Q : NX → PS → Prop} (e : σ.H[i]? = some (.list l)) (h : Q (nxList i) σ) : PW (pnxList (.ref i)) σ Q := PW.plist e (PW.pure h)
theorem PW.nxE {i : Nat} {l : List PV} {Q : NX → PS → Prop} (e : σ.H[i]? = some (.list l)) (h : Q (nxEnum i) σ) : PW (pnxEnum [.ref i]) σ Q := PW.plist e (PW.pure h)
theorem PW.nxR {n : Int} {Q : NX → PS → Prop} (e : n.natAbs < 2 ^ 62) (h : Q (nxRange 0 n) σ) : PW (pnxRange [.int n]) σ Q := PW.guard e (PW.pure h)
theorem PW.typS {x : Str} {Q : PV → PS → Prop} (h : Q (.typ "str") σ) : PW (fType [.str x]) σ Q := PW.pure h
theorem PW.typL {i : Nat} {l : List PV} {Q : PV → PS → Prop} (e : σ.H[i]? = some (.list l)) (h : Q (.typ "list") σ) : PW (fType [.ref i]) σ Q := PW.plist e (PW.pure h)
theorem PW.isnN {p : PV} {Q : PV → PS → Prop} (h : Q (.bool (!p.isNone)) σ) : PW (pIsNot p .none) σ Q := PW.pure h
theorem PW.isT {x y : String} {Q : PV → PS → Prop} (h : Q (.bool (x == y)) σ) : PW (pIs (.typ x) (.typ y)) σ Q := PW.pure h
theorem PW.isnT {x y : String} {Q : PV → PS → Prop} (h : Q (.bool (!(x == y))) σ) : PW (pIsNot (.typ x) (.typ y)) σ Q := PW.pure h
theorem PW.put2 {n m : String} {v w : PV} {Q : Unit → PS → Prop} (h : Q () { σ with loc := lset m w (lset n v σ.loc) }) : PW (passign [pput n, pput m] [v, w]) σ Q := PW.bind (PW.put (PW.bind (PW.put (PW.pure h))))
theorem PW.field {i k l : Nat} {Q : PV → PS → Prop} (e : σ.H[i]? = some (.inst k)) (e2 : σ.H[k]? = some (.dct [("_headers", .ref l)])) (h : Q (.ref l) σ) : PW (pfield "_headers" (.ref i)) σ Q := PW.inst e e2 (PW.pure h)
theorem PW.append {i : Nat} {l : List PV} {v : PV} {Q : PV → PS → Prop} (e : σ.H[i]? = some (.list l)) (hl : l.length ≤ sizeLine) (h : Q .none { σ with H := σ.H.set i (.list (l ++ [v])) }) : PW (mAppend i [v]) σ Q := PW.plist e (PW.guard hl ⟨_, _, rfl, h⟩)
end
set_option tactic.hygienic true in
theorem if_inv {α : Type} {c : Prop} [Decidable c] {a r : α} (h : (if c then some a else none) = some r) : c ∧ a = r := by
  split at h
  · rename_i hc; exact ⟨hc, Option.some.inj h⟩
  · cases h
noncomputable def row (r : Str × Str) : PV := .tup [.str r.1, .str r.2]
noncomputable def unrow : List PV → Option (List (Str × Str))
  | [] => some []
  | .tup [.str a, .str b] :: r => (unrow r).map ((a, b) :: ·)
  | _ => none
theorem unrow_row : ∀ rows : List (Str × Str), unrow (rows.map row) = some rows
  | [] => rfl
  | (a, b) :: r => by
    show (unrow (r.map row)).map _ = _
    rw [unrow_row r]; rfl
set_option tactic.hygienic true in
theorem unrow_inv : ∀ {xs : List PV} {rows : List (Str × Str)}, unrow xs = some rows → xs = rows.map row
  | [], rows, h => by cases h; rfl
  | x :: xs, rows, h => by
    unfold unrow at h
    split at h
    · rename_i e; cases e
    · rename_i a b r e
      obtain ⟨y, e1, rfl⟩ := Option.map_eq_some_iff.mp h
      cases e
      rw [unrow_inv e1]; rfl
    · cases h
structure Tab (H : List PO) (i l : Nat) (rows : List (Str × Str)) : Prop where
  ex : ∃ k, H[i]? = some (.inst k) ∧ H[k]? = some (.dct [("_headers", .ref l)]) ∧ H[l]? = some (.list (rows.map row))
noncomputable def getTab (H : List PO) (i : Nat) : Option (Nat × List (Str × Str)) := match H[i]? with
  | some (.inst k) => (match H[k]? with
    | some (.dct [(n, .ref l)]) => if n = "_headers" then (match H[l]? with
      | some (.list xs) => (unrow xs).map fun r => (l, r)
      | _ => none) else none
    | _ => none)
  | _ => none
theorem Tab.get {H : List PO} {i l : Nat} {rows : List (Str × Str)} (t : Tab H i l rows) : getTab H i = some (l, rows) := by
  obtain ⟨k, e1, e2, e3⟩ := t.ex
  unfold getTab
  rw [e1]; dsimp only; rw [e2]; dsimp only
  rw [if_pos rfl, e3]; dsimp only
  rw [unrow_row]; rfl
set_option tactic.hygienic true in
theorem Tab.of {H : List PO} {i l : Nat} {rows : List (Str × Str)} (h : getTab H i = some (l, rows)) : Tab H i l rows := by
  unfold getTab at h
  split at h
  · rename_i k e1
    split at h
    · rename_i n l' e2
      split at h
      · rename_i hn
        split at h
        · rename_i xs e3
          obtain ⟨r, e4, e5⟩ := Option.map_eq_some_iff.mp h
          cases e5
          rw [unrow_inv e4] at e3
          subst hn
          exact ⟨k, e1, e2, e3⟩
        · cases h
      · cases h
    · cases h
  · cases h
noncomputable def rowOk (r : Str × Str) : Bool := decide (r.1.length ≤ 10000) && decide (r.2.length ≤ 10000)
noncomputable def rowsOk (rows : List (Str × Str)) : Bool := decide (rows.length ≤ 50) && rows.all rowOk
theorem rowsOk.len {rows : List (Str × Str)} (h : rowsOk rows = true) : rows.length ≤ 50 := by
  unfold rowsOk at h
  simp only [Bool.and_eq_true, decide_eq_true_eq] at h
  exact h.1
theorem rowsOk.row {rows : List (Str × Str)} (h : rowsOk rows = true) {r : Str × Str} (m : r ∈ rows) : r.1.length ≤ 10000 ∧ r.2.length ≤ 10000 := by
  unfold rowsOk at h
  simp only [Bool.and_eq_true, List.all_eq_true] at h
  have := h.2 r m
  unfold rowOk at this
  simpa [Bool.and_eq_true, decide_eq_true_eq] using this
theorem row_at {rows : List (Str × Str)} {j : Nat} {p : PV} (h : (rows.map row)[j]? = some p) : ∃ r, rows[j]? = some r ∧ p = row r := by
  rw [List.getElem?_map] at h
  obtain ⟨r, e, rfl⟩ := Option.map_eq_some_iff.mp h
  exact ⟨r, e, rfl⟩
noncomputable def findRow (rows : List (Str × Str)) (n : Str) : Option (Str × Str) := rows.find? fun r => Txt.lower r.1 == Txt.lower n
noncomputable def getD' (rows : List (Str × Str)) (n : Str) (d : PV) : PV := match findRow rows n with
  | some r => .str r.2
  | none => d
noncomputable def kept (rows : List (Str × Str)) (n : Str) : List (Str × Str) := rows.filter fun r => Txt.lower r.1 != Txt.lower n
noncomputable def lineOf (r : Str × Str) : Str := r.1 ++ ⟨#[58, 32]⟩ ++ r.2
noncomputable def crlf : Str := Str.ofString "\r\n"
noncomputable def strSpec : FSpec
  | [.ref i], [], H => (match getTab H i with
    | some (l, rows) => if rowsOk rows = true ∧ JoinOk crlf (rows.map lineOf ++ [Str.ofString "", Str.ofString ""]) = true then some (.ok (.str (Txt.join crlf (rows.map lineOf ++ [Str.ofString "", Str.ofString ""]))), H ++ [PO.list ((rows.map lineOf).map PV.str)] ++ [PO.list [PV.str (Str.ofString ""), PV.str (Str.ofString "")]] ++ [PO.list ((rows.map lineOf ++ [Str.ofString "", Str.ofString ""]).map PV.str)]) else none
    | none => none)
  | _, _, _ => none
noncomputable def initSpec : FSpec
  | [.ref i, .ref l], [], H => (match H[i]?, H[l]? with
    | some (.inst k), some (.list xs) => (match H[k]?, unrow xs with
      | some (.dct []), some rows => if rowsOk rows = true ∧ (rows.all fun r => !hasN r.1 && !hasV r.2) = true then some (.ok .none, H.set k (.dct [("_headers", .ref l)])) else none
      | _, _ => none)
    | _, _ => none)
  | _, _, _ => none
noncomputable def qdSpec : FSpec
  | [.str x], [], H => if x.length ≤ 100000 ∧ (norm x).length ≤ 100000 then some (.ok (.str (dots (norm x))), H) else none
  | _, _, _ => none
end

section
open PySem PySem.W PyProof.Rows PySem.Spec PySem.SeqAt PySem.Calls
set_option autoImplicit false
set_option linter.unusedVariables false
set_option maxRecDepth 100000
set_option tactic.hygienic false
end

section
open PySem PySem.W PyProof.Rows PySem.Spec PySem.SeqAt PySem.Calls
set_option autoImplicit false
set_option linter.unusedVariables false
set_option maxRecDepth 100000
set_option tactic.hygienic false
noncomputable def pexc {α : Type} : PM α := fun σ => some (.exc, σ)
section
variable {W : Wd} {d : Nat} {env : Env} {G : GG}
set_option tactic.hygienic true in
theorem st_raise {np cpos pos : Pos} {es : List Expr} {q : PM (List PV)} (hx : env.kindOf "ValueError" = some .globalImplicit) (e : nsIn W.K mainGlobals "ValueError" = some none) (hes : SEs W d env es q) (hn : noStar es = true) :
    SSt W d env (.Raise (some (.Call (.Name "ValueError" np) es [] cpos)) none pos) (PM.bind q fun l => pguard (l.length ≤ sizeLine) pexc) := by
  intro G A s ρ σ Q E ha hr hg hp
  refine wpAny_Raise_call PySem.F.excCall_ValueError PySem.F.excRaise_ValueError ha.handled (noStar_any hn) (s_bname (d := d) (G := GG.tt) (p := .typ "ValueError") hx e (by decide +kernel) (fun _ _ => rfl) (by decide) (by decide) A s ρ σ _ _ ha hr trivial ?_)
  intro f h' ρ' tk r1 e1 l1 rf
  cases rf
  refine ⟨rfl, sa_pos hes hn GG.tt (.type "ValueError") cpos A _ ρ' σ _ _ (ha.ext r1 e1 l1) r1 trivial ?_⟩
  unfold PM.bind at hp ⊢
  match hq : q σ, hp with
  | some (.ok l, σ₁), hp =>
    intro a h₂ ρ₂ tk₂ r2 e2 l2 ra
    obtain ⟨ra, rk⟩ := ra
    dsimp only at hp
    unfold pguard at hp
    split at hp
    · rename_i hl
      refine ⟨by cases a; cases rk; rfl, by rw [All2.length ra]; exact hl, fun h₃ e hm => ?_⟩
      obtain ⟨t, ht, htn, _⟩ := hm.there
      have ex := (e1.trans e2).trans (Ext0.keeps (W := W) (ρ := ρ₂) hm.keeps).toExt
      refine hp (.ref e) h₃ ρ₂ tk₂ (r2.keeps hm.keeps) ex l2 ⟨e, _, _, rfl, ?_, ht, rfl, rfl, .inl rfl⟩
      cases z : s.heap.get? e with
      | none => rfl
      | some o =>
        obtain ⟨o', z'⟩ := (e1.trans e2).there e o z
        rw [hm.new] at z'; cases z'
    · exact hp.elim
  | some (.exc, σ₁), hp => exact fun y h₂ ρ₂ tk₂ r2 e2 l2 re => hp y h₂ ρ₂ tk₂ r2 (e1.trans e2) l2 (re.back e1.there)

noncomputable def ptry (p : PM PF) (r : PV) (q : PM PF) : PM PF := fun σ => match p σ with
  | some (.exc, σ') => some (.ok (.ret r), σ')
  | some (.ok .next, σ') => q σ'
  | x => x
theorem try_body {tb rest : List Stmt} {np cp rp hpos pos : Pos} {c : Const} {k : Nat} {p q : PM PF} {r : PV} (hfr : env.frame = some env.locals) (hx : env.kindOf "ValueError" = some .globalImplicit) (e : nsIn W.K mainGlobals "ValueError" = some none)
    (hc : ∀ (A : Around) (s : Shared) (Q : Value → Shared → Prop) (E : Value → Shared → Prop), (∀ v tk, (∀ h ρ, RepV h ρ v r) → s.toks ≤ tk → Q v { s with toks := tk }) → wpAny (model W.prog W.w) A (eval (.Constant c k cp) env) Q E s)
    (hb : SB W d env tb p) (hr : SB W d env rest q) : SBf W d env (.Try tb [.ExceptHandler (some (.Name "ValueError" np)) none [.Return (some (.Constant c k cp)) rp] hpos] [] [] pos :: rest) (ptry p r q) := by
  intro A s ρ σ Q E hA ha hrel hp
  obtain ⟨outer, hfrs⟩ := hA
  refine wpAny_execs_cons (wpAny_Try_except (hb GG.tt A s ρ σ _ _ ha hrel trivial ?_))
  unfold ptry at hp
  match hq : p σ, hp with
  | none, hp => exact hp.elim
  | some (.ok f, σ₁), hp =>
    intro f' h' ρ' tk r1 e1 l rf
    have ha' := ha.ext r1 e1 l
    rcases RepF.inv rf with ⟨rfl, rfl⟩ | ⟨rfl, rfl⟩ | ⟨rfl, rfl⟩ | ⟨v, q', rfl, rfl, rv⟩
    · exact wpAny_execs_nil (hr GG.tt A _ ρ' σ₁ Q E ha' r1 trivial (Post.trans (s := s) rfl e1 hp))
    · exact hp .brk h' ρ' tk r1 e1 l trivial
    · exact hp .cont h' ρ' tk r1 e1 l trivial
    · exact hp (.ret v) h' ρ' tk r1 e1 l rv
  | some (.exc, σ₁), hp =>
    intro x h' ρ' tk r1 e1 l qx
    have ha' := ha.ext r1 e1 l
    obtain ⟨fl, hfl, hff⟩ := ha'.fr
    rw [hfrs] at hfl
    cases hfl
    have hb0 : ∀ b o, W.h₀.get? b = some o → s.heap.get? b = some o := hrel.cells.base
    refine note_exc (W := W) (hs := s.heap) (s := { s with heap := h', toks := tk }) hfrs hff hfr qx (fun b o e => e1.there b o e) fun h₁ t₁ g₁ => ?_
    obtain ⟨ee, rfl⟩ : ∃ ee, x = .ref ee := by obtain ⟨ee, _, _, _, _, _, rfl, _⟩ := t₁.ex; exact ⟨ee, rfl⟩
    have R1 := r1.gone g₁ hff.out hb0 hff.ff
    have hty : ({ s with heap := h₁, toks := tk } : Shared).TypeIs (.ref ee) "ValueError" := by
      obtain ⟨e', oe, vs, T, oT, ts, y1, y2, y3, y4, _⟩ := t₁.ex
      cases y1; exact ⟨oe, y3, y4⟩
    refine wpAny_handleBy_builtin (X := "ValueError") (T := "ValueError") (b := true) PySem.F.excRaise_ValueError.isExc (by kernel_rfl) (by rw [isSubtype_type]; kernel_rfl)
      (Calls.Name_function_global R1.eok.kind hx (Calls.loadGlobal_builtin (mg := W.mg) (mb := W.mb) (by rw [R1.eok.glob]; exact W.g.keeps R1.base) (mg_none W.X W.g e) (by rw [R1.eok.blt]; exact W.b.keeps R1.base) ((W.bi _ (by decide)).trans (by decide +kernel)) ⟨rfl, hty, ?_⟩) (by decide))
    rw [if_pos rfl]
    refine flight_exc (s := { s with heap := h₁, toks := tk }) t₁ ((env :: outer).filterMap (·.frame)) fun h₂ g₂ => ?_
    have g12 := g₁.trans g₂
    have R2 := r1.gone g12 hff.out hb0 hff.ff
    have e2 : Ext W (fp env) s.heap ρ h₂ ρ' := e1.gone (base := W.h₀) g12 (fun b o e => ⟨o, e⟩) hff.ff
    refine wpAny_execs_cons ?_
    rw [exec_Return_some]
    refine wpAny_bind (wpAny_standAt (wpAny_bind (hc _ _ _ _ fun v tk' hv htk => wpAny_pure ?_)))
    exact hp (.ret v) h₂ ρ' tk' R2 e2 ⟨Nat.le_trans l.1 htk, Nat.lt_of_lt_of_le l.2 htk⟩ (hv _ _)
theorem try_true {k : Nat} {cp : Pos} : ∀ (A : Around) (s : Shared) (Q : Value → Shared → Prop) (E : Value → Shared → Prop), (∀ v tk, (∀ h ρ, RepV h ρ v (.bool true)) → s.toks ≤ tk → Q v { s with toks := tk }) → wpAny (model W.prog W.w) A (eval (.Constant (.bool true) k cp) env) Q E s :=
  fun _ s _ _ h => wpAny_pure (h (.bool true) s.toks (fun _ _ => rfl) (Nat.le_refl _))
end
end

section
open PySem PySem.W PyProof.Rows PySem.Spec PySem.SeqAt PySem.Calls
set_option autoImplicit false
set_option linter.unusedVariables false
set_option linter.unusedSectionVars false
set_option maxRecDepth 100000
set_option maxHeartbeats 4000000
set_option tactic.hygienic false
noncomputable def pbConv : List PV → List (String × PV) → Option (List (String × PV))
  | [x, y], [(n, z)] => if n = "name" then some [("self", x), ("value", y), ("name", z)] else none
  | _, _ => none
noncomputable def pbGet : List PV → List (String × PV) → Option (List (String × PV))
  | [x, y], [] => some [("self", x), ("name", y), ("default", .none)]
  | [x, y, z], [] => some [("self", x), ("name", y), ("default", z)]
  | _, _ => none
noncomputable def pbInit : List PV → List (String × PV) → Option (List (String × PV))
  | [x, y], [] => some [("self", x), ("headers", y)]
  | _, _ => none
theorem three_inv {h : Heap} {ρ : Rh} {vs : List Value} {p q r : PV} (z : All2 (RepV h ρ) vs [p, q, r]) : ∃ v w x, vs = [v, w, x] ∧ RepV h ρ v p ∧ RepV h ρ w q ∧ RepV h ρ x r := by
  cases z with
  | cons r1 z => obtain ⟨w, x, rfl, r2, r3⟩ := two_inv z; exact ⟨_, w, x, rfl, r1, r2, r3⟩
theorem PW.itemT {σ : PS} {l : List PV} {k : Int} {p : PV} {Q : PV → PS → Prop} (e : pplace l k = some p) (hk : k.natAbs < 2 ^ 62) (h : Q p σ) : PW (pitem (.tup l) (.int k)) σ Q := PW.opt e (PW.guard hk (PW.pure h))
theorem PW.itemL {σ : PS} {i : Nat} {l : List PV} {k : Int} {p : PV} {Q : PV → PS → Prop} (e0 : σ.H[i]? = some (.list l)) (e : pplace l k = some p) (hk : k.natAbs < 2 ^ 62) (h : Q p σ) : PW (pitem (.ref i) (.int k)) σ Q := PW.plist e0 (PW.opt e (PW.guard hk (PW.pure h)))
theorem PW.itemS {σ : PS} {x : Str} {k : Int} {c : Nat} {Q : PV → PS → Prop} (e : (seqIndex? k x.length).bind (x.cps[·]?) = some c) (hk : k.natAbs < 2 ^ 62) (h : Q (.str ⟨#[c]⟩) σ) : PW (pitem (.str x) (.int k)) σ Q := PW.opt e (PW.guard hk (PW.pure h))
theorem PW.allset {σ : PS} {i j : Nat} {l l' : List PV} {Q : Unit → PS → Prop} (e1 : σ.H[i]? = some (.list l)) (e2 : σ.H[j]? = some (.list l')) (hne : i ≠ j) (hsz : l.length + l'.length ≤ sizeLine) (h : Q () { σ with H := σ.H.set i (.list l') }) : PW (pallset (.ref i) (.ref j)) σ Q :=
  PW.plist e1 (PW.plist e2 (PW.guard ⟨hne, hsz⟩ ⟨_, _, rfl, h⟩))
theorem PW.fmt1 {σ : PS} {x y : Str} {Q : PV → PS → Prop} (hx : x.length ≤ 1000000 ∧ y.length ≤ 1000000) (h : Q (.str (lineOf (x, y))) σ) : PW (pFmt1 (.str (Str.ofString "%s: %s")) (.tup [.str x, .str y])) σ Q := PW.guard ⟨rfl, hx.1, hx.2⟩ (PW.pure h)
theorem PW.addL {σ : PS} {i j : Nat} {l k : List PV} {Q : PV → PS → Prop} (e1 : σ.H[i]? = some (.list l)) (e2 : σ.H[j]? = some (.list k)) (hsz : l.length + k.length ≤ sizeLine) (h : Q (.ref σ.H.length) { σ with H := σ.H ++ [.list (l ++ k)] }) : PW (pAdd (.ref i) (.ref j)) σ Q := PW.plist e1 (PW.plist e2 (PW.guard hsz (PW.alloc h)))
theorem PW.join {σ : PS} {x : Str} {i : Nat} {l : List PV} {xs : List Str} {Q : PV → PS → Prop} (e : σ.H[i]? = some (.list l)) (e2 : pstrs l = some xs) (hj : JoinOk x xs = true) (h : Q (.str (Txt.join x xs)) σ) : PW (mJoin x [.ref i]) σ Q := PW.plist e (PW.opt e2 (PW.guard hj (PW.pure h)))
theorem pstrs_map : ∀ xs : List Str, pstrs (xs.map .str) = some xs
  | [] => rfl
  | x :: xs => by
    show (pstrs (xs.map .str)).map _ = _
    rw [pstrs_map xs]; rfl
theorem PW.sub1 {P : Pats} {σ : PS} {x : Str} {r : Str} {Q : PV → PS → Prop} (hr : r = ⟨#[46, 46]⟩) (hx : x.length ≤ 100000) (h : Q (.str (dots x)) σ) : PW (pSubst P P.one [.str r, .str x]) σ Q := PW.guard hx (by rw [if_pos ⟨rfl, hr⟩]; exact PW.pure h)
theorem PW.sub2 {P : Pats} {σ : PS} {x : Str} {r : Str} {Q : PV → PS → Prop} (hn : P.two ≠ P.one) (hr : r = ⟨#[13, 10]⟩) (hx : x.length ≤ 100000) (h : Q (.str (norm x)) σ) : PW (pSubst P P.two [.str r, .str x]) σ Q := PW.guard hx (by rw [if_neg fun z => hn z.1, if_pos ⟨rfl, hr⟩]; exact PW.pure h)
theorem dd_eq : Str.ofString ".." = ⟨#[46, 46]⟩ := by decide +kernel
theorem crlf_eq : Str.ofString "\r\n" = ⟨#[13, 10]⟩ := by decide +kernel
theorem sliceRange_one (n : Nat) : sliceRange 0 (n : Int) 1 = List.range n := by
  unfold sliceRange
  rw [if_pos (by decide)]
  have h1 : (if (0 : Int) < (n : Int) then ((n : Int) - 0 + 1 - 1) / 1 else 0).toNat = n := by
    split
    · simp
    · lia
  dsimp only
  rw [h1]
  have h2 : (fun (k : Nat) => ((0 : Int) + 1 * (k : Int)).toNat) = id := by
    funext k; simp
  rw [h2, List.map_id]
theorem range_take {α : Type} (l : List α) : ∀ n, n ≤ l.length → (List.range n).filterMap (l[·]?) = l.take n
  | 0, _ => rfl
  | n + 1, h => by
    rw [List.range_succ, List.filterMap_append, range_take l n (by lia), List.take_add_one]
    simp [List.getElem?_eq_getElem (show n < l.length by lia)]
theorem ppick_m2 {α : Type} (l : List α) (h : 2 ≤ l.length) : ppick l none (some (-2)) none = l.take (l.length - 2) := by
  unfold ppick
  have e : sliceBounds none (some (-2)) none l.length = (0, ((l.length - 2 : Nat) : Int), 1) := by
    unfold sliceBounds
    simp only [Option.getD_none]
    rw [if_pos (by decide), if_pos (by decide), if_pos (by decide)]
    congr 2
    lia
  rw [e]
  dsimp only
  rw [sliceRange_one, range_take l _ (by lia)]
theorem PW.strI {σ : PS} {spec : FSpec} {i k : Nat} {fs : List (String × PV)} {x : Str} {H' : List PO} {Q : PV → PS → Prop} (e1 : σ.H[i]? = some (.inst k)) (e2 : σ.H[k]? = some (.dct fs)) (e3 : spec [.ref i] [] σ.H = some (.ok (.str x), H')) (h : Q (.str x) { σ with H := H' }) : PW (fStrB spec [.ref i]) σ Q := by
  show PW (fStrI spec [.ref i]) σ Q
  unfold fStrI
  refine PW.inst e1 e2 ?_
  exact ⟨_, _, by dsimp only; rw [e3], h⟩
theorem PW.lit {σ : PS} {n : String} {y e : Str} {Q : Str × Str → PS → Prop} (h : σ.loc.lookup n = some (.lit e)) (q : Q (y, e) σ) : PW (plitOf n y) σ Q := ⟨_, _, by unfold plitOf; rw [h], q⟩
theorem PW.replace {σ : PS} {x y z : Str} {Q : PV → PS → Prop} (hg : x.length + (x.length + 1) * z.length ≤ 16777216) (h : Q (.str (Txt.replace x y z)) σ) : PW (mReplace x (y, z)) σ Q := PW.guard hg (PW.pure h)
open Builtin.Str in
theorem PW.split {σ : PS} {x y : Str} {Q : PV → PS → Prop} (h1 : (y.length == 0) = false) (h2 : x.length ≤ sizeLine) (h3 : (partsBetween x (occurrences x y 0 x.length (x.length + 1)) y.length).length ≤ sizeLine) (h : Q (.ref σ.H.length) { σ with H := σ.H ++ [.list ((Txt.split x y).map .str)] }) : PW (mSplit x [.str y]) σ Q := PW.guard ⟨h1, h2, h3⟩ (PW.alloc h)
theorem PW.cutL {σ : PS} {i : Nat} {l : List PV} {Q : PV → PS → Prop} (e : σ.H[i]? = some (.list l)) (hs : l.length ≤ sizeLine) (h2 : 2 ≤ l.length) (h : Q (.ref σ.H.length) { σ with H := σ.H ++ [.list (l.take (l.length - 2))] }) : PW (pcut (.ref i) .none (.int (-2)) .none) σ Q := by
  show PW (pguard ((none : Option Int) ≠ some 0) (Mine.plist i fun l => pguard (l.length ≤ sizeLine) (palloc (.list (ppick l none (some (-2)) none))))) σ Q
  refine PW.guard (by decide) (PW.plist e (PW.guard hs ?_))
  rw [ppick_m2 l h2]
  exact PW.alloc h
theorem PW.partition {σ : PS} {x y : Str} {Q : PV → PS → Prop} (h1 : (y.length == 0) = false) (h2 : x.length ≤ sizeLine) (h : Q (.tup [.str (Txt.partition x y).1, .str (Txt.partition x y).2.1, .str (Txt.partition x y).2.2]) σ) : PW (mPartition x [.str y]) σ Q := PW.guard ⟨h1, h2⟩ (PW.pure h)
theorem PW.cutT {σ : PS} {a b c : PV} {Q : PV → PS → Prop} (h : Q (.tup [a, c]) σ) : PW (pcut (.tup [a, b, c]) .none .none (.int 2)) σ Q := by
  have e : tpick [a, b, c] none none (some 2) = [a, c] := by
    show (List.range (Builtin.Slice.slicePlaces (Builtin.Slice.sliceAdjust none none 2 3).1 (Builtin.Slice.sliceAdjust none none 2 3).2 2)).filterMap (fun (k : Nat) => [a, b, c][((Builtin.Slice.sliceAdjust none none 2 3).1 + (k : Int) * 2).toNat]?) = [a, c]
    rw [show Builtin.Slice.slicePlaces (Builtin.Slice.sliceAdjust none none 2 3).1 (Builtin.Slice.sliceAdjust none none 2 3).2 2 = 2 by decide +kernel, show (Builtin.Slice.sliceAdjust none none 2 3).1 = 0 by decide +kernel]
    rfl
  show PW (pguard (some (2 : Int) ≠ some 0) (pguard ((tpick [a, b, c] none none (some 2)).length ≤ sizeLine) (PM.pure (.tup (tpick [a, b, c] none none (some 2)))))) σ Q
  rw [e]
  exact PW.guard (by decide) (PW.guard (by rw [sizeLine_eq]; simp) (PW.pure h))
noncomputable def cs : Str := Str.ofString ": "
noncomputable def partRow (l : Str) : Str × Str := ((Txt.partition l cs).1, (Txt.partition l cs).2.2)
noncomputable def sentTxt (x e : Str) : Str := dots (norm (Txt.replace x crlf e))
noncomputable def sentCut (x e : Str) : List Str := (Txt.split (sentTxt x e) crlf).take ((Txt.split (sentTxt x e) crlf).length - 2)
open Builtin.Str in
noncomputable abbrev sentOk (x e : Str) : Prop := x.length + (x.length + 1) * e.length ≤ 16777216 ∧ (Txt.replace x crlf e).length ≤ 100000 ∧ (norm (Txt.replace x crlf e)).length ≤ 100000 ∧ (sentTxt x e).length ≤ sizeLine ∧
  (partsBetween (sentTxt x e) (occurrences (sentTxt x e) crlf 0 (sentTxt x e).length ((sentTxt x e).length + 1)) crlf.length).length ≤ sizeLine ∧ (Txt.split (sentTxt x e) crlf).length ≤ sizeLine ∧ 2 ≤ (Txt.split (sentTxt x e) crlf).length ∧ (sentCut x e).length ≤ 50 ∧ ∀ l ∈ sentCut x e, l.length ≤ sizeLine
noncomputable def sentSpec : FSpec
  | [.ref i, .lit e], [], H => (match strSpec [.ref i] [] H with
    | some (.ok (.str x), H1) => if sentOk x e then clsSpec initSpec [.ref (H1.length + 2)] [] (H1 ++ [PO.list ((Txt.split (sentTxt x e) crlf).map PV.str)] ++ [PO.list ((sentCut x e).map PV.str)] ++ [PO.list (((sentCut x e).map partRow).map row)]) else none
    | _ => none)
  | _, _, _ => none
set_option tactic.hygienic true in
theorem ite_some {α : Type} {c : Prop} [Decidable c] {a : Option α} {r : α} (h : (if c then a else none) = some r) : c ∧ a = some r := by
  split at h
  · rename_i hc; exact ⟨hc, h⟩
  · cases h
noncomputable def PWE {α : Type} (p : PM α) (σ : PS) (Q : α → PS → Prop) (E : PS → Prop) : Prop := match p σ with
  | some (.ok a, σ') => Q a σ'
  | some (.exc, σ') => E σ'
  | none => False
section
variable {α β : Type} {σ : PS} {E : PS → Prop}
theorem PWE.of {p : PM α} {Q : α → PS → Prop} (h : PW p σ Q) : PWE p σ Q E := by
  obtain ⟨a, σ', e, q⟩ := h
  unfold PWE; rw [e]; exact q
theorem PWE.bind {p : PM α} {q : α → PM β} {Q : β → PS → Prop} (h : PWE p σ (fun a σ' => PWE (q a) σ' Q E) E) : PWE (PM.bind p q) σ Q E := by
  unfold PWE at h
  unfold PWE PM.bind
  match hq : p σ, h with
  | some (.ok a, σ'), h => exact h
  | some (.exc, σ'), h => exact h
theorem PWE.ite {c : PM Bool} {p q : PM α} {Q : α → PS → Prop} (h : PWE c σ (fun b σ' => PWE (if b = true then p else q) σ' Q E) E) : PWE (pite c p q) σ Q E := PWE.bind h
theorem PWE.mono {p : PM α} {Q Q' : α → PS → Prop} {E' : PS → Prop} (h : PWE p σ Q E) (k : ∀ a σ', Q a σ' → Q' a σ') (k' : ∀ σ', E σ' → E' σ') : PWE p σ Q' E' := by
  unfold PWE at h ⊢
  match hq : p σ, h with
  | some (.ok a, σ'), h => exact k _ _ h
  | some (.exc, σ'), h => exact k' _ h
theorem PWE.pure {a : α} {Q : α → PS → Prop} (h : Q a σ) : PWE (PM.pure a) σ Q E := h
theorem PWE.seq {p q : PM PF} {Q : PF → PS → Prop} (h : PWE p σ (fun f σ' => match f with
    | .next => PWE q σ' Q E
    | f => Q f σ') E) : PWE (pseq p q) σ Q E := by
  refine PWE.bind (h.mono (fun f σ' z => ?_) fun _ z => z)
  cases f with
  | next => exact z
  | _ => exact PWE.pure z
theorem PWE.exc {Q : α → PS → Prop} (h : E σ) : PWE pexc σ Q E := h
theorem PWE.guard {c : Prop} [Decidable c] {p : PM α} {Q : α → PS → Prop} (hc : c) (h : PWE p σ Q E) : PWE (pguard c p) σ Q E := by
  unfold pguard; rw [if_pos hc]; exact h
theorem PWE.inst {i k : Nat} {fs : List (String × PV)} {f : Nat → List (String × PV) → PM α} {Q : α → PS → Prop} (e : σ.H[i]? = some (.inst k)) (e2 : σ.H[k]? = some (.dct fs)) (h : PWE (f k fs) σ Q E) : PWE (pinst i f) σ Q E := by
  unfold PWE at h ⊢
  unfold pinst
  rw [e]; dsimp only; rw [e2]; exact h
theorem PWE.call {spec : FSpec} {a : List PV} {kw : List (String × PV)} {H' : List PO} {Q : PV → PS → Prop} (e : spec a kw σ.H = some (.exc, H')) (h : E { σ with H := H' }) : PWE (pcall spec a kw) σ Q E := by
  unfold PWE pcall; rw [e]; exact h
theorem PWE.ifT {c : Bool} {p q : PM α} {Q : α → PS → Prop} (e : c = true) (h : PWE p σ Q E) : PWE (if c = true then p else q) σ Q E := by subst e; exact h
theorem PWE.ifF {c : Bool} {p q : PM α} {Q : α → PS → Prop} (e : c = false) (h : PWE q σ Q E) : PWE (if c = true then p else q) σ Q E := by subst e; exact h
theorem PWE.plist {i : Nat} {f : List PV → PM α} {l : List PV} {Q : α → PS → Prop} (e : σ.H[i]? = some (.list l)) (h : PWE (f l) σ Q E) : PWE (Mine.plist i f) σ Q E := by
  unfold PWE at h ⊢
  unfold Mine.plist
  rw [e]; exact h
theorem PWE.fspecX {pb : List PV → List (String × PV) → List PO → Option (List (String × PV) × List PO)} {p : PM PF} {a : List PV} {kw : List (String × PV)} {H H₁ : List PO} {l : List (String × PV)} {r : Res PV × List PO} (e : pb a kw H = some (l, H₁))
    (h : PWE p ⟨l, H₁⟩ (fun f σ' => (∃ v, f = .ret v ∧ r = (.ok v, σ'.H)) ∨ (f = .next ∧ r = (.ok .none, σ'.H))) fun σ' => r = (.exc, σ'.H)) : Mine.fspecX pb p a kw H = some r := by
  unfold Mine.fspecX
  rw [e]
  dsimp only
  unfold PWE at h
  match hq : p ⟨l, H₁⟩, h with
  | some (.ok f, σ'), h =>
    rcases h with ⟨v, rfl, rfl⟩ | ⟨rfl, rfl⟩ <;> rfl
  | some (.exc, σ'), h => rw [h]
theorem PW.tryb {p q : PM PF} {r : PV} {Q : PF → PS → Prop} (h : PWE p σ (fun f σ' => match f with
    | .next => PW q σ' Q
    | f => Q f σ') fun σ' => Q (.ret r) σ') : PW (ptry p r q) σ Q := by
  unfold PWE at h
  unfold PW ptry
  match hq : p σ, h with
  | some (.ok .next, σ'), h => exact h
  | some (.ok .brk, σ'), h => exact ⟨_, _, rfl, h⟩
  | some (.ok .cont, σ'), h => exact ⟨_, _, rfl, h⟩
  | some (.ok (.ret v), σ'), h => exact ⟨_, _, rfl, h⟩
  | some (.exc, σ'), h => exact ⟨_, _, rfl, h⟩
end
noncomputable def convX : FSpec
  | [_, .str x], [(n, .bool b)], H => if n = "name" ∧ x.length ≤ 1000000 then (if (if b = true then hasN x else hasV x) = true then some (.exc, H) else some (.ok (.str x), H)) else none
  | _, _, _ => none
noncomputable def nameLen (n : Str) : Bool := decide (n.length ≤ 10000) && decide ((Txt.lower n).length ≤ 1000000)
noncomputable def getX2 (i : Nat) (n : Str) (d : PV) (H : List PO) : Option (Res PV × List PO) := match getTab H i with
  | some (l, rows) => if rowsOk rows = true ∧ nameLen n = true then (if hasN (Txt.lower n) = true then some (.exc, H) else some (.ok (getD' rows n d), H)) else none
  | none => none
noncomputable def getX : FSpec
  | [.ref i, .str n], [], H => getX2 i n .none H
  | [.ref i, .str n, d], [], H => getX2 i n d H
  | _, _, _ => none
noncomputable def delX2 (i : Nat) (n : Str) (H : List PO) : Option (Res PV × List PO) := match getTab H i with
  | some (l, rows) => if rowsOk rows = true ∧ nameLen n = true then (if hasN (Txt.lower n) = true then some (.exc, H) else some (.ok .none, (H ++ [PO.list ((kept rows n).map row)]).set l (.list ((kept rows n).map row)))) else none
  | none => none
noncomputable def delX : FSpec
  | [.ref i, .str n], [], H => delX2 i n H
  | _, _, _ => none
noncomputable def storeX : FSpec
  | [.ref i, .str n, .str v], [], H => (match delX2 i n H with
    | some (.ok _, H₁) => (match getTab H₁ i with
      | some (l, rows) => if v.length ≤ 10000 ∧ rowsOk rows = true then (if hasN n = true ∨ hasV v = true then some (.exc, H₁) else some (.ok .none, H₁.set l (.list ((rows ++ [(n, v)]).map row)))) else none
      | none => none)
    | some (.exc, H₁) => some (.exc, H₁)
    | none => none)
  | _, _, _ => none
theorem convX_ok {s : PV} {x : Str} {b : Bool} {H : List PO} (hx : x.length ≤ 1000000) (hb : (if b = true then hasN x else hasV x) = false) : convX [s, .str x] [("name", .bool b)] H = some (.ok (.str x), H) := by
  show (if "name" = "name" ∧ x.length ≤ 1000000 then (if (if b = true then hasN x else hasV x) = true then some (Res.exc, H) else some (Res.ok (PV.str x), H)) else none) = _
  rw [if_pos ⟨rfl, hx⟩, hb]; rfl
theorem convX_exc {s : PV} {x : Str} {b : Bool} {H : List PO} (hx : x.length ≤ 1000000) (hb : (if b = true then hasN x else hasV x) = true) : convX [s, .str x] [("name", .bool b)] H = some (.exc, H) := by
  show (if "name" = "name" ∧ x.length ≤ 1000000 then (if (if b = true then hasN x else hasV x) = true then some (Res.exc, H) else some (Res.ok (PV.str x), H)) else none) = _
  rw [if_pos ⟨rfl, hx⟩, hb]; rfl
end

section
open PySem PySem.W PyProof.Rows PySem.Spec PySem.SeqAt PySem.Calls
set_option autoImplicit false
set_option linter.unusedVariables false
set_option maxRecDepth 100000
set_option tactic.hygienic false
noncomputable def nxItems (i : Nat) : NX := fun _ H => match H[i]? with
  | some (.dct fs) => if fs.isEmpty = true then some none else none
  | _ => none
section
variable {W : Wd} {d : Nat} {env : Env} {G : GG}
theorem dict_at {h : Heap} {ρ : Rh} {a : Addr} (r : RepO W h ρ a (.dct [])) : h.DictAt (strKind W.prog W.w) a [] 0 ∧ a ≠ sysModules := by
  obtain ⟨es, n, m, ho, _, _, hok⟩ := r
  have en := hok.n
  have hz := Array.eq_empty_of_size_eq_zero hok.sz
  have hna := hok.na
  clear hok
  subst en
  subst hz
  exact ⟨⟨_, #[], ho, ⟨rfl, rfl, rfl⟩, rfl, fun e he => absurd he (Array.not_mem_empty e), .nil, List.nodup_nil⟩, hna⟩
theorem nxItems_inv {i j : Nat} {H : List PO} {r : Option PV} (h : nxItems i j H = some r) : H[i]? = some (.dct []) ∧ r = none := by
  unfold nxItems at h
  cases hi : H[i]? with
  | none => rw [hi] at h; cases h
  | some o =>
    rw [hi] at h
    cases o with
    | dct fs =>
      cases fs with
      | nil => cases h; exact ⟨rfl, rfl⟩
      | cons a b => cases h
    | _ => cases h
theorem src_items {I : Addr} {i : Nat} {elts : List Expr} {k : Nat} {tp : Pos} : Src W [I] (.ref I) (.Tuple elts k tp) (nxItems i) (fun j h ρ => ∃ a ok ov, ρ.a[i]? = some a ∧ IsItemIter h I a 0 0 0 ok ov) where
  fld := by
    rintro j h ρ ⟨a, ok, ov, _, he⟩ b m
    rw [List.mem_singleton.mp m]; exact ⟨_, _, he, rfl⟩
  keep := by
    rintro j h h' ρ ρ' ⟨a, ok, ov, ea, he⟩ st kk
    exact ⟨a, ok, ov, st.pre _ _ ea, kk I (List.mem_singleton.mpr rfl) _ he⟩
  item := by
    intro j A s ρ H p Q E hh hc _ hx
    cases (nxItems_inv hx).2
  self := by
    rintro j A s ρ Q E ⟨a, ok, ov, ea, he⟩ hq
    exact kcp_self he hq
  stop := by
    rintro j A s ρ H Q E hh hc ⟨a, ok, ov, ea, he⟩ hx hq
    obtain ⟨hat, hns⟩ := dict_at (hc.cell i a _ ea (nxItems_inv hx).1)
    exact wpAny_pyNext_items_end (knd := strKind W.prog W.w) hh he hat rfl fun h' sb => hq h' s.toks (but_of sb)
noncomputable def pnxItems (v : PV) : PM NX := fun σ => match v with
  | .ref i => (match σ.H[i]? with
    | some (.dct fs) => if fs.isEmpty = true then some (.ok (nxItems i), σ) else none
    | _ => none)
  | _ => none
theorem pnxItems_inv {v : PV} {σ : PS} {r : Res NX × PS} (h : pnxItems v σ = some r) : ∃ i, v = .ref i ∧ σ.H[i]? = some (.dct []) ∧ r = (.ok (nxItems i), σ) := by
  unfold pnxItems at h
  cases v with
  | ref i =>
    dsimp only at h
    cases hi : σ.H[i]? with
    | none => rw [hi] at h; cases h
    | some o =>
      rw [hi] at h
      cases o with
      | dct fs =>
        cases fs with
        | nil => cases h; exact ⟨i, rfl, hi, rfl⟩
        | cons a b => cases h
      | _ => cases h
  | _ => cases h
theorem si_items {o : Expr} {elts : List Expr} {k : Nat} {apos pos tp : Pos} {p : PM PV} (ho : SE W d env o p) (hb : ∀ t, attributeBase o "items" env t = t) (hf : methodCallForm (0 + 0) (backTo pos (starEach [] env)) [] = true) (hpos : (apos.endLine == pos.line) = true) :
    SI W d env (.Call (.Attribute o "items" apos) [] [] pos) (.Tuple elts k tp) (PM.bind (pnoexc p) pnxItems) := by
  intro G A s ρ σ Q E ha hr hg hp
  refine wp_methG (ks := []) (es := []) (ho G A s ρ σ _ _ ha hr hg ?_) hb hf hpos
  unfold PM.bind pnoexc at hp
  match hq : p σ, hp with
  | some (.ok v, σ₁), hp =>
    intro x h₁ ρ₁ tk₁ r1 e1 l1 rx
    dsimp only at hp
    cases hn : pnxItems v σ₁ with
    | none => rw [hn] at hp; exact hp.elim
    | some r =>
      rw [hn] at hp
      obtain ⟨i, rfl, hi, rfl⟩ := pnxItems_inv hn
      obtain ⟨a, rfl, ea, r⟩ := ref_inv r1.cells rx hi
      have hdi := (dict_at r).1
      have hT : ({ s with heap := h₁, toks := tk₁ } : Shared).TypeIs (.ref a) "dict" := by
        obtain ⟨o, es, h1, h2, _⟩ := hdi; exact ⟨o, h1, h2.1⟩
      have hnd : ∀ b, Value.ref a = .ref b → ∃ o, ({ s with heap := h₁, toks := tk₁ } : Shared).heap.get? b = some o ∧ o.dict = none := fun b e => by
        cases e; obtain ⟨o, es, h1, h2, _⟩ := hdi; exact ⟨o, h1, h2.2.1⟩
      refine wp_bmG (R := rrL) (id := "dict.items") (ss_nil (d := d)) rfl (ha.ext r1 e1 l1) r1 (fun Q h => getMethod_builtin hT PySem.F.plainAttrs_dict PySem.F.slot_dict_items PySem.F.type_dict_items hnd h) ?_
      clear hT hnd hdi r hn hq hr ha hg
      intro vs h₂ ρ₂ tk₂ ha2 r2 e2 rv
      have hv : vs = [] := nil_inv rv
      subst hv
      have ea2 := e2.pre i a ea
      obtain ⟨hat', hns'⟩ := dict_at (r2.cells.cell i a _ ea2 hi)
      have hD' : h₂.DictOf (strKind W.prog W.w) a [] := by
        obtain ⟨o, es, h1, h2, h3, h4⟩ := hat'; exact ⟨o, es, _, h1, h2, h3, h4⟩
      have hT' : ({ s with heap := h₂, toks := tk₂ } : Shared).TypeIs (.ref a) "dict" := by
        obtain ⟨o, es, h1, h2, _⟩ := hat'; exact ⟨o, h1, h2.1⟩
      refine call_meetsIn PySem.F.slot_dict_items hT' PySem.F.entry_dict_items (PySem.F.args_dict_items_1 _) (meets_dict_items (strKind W.prog W.w) a (by simpa using hns')) ⟨⟨[], hD'⟩, ?_⟩
      clear hD' hT' hns'
      have k1 := Keeps.push (h := h₂) { cls := .type "dict_items", data := .fields #[.ref a] }
      have hsz : (h₂.push { cls := .type "dict_items", data := .fields #[.ref a] }).objs.size = h₂.objs.size + 1 := Heap.size_push ..
      have hatp : (h₂.push { cls := .type "dict_items", data := .fields #[.ref a] }).DictAt (strKind W.prog W.w) a [] 0 := hat'.at' fun o e => k1 _ _ e
      have hp2 := Heap.get?_push_size h₂ (o := { cls := .type "dict_items", data := .fields #[.ref a] }) rfl
      generalize h₂.push { cls := .type "dict_items", data := .fields #[.ref a] } = h₃ at k1 hsz hatp hp2 ⊢
      refine wpAny_pyIter_items (knd := strKind W.prog W.w) (s := { s with heap := h₃, toks := tk₂ }) (v := h₂.objs.size) ⟨_, hp2, rfl, rfl⟩ hatp ?_
      have k2 := Keeps.push (h := h₃) { cls := .type "dict_itemiterator", data := .fields #[.none, .bool false, .ref a, .int 0 0, .int 0 0, .int 0 0, .none, .none] }
      refine hp [h₃.objs.size] _ _ _ ρ₂ tk₂ (r2.keeps (k1.trans k2)) ((e1.trans e2).trans (Ext0.keeps (k1.trans k2)).toExt) ⟨ha2.tok, ha2.pos⟩ src_items (own_mk r2 (e1.trans e2) (fun b m => ?_) fun b m => ?_) ⟨a, .none, .none, ea2, ?_⟩
      · rw [List.mem_singleton.mp m, hsz]
        cases z : h₂.get? (h₂.objs.size + 1) with
        | none => rfl
        | some o => exact absurd (Heap.lt_size z) (Nat.not_lt.mpr (Nat.le_succ _))
      · rw [List.mem_singleton.mp m]; exact ⟨_, _, Heap.get?_push_size h₃ rfl, rfl⟩
      · exact Heap.get?_push_size h₃ rfl
end
end

section
open PySem PySem.W PyProof.Rows PySem.Spec PySem.SeqAt PySem.Calls
set_option autoImplicit false
set_option linter.unusedVariables false
set_option maxRecDepth 100000
set_option tactic.hygienic false
noncomputable def leS (a b : Str) : Prop := ltCps b.cps.toList a.cps.toList = false
theorem leS_iff {a b : Str} : leS a b ↔ a.cps.toList ≤ b.cps.toList := by
  unfold leS
  rw [ltCps_eq, decide_eq_false_iff_not]
  exact Iff.rfl
theorem leS_total (a b : Str) : leS a b ∨ leS b a := by
  rw [leS_iff, leS_iff]; exact List.le_total _ _
theorem leS_trans {a b c : Str} (h1 : leS a b) (h2 : leS b c) : leS a c := by
  rw [leS_iff] at *; exact List.le_trans h1 h2
theorem leS_antisymm {a b : Str} (h1 : leS a b) (h2 : leS b a) : a = b := by
  rw [leS_iff] at *
  have := List.le_antisymm h1 h2
  cases a; cases b
  simp only [Str.mk.injEq]
  exact Array.toList_inj.mp this
noncomputable def insS (x : Str) : List Str → List Str
  | [] => [x]
  | y :: r => if ltCps y.cps.toList x.cps.toList = true then y :: insS x r else x :: y :: r
noncomputable def sortF : List Str → List Str
  | [] => []
  | x :: r => insS x (sortF r)
theorem insS_perm (x : Str) : ∀ l, (insS x l).Perm (x :: l)
  | [] => .refl _
  | y :: r => by
    unfold insS
    split
    · exact ((insS_perm x r).cons y).trans (.swap x y r)
    · exact .refl _
theorem sortF_perm : ∀ l, (sortF l).Perm l
  | [] => .refl _
  | x :: r => (insS_perm x (sortF r)).trans ((sortF_perm r).cons x)
set_option tactic.hygienic true in
theorem insS_sorted (x : Str) : ∀ l : List Str, l.Pairwise leS → (insS x l).Pairwise leS
  | [], _ => by unfold insS; exact List.pairwise_singleton _ _
  | y :: r, h => by
    obtain ⟨h1, h2⟩ := List.pairwise_cons.mp h
    unfold insS
    split
    · rename_i hy
      refine List.pairwise_cons.mpr ⟨fun z hz => ?_, insS_sorted x r h2⟩
      rcases List.mem_cons.mp ((insS_perm x r).mem_iff.mp hz) with rfl | hz
      · rcases leS_total y z with q | q
        · exact q
        · unfold leS at q; rw [hy] at q; cases q
      · exact h1 z hz
    · rename_i hy
      have hxy : leS x y := by unfold leS; simpa using hy
      refine List.pairwise_cons.mpr ⟨fun z hz => ?_, h⟩
      rcases List.mem_cons.mp hz with rfl | hz
      · exact hxy
      · exact leS_trans hxy (h1 z hz)
theorem sortF_sorted : ∀ l, (sortF l).Pairwise leS
  | [] => .nil
  | x :: r => insS_sorted x _ (sortF_sorted r)
theorem sortedS_pw : ∀ l : List Str, sortedS l = true → l.Pairwise leS
  | [], _ => .nil
  | [x], _ => List.pairwise_singleton _ _
  | x :: y :: r, h => by
    have h' : (!ltCps y.cps.toList x.cps.toList && risingS y r) = true := h
    rw [Bool.and_eq_true] at h'
    have hxy : leS x y := by unfold leS; simpa using h'.1
    have ih := sortedS_pw (y :: r) h'.2
    refine List.pairwise_cons.mpr ⟨fun z hz => ?_, ih⟩
    rcases List.mem_cons.mp hz with rfl | hz
    · exact hxy
    · exact leS_trans hxy ((List.pairwise_cons.mp ih).1 z hz)
theorem sortF_only {l l' : List Str} (hp : l'.Perm l) (hs : sortedS l' = true) : l' = sortF l :=
  List.Perm.eq_of_pairwise (le := leS) (fun a b _ _ h1 h2 => leS_antisymm h1 h2) (sortedS_pw _ hs) (sortF_sorted l) (hp.trans (sortF_perm l).symm)
theorem strsAre_of {h : Heap} {ρ : Rh} {vs : List Value} {l : List PV} {xs : List Str} (z : All2 (RepV h ρ) vs l) (e : pstrs l = some xs) : StrsAre vs xs := by
  obtain ⟨ps, rfl, rfl⟩ := pstrs_rep z e
  clear z e
  induction ps with
  | nil => exact .nil
  | cons p r ih => exact .cons _ _ ih
theorem strsAre_rep {h : Heap} {ρ : Rh} {vs : List Value} {xs : List Str} (z : StrsAre vs xs) : All2 (RepV h ρ) vs (xs.map .str) := by
  induction z with
  | nil => exact .nil
  | cons y t _ ih => exact .cons ⟨_, rfl⟩ ih
theorem strsAre_len {vs : List Value} {xs : List Str} (z : StrsAre vs xs) : vs.length = xs.length := by
  induction z with
  | nil => rfl
  | cons y t _ ih => simp [ih]
noncomputable def fSorted : List PV → PM PV
  | [.ref i] => plist i fun l => popt (pstrs l) fun xs => pguard (xs.length < 64) (palloc (.list ((sortF xs).map .str)))
  | _ => pfail
section
variable {W : Wd} {d : Nat} {env : Env} {G : GG}
theorem c_sorted : CallOk W d env (.builtin "sorted") fSorted := CallOk.mk fun A s ρ σ Q E vs l ha hr z hp => by
  unfold fSorted at hp
  split at hp
  · obtain ⟨v, rfl, r⟩ := one_inv z
    obtain ⟨l, e, hp⟩ := plist_inv hp
    obtain ⟨xs, e2, hp⟩ := popt_inv hp
    obtain ⟨h64, hp⟩ := pguard_inv hp
    obtain ⟨a, rfl, _, ws, n, ho, zw⟩ := ref_inv hr.cells r e
    have hS := strsAre_of zw e2
    have hlen : ws.length = xs.length := strsAre_len hS
    refine sorted_strs ⟨_, ho, rfl, n, rfl⟩ hS (by lia) fun out ss' h1 h2 h3 => ?_
    have hss := sortF_only h2 h3
    subst hss
    have k : Keeps s.heap (sortedAll s.heap ws out) := fun b o e => sortedAll_old e
    obtain ⟨ee, hat⟩ := sortedAll_at s.heap ws out
    have hn : s.heap.get? (s.heap.objs.size + 1) = none := by
      cases z : s.heap.get? (s.heap.objs.size + 1) with
      | none => rfl
      | some o => exact absurd (Heap.lt_size z) (Nat.not_lt.mpr (Nat.le_succ _))
    refine hp (.ref (s.heap.objs.size + 1)) _ (ρ.add (s.heap.objs.size + 1)) s.toks (hr.snoc k hn ?_) (Ext0.snoc k hn) (ref_snoc (h' := sortedAll s.heap ws out) hr)
    refine ⟨out.toList, ee, ?_, strsAre_rep h1⟩
    rw [hat]
  · exact hp.elim
theorem b_sorted {px pos : Pos} {es : List Expr} {q : PM (List PV)} (hx : env.kindOf "sorted" = some .globalImplicit) (e : nsIn W.K mainGlobals "sorted" = some none) (hes : SEs W d env es q) (hn : noStar es = true) : SE W d env (.Call (.Name "sorted" px) es [] pos) (PM.bind q fSorted) := s_bcall hx e (by decide +kernel) hes hn c_sorted
end
end

section
open PySem PySem.W PyProof.Rows PySem.Spec PySem.SeqAt
set_option autoImplicit false
set_option linter.unusedVariables false
set_option maxRecDepth 100000
set_option tactic.hygienic false
section
variable {W : Wd} {d : Nat} {env : Env} {G : GG}
theorem newEnv_cell {M : Model} {A : Around} {E : Value → Shared → Prop} {s : Shared} {scope : Scope} {globals : Addr} {cl : List (Str × Addr)} {qual : Str} {func : Option Addr} {code : Value} {builtins : Addr} {xn : Str} {Q : Env → Shared → Prop}
    (hcf : ∀ n, cellsFrom n scope.names cl = (xn, n) :: cl) (hpc : ∀ h : Heap, pushCells h scope.names = h.push { cls := .type "cell", data := .cell none })
    (h : ∀ h', h'.Ns s.heap.objs.size (fun _ => none) → (∀ b o, s.heap.get? b = some o → h'.get? b = some o) → h'.IsCell (s.heap.objs.size + 1) none → Q (newEnv scope s.heap.objs.size globals ((xn, s.heap.objs.size + 1) :: cl) qual func code (some env) builtins) { s with heap := h' }) :
    wpAny M A (newFunctionEnv scope globals cl [] qual func code (some env) builtins) Q E s := by
  simp only [newFunctionEnv, Option.isSome_some, if_true]
  refine wpAny_bind (wpAny_alloc ?_)
  refine wpAny_bind (wpAny_layCells _ (fun name kind cells => by cases hkc : kind == NameKind.cell <;> simp [hkc]) _ _ _ _ ?_)
  have hz : (s.heap.push { cls := .type "dict", data := .dict #[] }).objs.size = s.heap.objs.size + 1 := Heap.size_push ..
  rw [show ({ s with heap := s.heap.push { cls := .type "dict", data := .dict #[] } } : Shared).heap.objs.size = s.heap.objs.size + 1 from hz, hcf, hpc]
  have k := Keeps.push (h := s.heap.push { cls := .type "dict", data := .dict #[] }) { cls := .type "cell", data := .cell none }
  refine wpAny_bind (wpAny_pure (wpAny_pure (h _ ((Heap.Ns.new s.heap (.type "dict")).keeps k) (fun b o e => k b o (Heap.get?_push_of_some _ e)) ?_)))
  refine ⟨{ cls := .type "cell", data := .cell none }, ?_, rfl⟩
  rw [← hz]
  exact Heap.get?_push_size _ rfl
theorem new_cell {M : Model} {scope : Scope} {cl : List (Str × Addr)} {xn : Str} (hcf : ∀ n, cellsFrom n scope.names cl = (xn, n) :: cl) (hpc : ∀ h : Heap, pushCells h scope.names = h.push { cls := .type "cell", data := .cell none }) : NewOk M scope env cl (some xn) := fun A E s Q h =>
  newEnv_cell hcf hpc fun h' a b c => h h' a b fun _ => c
theorem s_compK {elt tg iter : Expr} {scope : Scope} {pos : Pos} {ifs : List Expr} {p : PM NX} {asg : PV → PM Unit} {test : PM Bool} {ep : PM PV} {cl : List (Str × Addr)} {capt : List String} {xn : Str} (N : Nat)
    (hi : SI W d env iter tg p) (hasg : ∀ C, SAs W d (compEnvC scope ((xn, C + 1) :: cl) C env) tg asg) (ht : ∀ C, TestsOk W d (compEnvC scope ((xn, C + 1) :: cl) C env) ifs test) (he : ∀ C, SE W d (compEnvC scope ((xn, C + 1) :: cl) C env) elt ep)
    (hs : ∀ x, foldedSetIterable iter env x = pure x) (hclos : closureFor scope env = pure cl) (hcf : ∀ n, cellsFrom n scope.names cl = (xn, n) :: cl) (hpc : ∀ h : Heap, pushCells h scope.names = h.push { cls := .type "cell", data := .cell none }) (hkind : scope.kind = .function) (hnames : ∀ y ∈ scope.names, y.2 = .local → scope.names.lookup y.1 = some .local)
    (hc : CapOk env scope cl capt) (hxn : xn ∉ capt.map Str.ofString) : SE W d env (.ListComp elt [⟨tg, iter, ifs, 0⟩] scope pos) (pcomp capt p asg test ep N) :=
  s_compG (o := some xn) N hi hasg ht he hs hclos (new_cell hcf hpc) hkind hnames hc fun n hn e => hxn (Option.some.inj e ▸ List.mem_map.mpr ⟨n, hn, rfl⟩)
theorem s_compK0 {elt tg iter : Expr} {scope : Scope} {pos : Pos} {ifs : List Expr} {p : PM NX} {asg : PV → PM Unit} {test : PM Bool} {ep : PM PV} {cl : List (Str × Addr)} {capt : List String} {xn : Str} (N : Nat)
    (hclos : closureFor scope env = pure cl) (hcf : ∀ n, cellsFrom n scope.names cl = (xn, n) :: cl) (hi : SI W d env iter tg p) (hasg0 : SAs W d (compEnvC scope ((xn, 0 + 1) :: cl) 0 env) tg asg) (ht0 : TestsOk W d (compEnvC scope ((xn, 0 + 1) :: cl) 0 env) ifs test) (he0 : SE W d (compEnvC scope ((xn, 0 + 1) :: cl) 0 env) elt ep)
    (hasg : ∀ C, SAs W d (compEnvC scope ((xn, C + 1) :: cl) C env) tg asg) (ht : ∀ C, TestsOk W d (compEnvC scope ((xn, C + 1) :: cl) C env) ifs test) (he : ∀ C, SE W d (compEnvC scope ((xn, C + 1) :: cl) C env) elt ep)
    (hs : ∀ x, foldedSetIterable iter env x = pure x) (hpc : ∀ h : Heap, pushCells h scope.names = h.push { cls := .type "cell", data := .cell none }) (hkind : scope.kind = .function) (hnames : ∀ y ∈ scope.names, y.2 = .local → scope.names.lookup y.1 = some .local)
    (hc : CapOk env scope cl capt) (hxn : xn ∉ capt.map Str.ofString) : SE W d env (.ListComp elt [⟨tg, iter, ifs, 0⟩] scope pos) (pcomp capt p asg test ep N) := s_compK N hi hasg ht he hs hclos hcf hpc hkind hnames hc hxn
end
end

section
open PySem PySem.W PyProof.Rows PySem.Spec PySem.SeqAt PySem.Calls
set_option autoImplicit false
set_option linter.unusedVariables false
set_option maxRecDepth 100000
set_option tactic.hygienic false
theorem wp_setAt {prog : Program} {w : World} {A : Around} {E : Value → Shared → Prop} {s : Shared} {l : Addr} {items : Array Value} {n : Nat} {k : Int} {t : Tok} {v : Value} {Q : Unit → Shared → Prop} (ho : s.heap.get? l = some ⟨.type "list", none, .seq items n, #[]⟩)
    (h0 : 0 ≤ k) (hfit : k < 2 ^ 63) (hn : k < items.size)
    (hQ : ∀ h' m, h'.get? l = some ⟨.type "list", none, .seq (items.setIfInBounds k.toNat v) m, #[]⟩ → Heap.SameBut l s.heap h' → Q () { s with heap := h' }) :
    wpAny (model prog w) A (setItem (.ref l) (.int k t) v) Q E s := by
  have hl : s.heap.IsList l items := ⟨_, ho, rfl, n, rfl⟩
  have hd : (⟨.type "list", none, .seq items n, #[]⟩ : Obj).data = .seq items n := rfl
  unfold setItem
  try with_reducible refine wpAny_holding ?_
  first | refine wpAny_bind (wpAny_pure ?_) | skip
  refine wpAny_bind (wpAny_sequenceKey hl.typeIs (by decide) ?_)
  refine wpAny_bind (wpAny_callSpecial?_slot (name := Str.ofString "__setitem__") hl.typeIs slot_list_setitem (wpAny_call_entry slot_list_setitem hl.typeIs entry_list_setitem ?_ (args_list_setitem _ _ _)))
  show wpAny _ _ (Builtin.List.listSubscript? (.int k t) >>= _) _ _ s
  refine wpAny_bind (wpAny_listSubscript_int (fitsIndex_of h0 hfit) ?_)
  clear hfit
  obtain ⟨j, rfl⟩ := Int.eq_ofNat_of_zero_le h0
  have hj : j < items.size := by lia
  show wpAny _ _ ((seqItemAt l j >>= fun r => pure (r.map (j, ·))) >>= _) _ _ s
  refine wpAny_bind (wpAny_bind (wpAny_seqItemAt ho hd (wpAny_pure ?_)))
  rw [Array.getElem?_eq_getElem hj]
  show wpAny _ _ (setSeqItemAt l j v >>= _) _ _ s
  have fin : Q () { s with heap := s.heap.update l (Obj.mapSeq (·.setIfInBounds j v)) } := hQ _ _ (get?_update_seq (c := "list") ho (·.setIfInBounds j v)) (Heap.SameBut.update ..)
  refine wpAny_bind (wpAny_setSeqItemAt ho hd ?_)
  first
    | exact wpAny_bind (wpAny_pure (wpAny_pure ⟨.none, rfl, wpAny_pure fin⟩))
    | exact wpAny_pure ⟨.none, rfl, wpAny_pure fin⟩
noncomputable def psetAny (spec : FSpec) (a b v : PV) : PM Unit := fun σ => match a with
  | .ref i => (match σ.H[i]? with
    | some (.list l) => (match b with
      | .int k => if 0 ≤ k ∧ k < l.length ∧ l.length ≤ 1000 then some (.ok (), { σ with H := σ.H.set i (.list (l.set k.toNat v)) }) else none
      | _ => none)
    | _ => psetI spec a b v σ)
  | _ => none
section
variable {W : Wd} {d : Nat} {env : Env} {G : GG}
theorem All2.set {α β : Type} {R : α → β → Prop} {as : List α} {bs : List β} (x : All2 R as bs) : ∀ (n : Nat) {a : α} {b : β}, R a b → All2 R (as.set n a) (bs.set n b) := by
  induction x with
  | nil => intro n a b r; exact .nil
  | cons r' _ ih => intro n a b r; cases n with
    | zero => exact .cons r (by assumption)
    | succ n => exact .cons r' (ih n r)
theorem o_setAny {spec : FSpec} {fa : Addr} (hC : ClsOk W) (F : FHolds W d (.ref fa) spec) (hs : findIn W.K (.ref W.C) "__setitem__" = some (some (.ref fa))) (hf : typeIn W.K (.ref fa) = some (.type "function")) {a b v : Value} {pa pb pv : PV} (ga : ∀ h ρ, G.P h ρ → RepV h ρ a pa) (gb : ∀ h ρ, G.P h ρ → RepV h ρ b pb) (gv : ∀ h ρ, G.P h ρ → RepV h ρ v pv) :
    Sim W d env rrU G (setItem a b v) (psetAny spec pa pb pv) := by
  intro A s ρ σ Q E ha hr hg hp
  unfold psetAny at hp
  cases pa with
  | ref i =>
    dsimp only at hp
    cases hi : σ.H[i]? with
    | none => rw [hi] at hp; exact o_setI hC F hs hf ga gb gv A s ρ σ Q E ha hr hg hp
    | some ob =>
      rw [hi] at hp
      cases ob with
      | inst k => exact o_setI hC F hs hf ga gb gv A s ρ σ Q E ha hr hg hp
      | dct fs => exact o_setI hC F hs hf ga gb gv A s ρ σ Q E ha hr hg hp
      | list l =>
        cases pb with
        | int k =>
          dsimp only at hp
          by_cases hc : 0 ≤ k ∧ k < l.length ∧ l.length ≤ 1000
          · rw [if_pos hc] at hp
            obtain ⟨h0, h1, h2⟩ := hc
            obtain ⟨x, rfl, ex, vs, n, hox, zx⟩ := ref_inv hr.cells (ga _ _ hg) hi
            obtain ⟨t, hb⟩ := gb _ _ hg
            subst hb
            have hlen := zx.length
            refine wp_setAt (items := vs.toArray) hox h0 (by lia) (by rw [List.size_toArray, hlen]; exact h1) fun h' m ho' sb => ?_
            have st := hr.cells.stbSet (get_mem ex) sb.2
            have ro : RepO W h' ρ x (.list (l.set k.toNat pv)) := ⟨vs.set k.toNat v, m, by rw [ho']; simp, (zx.mono fun _ _ y => y.stb st).set _ ((gv _ _ hg).stb st)⟩
            have e0 : Ext0 W (fp env) s.heap ρ h' ρ := Ext0.set (get_mem ex) sb.2 ro
            exact hp () h' ρ s.toks (hr.set ex sb.2 ro) e0.toExt ⟨ha.tok, ha.pos⟩ trivial
          · rw [if_neg hc] at hp; exact hp.elim
        | _ => exact hp.elim
  | _ => exact hp.elim
theorem a_setAny {o i : Expr} {sp : Pos} {spec : FSpec} {fa : Addr} {p q : PM PV} (hC : ClsOk W) (F : FHolds W d (.ref fa) spec) (hs : findIn W.K (.ref W.C) "__setitem__" = some (some (.ref fa))) (hf : typeIn W.K (.ref fa) = some (.type "function")) (ho : SE W d env o p) (hi : SE W d env i q) :
    SAs W d env (.Subscript o i sp) (fun v => PM.bind p fun a => PM.bind q fun b => psetAny spec a b v) := by
  intro G v pv gv
  rw [arm_assign_Subscript]
  have key : ∀ rl : Value → Value → List Value, Sim W d env rrU G (holding [v] (eval o env) >>= fun ov => holding [v, ov] (eval i env) >>= fun iv => standAt sp >>= fun _ => holding [v, ov, iv] (setItem ov iv v) >>= fun _ => PySem.release (rl ov iv) []) (PM.bind p fun a => PM.bind q fun b => PM.bind (psetAny spec a b pv) fun _ => PM.pure ()) := by
    intro rl
    refine Sim.bind (Sim.holding (ho G)) fun a pa => Sim.bind (Sim.holding (hi _)) fun b pb => Sim.stand (Sim.bind (R := rrU) (Sim.holding (o_setAny hC F hs hf (fun _ _ g => g.1.2) (fun _ _ g => g.2) fun _ _ g => gv _ _ g.1.1)) fun _ _ => ?_)
    exact Sim.of0 fun A s ρ σ Q E ha hr hg hp => wp_release (hp () s.heap ρ s.toks hr .refl trivial)
  refine Sim.eq (key (relOf i v)) rfl ?_
  have e : ∀ a b, psetAny spec a b pv = PM.bind (psetAny spec a b pv) fun _ => PM.pure () := by
    intro a b; funext σ
    unfold PM.bind PM.pure
    split <;> simp_all
  show (PM.bind p fun a => PM.bind q fun b => psetAny spec a b pv) = _
  congr 1; funext a; congr 1; funext b; exact e a b
end
end

section
open PySem PySem.W PyProof.Rows PySem.Spec PySem.SeqAt PySem.Calls
set_option autoImplicit false
set_option linter.unusedVariables false
set_option maxRecDepth 100000
set_option tactic.hygienic false
noncomputable def pbKw0 (ns : List String) (kn : String) : List PV → List (String × PV) → List PO → Option (List (String × PV) × List PO) := fun a k H => if a.length = ns.length ∧ k = [] then some (ns.zip a ++ [(kn, .ref H.length)], H ++ [.dct []]) else none
set_option tactic.hygienic true in
theorem pbKw0_names {ns : List String} {kn : String} {a : List PV} {kw : List (String × PV)} {H : List PO} {l : List (String × PV)} {H' : List PO} (h : pbKw0 ns kn a kw H = some (l, H')) : l.map (·.1) = ns ++ [kn] := by
  unfold pbKw0 at h
  split at h
  · rename_i hc
    cases h
    rw [List.map_append, zip_names hc.1]; rfl
  · cases h
set_option tactic.hygienic true in
theorem bind_kw0 {W : Wd} {fd : FuncData} {ns : List String} {kn : String} (h : ∀ args : List Value, args.length = ns.length → bindArgs fd ⟨args, []⟩ = (alloc { cls := .type "dict", data := .dict #[] } >>= fun d => pure ((ns.map Str.ofString).zip args ++ [(Str.ofString kn, .ref d)]))) : BindOk W fd (pbKw0 ns kn) := by
  intro M A s ρ H args kw pargs pkw l H' Q E hc ra rk e hQ
  unfold pbKw0 at e
  split at e
  · rename_i hh
    obtain ⟨h1, rfl⟩ := hh
    cases e
    cases rk
    rw [h args (by rw [ra.length]; exact h1)]
    have k := Keeps.push (h := s.heap) { cls := .type "dict", data := .dict #[] }
    have hn : s.heap.get? s.heap.objs.size = none := fresh_none
    have o1 : (s.heap.push { cls := .type "dict", data := .dict #[] }).get? s.heap.objs.size = some { cls := .type "dict", data := .dict #[] } := Heap.get?_push_size _ rfl
    have c1 : Cells W (s.heap.push { cls := .type "dict", data := .dict #[] }) (ρ.add s.heap.objs.size) (H ++ [.dct []]) := hc.snoc k hn ⟨#[], 0, fun _ => none, o1, Heap.Ns.new s.heap (.type "dict"), fun x => ⟨fun p e => (by cases e), fun _ => rfl⟩, ⟨rfl, rfl, not_sys hc, fun e he => by simp at he⟩⟩
    refine wpAny_bind (wpAny_alloc (wpAny_pure (hQ _ _ (ρ.add s.heap.objs.size) s.toks c1 k (Ext0.snoc k hn).toExt rfl (Nat.le_refl _) ?_)))
    refine All2.append (zip_rel (W := W) (ra.mono fun _ _ y => y.stb (k.stb pre_snoc))) (.cons ⟨rfl, _, rfl, ?_⟩ .nil)
    show (ρ.a ++ [s.heap.objs.size])[H.length]? = _
    rw [← hc.len, List.getElem?_append_right (Nat.le_refl _)]; simp
  · cases e
theorem PW.nxI {σ : PS} {i : Nat} {Q : NX → PS → Prop} (e : σ.H[i]? = some (.dct [])) (h : Q (nxItems i) σ) : PW (pnxItems (.ref i)) σ Q := ⟨_, σ, by unfold pnxItems; dsimp only; rw [e]; rfl, h⟩
theorem PW.forNone {σ : PS} {nx : NX} {asg : PV → PM Unit} {b : PM PF} {N j : Nat} {Q : PF → PS → Prop} (e : nx j σ.H = some none) (h : Q .next σ) : PW (pfor nx asg b (N + 1) j) σ Q := ⟨.next, σ, by unfold pfor; rw [e], h⟩
theorem f_none {W : Wd} {d : Nat} {f : Value} : FHolds W d f fun _ _ _ => none := fun _ _ _ _ _ _ _ _ _ _ _ _ _ _ hp => hp.elim
end

section
open PySem PySem.W PyProof.Rows PySem.Spec PySem.SeqAt PySem.Calls
open PySem.StrLaws PySem.Builtin.Str
set_option autoImplicit false
set_option linter.unusedVariables false
set_option maxRecDepth 100000
set_option tactic.hygienic false
noncomputable abbrev cp (x : Str) : List Nat := x.cps.toList
noncomputable def ofl (l : List Nat) : Str := ⟨l.toArray⟩
theorem cp_ofl (l : List Nat) : cp (ofl l) = l := rfl
theorem ofl_cp (x : Str) : ofl (cp x) = x := by cases x; rfl
theorem str_ext {x y : Str} (h : cp x = cp y) : x = y := by rw [← ofl_cp x, h, ofl_cp]
theorem cp_len (x : Str) : (cp x).length = x.length := by simp [Str.length]
noncomputable def cat (e : List Nat) : List (List Nat) → List Nat
  | [] => []
  | [p] => p
  | p :: q :: r => p ++ e ++ cat e (q :: r)
theorem cat_cons (e p : List Nat) (q : List Nat) (r : List (List Nat)) : cat e (p :: q :: r) = p ++ e ++ cat e (q :: r) := rfl
theorem cp_join (s : Str) : ∀ l : List Str, cp (Str.join s l) = cat (cp s) (l.map cp)
  | [] => rfl
  | [x] => by
    show cp (Str.join s [x]) = cp x
    simp [Str.join]
  | x :: y :: r => by
    rw [List.map_cons, List.map_cons, cat_cons, ← List.map_cons, ← cp_join s (y :: r)]
    have e : Str.join s (x :: y :: r) = x ++ s ++ Str.join s (y :: r) := by simp [Str.join]
    rw [e]
    simp [cp, Str.cps_append, List.append_assoc]
theorem at_iff (x y : Str) (k : Nat) : At x y x.length k ↔ k + y.length ≤ x.length ∧ ((cp x).drop k).take y.length = cp y := by
  unfold At
  rw [subAt_eq, beq_iff_eq]
theorem at_head {x y : Str} {k c : Nat} {t : List Nat} (hy : cp y = c :: t) (h : At x y x.length k) : (cp x)[k]? = some c := by
  obtain ⟨h1, h2⟩ := (at_iff x y k).mp h
  have hl : y.length = t.length + 1 := by rw [← cp_len, hy]; rfl
  have h3 : (((cp x).drop k).take y.length)[0]? = some c := by rw [h2, hy]; rfl
  rw [hl, List.getElem?_take_of_lt (Nat.succ_pos _), List.getElem?_drop] at h3
  simpa using h3
theorem cuts_parts {x y : Str} {c : Nat} {t : List Nat} (hy : cp y = c :: t) : ∀ (parts : List (List Nat)) (a : Nat) (cuts : List Nat) (f : Nat), (∀ p ∈ parts, c ∉ p) → parts ≠ [] → a ≤ x.length → (cp x).drop a = cat (cp y) parts → ChainG x y x.length a cuts f → (∀ k, f ≤ k → ¬ At x y x.length k) →
    (partsFrom x y.length a cuts).map cp = parts := by
  intro parts
  induction parts with
  | nil => intro a cuts f _ h; exact absurd rfl h
  | cons p rest ih =>
    intro a cuts f hp _ ha hd hch hno
    have hx : (cp x).length = x.length := cp_len x
    have hpn : c ∉ p := hp p (List.mem_cons_self)
    have inP : ∀ k, a ≤ k → k < a + p.length → (∃ s, (cp x).drop a = p ++ s) → ¬ At x y x.length k := by
      rintro k h1 h2 ⟨s, hs⟩ hA
      have h3 := at_head hy hA
      have h4 : ((cp x).drop a)[k - a]? = some c := by rw [List.getElem?_drop]; rw [show a + (k - a) = k by lia]; exact h3
      rw [hs, List.getElem?_append_left (by lia)] at h4
      exact hpn (List.mem_of_getElem? h4)
    cases rest with
    | nil =>
      have hd : (cp x).drop a = p := hd
      have hlen : p.length = x.length - a := by rw [← hd, List.length_drop, hx]
      cases cuts with
      | nil =>
        show [cp (strSub x a x.length)] = [p]
        rw [show cp (strSub x a x.length) = ((cp x).drop a).take (x.length - a) from strSub_toList x a x.length, hd, ← hlen, List.take_length]
      | cons d r =>
        obtain ⟨h1, h2, h3, h4⟩ := hch
        have h5 := (at_iff x y d).mp h2
        have hyl : 1 ≤ y.length := by rw [← cp_len, hy]; simp
        exact absurd h2 (inP d h1 (by lia) ⟨[], by rw [hd]; simp⟩)
    | cons q rest =>
      rw [cat_cons] at hd
      have hyl : 1 ≤ y.length := by rw [← cp_len, hy]; simp
      have hlen : p.length + y.length + (cat (cp y) (q :: rest)).length = x.length - a := by
        have := congrArg List.length hd
        rw [List.length_drop, hx, List.length_append, List.length_append, cp_len] at this
        lia
      have hat : At x y x.length (a + p.length) := by
        rw [at_iff]
        refine ⟨by lia, ?_⟩
        rw [← List.drop_drop, hd, List.append_assoc, List.drop_left, ← cp_len y, List.take_left]
      cases cuts with
      | nil =>
        have hf : f = a := hch
        subst hf
        exact absurd hat (hno _ (by lia))
      | cons d r =>
        obtain ⟨h1, h2, h3, h4⟩ := hch
        have hd1 : ¬ d < a + p.length := fun hlt => inP d h1 hlt ⟨cp y ++ cat (cp y) (q :: rest), by rw [hd, List.append_assoc]⟩ h2
        have hd2 : ¬ a + p.length < d := fun hlt => h3 (a + p.length) (by lia) hlt hat
        have hde : d = a + p.length := by lia
        subst hde
        show cp (strSub x a (a + p.length)) :: (partsFrom x y.length (a + p.length + y.length) r).map cp = _
        rw [show cp (strSub x a (a + p.length)) = ((cp x).drop a).take (a + p.length - a) from strSub_toList x a (a + p.length)]
        rw [hd, show a + p.length - a = p.length by lia, List.append_assoc, List.take_left]
        congr 1
        refine ih (a + p.length + y.length) r f (fun z hz => hp z (List.mem_cons_of_mem _ hz)) (by simp) (by lia) ?_ h4 hno
        rw [show a + p.length + y.length = a + (p.length + y.length) by lia, ← List.drop_drop, hd]
        rw [show p.length + y.length = (p ++ cp y).length by rw [List.length_append, cp_len]]
        rw [List.drop_left]
theorem occ_parts {x y : Str} {c : Nat} {t : List Nat} {parts : List (List Nat)} (hy : cp y = c :: t) (hp : ∀ p ∈ parts, c ∉ p) (hne : parts ≠ []) (hx : cp x = cat (cp y) parts) :
    (partsBetween x (occurrences x y 0 x.length (x.length + 1)) y.length).map cp = parts := by
  have hyl : 1 ≤ y.length := by rw [← cp_len, hy]; simp
  obtain ⟨f, h1, h2⟩ := occ_tight x y hyl
  rw [partsBetween_eq]
  exact cuts_parts hy parts 0 _ f hp hne (Nat.zero_le _) (by rw [List.drop_zero]; exact hx) h1 h2
theorem map_cp_inj : ∀ {l k : List Str}, l.map cp = k.map cp → l = k
  | [], [], _ => rfl
  | [], _ :: _, h => by cases h
  | _ :: _, [], h => by cases h
  | x :: l, y :: k, h => by
    simp only [List.map_cons, List.cons.injEq] at h
    rw [str_ext h.1, map_cp_inj h.2]
set_option tactic.hygienic true in
theorem split_parts {x y : Str} {c : Nat} {t : List Nat} {parts : List (List Nat)} (hy : cp y = c :: t) (hk : PySem.Builtin.Str.strKind y = 1) (hp : ∀ p ∈ parts, c ∉ p) (hne : parts ≠ []) (hx : cp x = cat (cp y) parts) : Txt.split x y = parts.map ofl := by
  have h := occ_parts hy hp hne hx
  have hb : partsBetween x (occurrences x y 0 x.length (x.length + 1)) y.length = parts.map ofl := by
    apply map_cp_inj
    rw [h, List.map_map]
    have : cp ∘ ofl = id := rfl
    rw [this, List.map_id]
  have one : parts.length = 1 → [x] = parts.map ofl := by
    intro h1
    match parts, h1 with
    | [p], _ =>
      have : cp x = p := hx
      show [x] = [ofl p]
      rw [← this, ofl_cp]
  have emp : occurrences x y 0 x.length (x.length + 1) = [] → parts.length = 1 := by
    intro he
    rw [he, partsBetween_eq] at hb
    have := congrArg List.length hb
    simpa [partsFrom] using this.symm
  unfold Txt.split
  split
  · rename_i hc
    refine one (emp ?_)
    have hlt : x.length < y.length := by
      simp only [Bool.or_eq_true, decide_eq_true_eq] at hc
      rcases hc with hc | hc
      · exact hc
      · rw [hk] at hc
        unfold PySem.Builtin.Str.strKind at hc
        split at hc
        · lia
        · split at hc <;> lia
    cases ho : occurrences x y 0 x.length (x.length + 1) with
    | nil => rfl
    | cons i r =>
      have := (occ_spec x y 0 x.length (x.length + 1) i (by rw [ho]; exact List.mem_cons_self)).1
      lia
  · split
    · rename_i he
      exact one (emp (List.isEmpty_iff.mp he))
    · exact hb
set_option tactic.hygienic true in
theorem replace_parts {x y z : Str} {c : Nat} {t : List Nat} {parts : List (List Nat)} (hy : cp y = c :: t) (hp : ∀ p ∈ parts, c ∉ p) (hne : parts ≠ []) (hx : cp x = cat (cp y) parts) : cp (Txt.replace x y z) = cat (cp z) parts := by
  have h := occ_parts hy hp hne hx
  have hyl : 1 ≤ y.length := by rw [← cp_len, hy]; simp
  unfold Txt.replace
  split
  · rename_i hc
    simp only [Bool.or_eq_true, Bool.and_eq_true, beq_iff_eq] at hc
    rcases hc with hc | ⟨hc, _⟩
    · have he := List.isEmpty_iff.mp hc
      rw [he, partsBetween_eq] at h
      match parts, h with
      | [p], _ => exact hx
    · lia
  · rw [glued_eq_join, cp_join, h]
end

section
open PySem PySem.W PyProof.Rows PySem.Spec PySem.SeqAt PySem.Calls
open PySem.StrLaws PySem.Builtin.Str
set_option autoImplicit false
set_option linter.unusedVariables false
set_option maxRecDepth 100000
set_option tactic.hygienic false
theorem normS_app : ∀ (p rest : List Nat), 13 ∉ p → 10 ∉ p → normS false (p ++ rest) = p ++ normS false rest
  | [], rest, _, _ => rfl
  | c :: p, rest, h1, h2 => by
    have e1 : c ≠ 13 := fun e => h1 (by rw [e]; exact List.mem_cons_self)
    have e2 : c ≠ 10 := fun e => h2 (by rw [e]; exact List.mem_cons_self)
    rw [List.cons_append]
    show (if c = 13 then _ else if c = 10 then _ else c :: normS false (p ++ rest)) = _
    rw [if_neg e1, if_neg e2, normS_app p rest (fun m => h1 (List.mem_cons_of_mem _ m)) (fun m => h2 (List.mem_cons_of_mem _ m))]
    rfl
theorem norm_cat {e : List Nat} (he : e = [10] ∨ e = [13] ∨ e = [13, 10]) : ∀ parts : List (List Nat), (∀ p ∈ parts, 13 ∉ p ∧ 10 ∉ p) → normS false (cat e parts) = cat [13, 10] parts
  | [], _ => rfl
  | [p], h => by
    have := normS_app p [] (h p List.mem_cons_self).1 (h p List.mem_cons_self).2
    rw [List.append_nil] at this
    show normS false p = p
    rw [this]; simp [normS]
  | p :: q :: r, h => by
    have ih := norm_cat he (q :: r) fun x hx => h x (List.mem_cons_of_mem _ hx)
    rw [cat_cons, cat_cons, List.append_assoc, normS_app p _ (h p List.mem_cons_self).1 (h p List.mem_cons_self).2, List.append_assoc, ← ih]
    congr 1
    rcases he with rfl | rfl | rfl
    · rfl
    · show 13 :: 10 :: normS true (cat [13] (q :: r)) = 13 :: 10 :: normS false (cat [13] (q :: r))
      rw [normS_other]
      intro hh
      have hq := (h q (List.mem_cons_of_mem _ List.mem_cons_self)).2
      cases r with
      | nil =>
        have hh : q.head? = some 10 := hh
        exact hq (List.mem_of_mem_head? hh)
      | cons r1 r2 =>
        rw [cat_cons] at hh
        cases q with
        | nil => cases hh
        | cons c q => cases hh; exact hq List.mem_cons_self
    · rfl
noncomputable def dotL : List Nat → List Nat
  | 46 :: r => 46 :: 46 :: r
  | p => p
theorem dotsS_app : ∀ (p rest : List Nat), 10 ∉ p → dotsS false (p ++ rest) = p ++ dotsS false rest
  | [], rest, _ => rfl
  | c :: p, rest, h2 => by
    have e2 : c ≠ 10 := fun e => h2 (by rw [e]; exact List.mem_cons_self)
    rw [List.cons_append]
    show (if (false && c == 46) = true then _ else c :: dotsS (c == 10) (p ++ rest)) = _
    rw [if_neg (by simp), show (c == 10) = false by simpa using e2, dotsS_app p rest (fun m => h2 (List.mem_cons_of_mem _ m))]
    rfl
set_option tactic.hygienic true in
theorem dotsS_line (p rest : List Nat) (h : 10 ∉ p) (hr : p = [] → ∀ t, rest ≠ 46 :: t) : dotsS true (p ++ rest) = dotL p ++ dotsS (if p = [] then true else false) rest := by
  cases p with
  | nil => simp [dotL]
  | cons c p =>
    have hp : 10 ∉ p := fun m => h (List.mem_cons_of_mem _ m)
    have e2 : c ≠ 10 := fun e => h (by rw [e]; exact List.mem_cons_self)
    rw [if_neg (by simp), List.cons_append]
    show (if (true && c == 46) = true then 46 :: 46 :: dotsS false (p ++ rest) else c :: dotsS (c == 10) (p ++ rest)) = _
    by_cases hc : c = 46
    · subst hc
      rw [if_pos (by decide), dotsS_app p rest hp]
      rfl
    · rw [if_neg (by simp [hc]), show (c == 10) = false by simpa using e2, dotsS_app p rest hp]
      have : dotL (c :: p) = c :: p := by
        unfold dotL
        split
        · rename_i e; cases e; exact absurd rfl hc
        · rfl
      rw [this]; rfl
theorem dots_cat : ∀ parts : List (List Nat), (∀ p ∈ parts, 10 ∉ p) → dotsS true (cat [13, 10] parts) = cat [13, 10] (parts.map dotL)
  | [], _ => rfl
  | [p], h => by
    have := dotsS_line p [] (h p List.mem_cons_self) (fun _ t e => by cases e)
    rw [List.append_nil] at this
    show dotsS true p = dotL p
    rw [this]; simp [dotsS]
  | p :: q :: r, h => by
    have ih := dots_cat (q :: r) fun x hx => h x (List.mem_cons_of_mem _ hx)
    rw [cat_cons, List.map_cons, List.map_cons, cat_cons, List.append_assoc, dotsS_line p _ (h p List.mem_cons_self) (fun _ t e => by cases e), List.append_assoc]
    congr 1
    rw [← List.map_cons, ← ih]
    split <;> rfl
noncomputable def noCS : List Nat → Bool
  | 58 :: 32 :: _ => false
  | _ :: r => noCS r
  | [] => true
set_option tactic.hygienic true in
theorem noCS_at : ∀ (l : List Nat), noCS l = true → ∀ k, (l.drop k).take 2 ≠ [58, 32]
  | [], _, k => by simp
  | c :: l, h, 0 => by
    intro e
    rw [List.drop_zero] at e
    cases l with
    | nil => simp at e
    | cons d l =>
      simp only [List.take_succ_cons, List.take_zero, List.cons.injEq, and_true] at e
      obtain ⟨rfl, rfl⟩ := e
      simp [noCS] at h
  | c :: l, h, k + 1 => by
    rw [List.drop_succ_cons]
    refine noCS_at l ?_ k
    unfold noCS at h
    split at h
    · cases h
    · rename_i e; cases e; exact h
    · rename_i e; cases e
theorem noCS_dot (l : List Nat) (h : noCS l = true) : noCS (dotL l) = true := by
  unfold dotL
  split
  · simpa [noCS] using h
  · exact h
theorem cs_cp : cp cs = [58, 32] := by decide +kernel
theorem crlf_cp : cp crlf = [13, 10] := by decide +kernel
theorem part_row {x : Str} {n v : List Nat} (hx : cp x = n ++ [58, 32] ++ v) (hn : noCS n = true) : partRow x = (ofl n, ofl v) := by
  have hl : x.length = n.length + 2 + v.length := by rw [← cp_len, hx]; simp; lia
  have hcl : cs.length = 2 := by rw [← cp_len, cs_cp]; rfl
  have hat : At x cs x.length n.length := by
    rw [at_iff, hcl, cs_cp, hx]
    refine ⟨by lia, ?_⟩
    rw [List.append_assoc, List.drop_left]; rfl
  have hno : ∀ k, k < n.length → ¬ At x cs x.length k := by
    intro k hk hA
    rw [at_iff, hcl, cs_cp, hx, List.append_assoc] at hA
    have h2 := hA.2
    rw [List.drop_append_of_le_length (by lia)] at h2
    by_cases hk1 : k + 1 < n.length
    · rw [List.take_append_of_le_length (by rw [List.length_drop]; lia)] at h2
      exact noCS_at n hn k h2
    · have hd : (n.drop k).length = 1 := by rw [List.length_drop]; lia
      match h3 : n.drop k, hd with
      | [d], _ =>
        rw [h3] at h2
        simp at h2
  have key : ∃ r, occurrences x cs 0 x.length 1 = n.length :: r := by
    rcases occ_head x cs 1 (Nat.le_refl _) with ⟨_, h⟩ | ⟨i, r, h1, h2, h3⟩
    · exact absurd hat (h _)
    · refine ⟨r, ?_⟩
      rw [h1]
      have : i = n.length := by
        rcases Nat.lt_trichotomy i n.length with q | q | q
        · exact absurd h2 (hno i q)
        · exact q
        · exact absurd hat (h3 _ q)
      rw [this]
  obtain ⟨r, hr⟩ := key
  unfold partRow Txt.partition
  rw [hr]
  dsimp only
  have e1 : cp (strSub x 0 n.length) = n := by
    rw [show cp (strSub x 0 n.length) = ((cp x).drop 0).take (n.length - 0) from strSub_toList x 0 n.length, hx, List.drop_zero, Nat.sub_zero, List.append_assoc, List.take_left]
  have e2 : cp (strSub x (n.length + cs.length) x.length) = v := by
    rw [show cp (strSub x (n.length + cs.length) x.length) = ((cp x).drop (n.length + cs.length)).take (x.length - (n.length + cs.length)) from strSub_toList x _ _, hx, hcl, hl]
    rw [show n.length + 2 = (n ++ [58, 32]).length by simp, List.drop_left]
    rw [Nat.add_sub_cancel_left, List.take_length]
  rw [← ofl_cp (strSub x 0 n.length), e1, ← ofl_cp (strSub x (n.length + cs.length) x.length), e2]
noncomputable def dotStr (n : Str) : Str := ofl (dotL (cp n))
noncomputable def sentRow (r : Str × Str) : Str × Str := (dotStr r.1, r.2)
structure RowS (r : Str × Str) : Prop where
  n : r.1.length ≤ 400
  v : r.2.length ≤ 400
  hn : hasN r.1 = false
  hv : hasV r.2 = false
  cs : noCS (cp r.1) = true
structure RowsS (rows : List (Str × Str)) : Prop where
  len : rows.length ≤ 40
  all : ∀ r ∈ rows, RowS r
theorem no_of {x : Str} (h : hasN x = false) : 13 ∉ cp x ∧ 10 ∉ cp x := by
  unfold hasN at h
  rw [List.any_eq_false] at h
  exact ⟨fun m => h 13 m (by decide), fun m => h 10 m (by decide)⟩
theorem no_ofV {x : Str} (h : hasV x = false) : 13 ∉ cp x ∧ 10 ∉ cp x := by
  unfold hasV at h
  rw [List.any_eq_false] at h
  exact ⟨fun m => h 13 m (by decide), fun m => h 10 m (by decide)⟩
theorem cp_line (r : Str × Str) : cp (lineOf r) = cp r.1 ++ [58, 32] ++ cp r.2 := by
  unfold lineOf
  simp [cp, Str.cps_append]
theorem line_no {r : Str × Str} (h : RowS r) : 13 ∉ cp (lineOf r) ∧ 10 ∉ cp (lineOf r) := by
  rw [cp_line]
  have h1 := no_of h.hn
  have h2 := no_ofV h.hv
  simp only [List.mem_append, List.mem_cons, List.not_mem_nil, or_false, not_or]
  exact ⟨⟨⟨h1.1, by decide⟩, h2.1⟩, ⟨⟨h1.2, by decide⟩, h2.2⟩⟩
noncomputable def partsOf (rows : List (Str × Str)) : List (List Nat) := rows.map (fun r => cp (lineOf r)) ++ [[], []]
theorem cat_len (e : List Nat) : ∀ parts : List (List Nat), (cat e parts).length ≤ (parts.map fun p => p.length + e.length).sum
  | [] => by simp [cat]
  | [p] => by simp [cat]
  | p :: q :: r => by
    rw [cat_cons, List.map_cons, List.sum_cons, List.length_append, List.length_append]
    have := cat_len e (q :: r)
    lia
theorem sum_le {l : List Nat} {b : Nat} (h : ∀ x ∈ l, x ≤ b) : l.sum ≤ l.length * b := by
  induction l with
  | nil => simp
  | cons x l ih =>
    rw [List.sum_cons, List.length_cons, Nat.succ_mul]
    have := h x List.mem_cons_self
    have := ih fun y hy => h y (List.mem_cons_of_mem _ hy)
    lia
theorem empty_cp : cp (Str.ofString "") = [] := by decide +kernel
theorem parts_no {rows : List (Str × Str)} (h : RowsS rows) : ∀ p ∈ partsOf rows, 13 ∉ p ∧ 10 ∉ p := by
  intro p hp
  unfold partsOf at hp
  rcases List.mem_append.mp hp with hp | hp
  · obtain ⟨r, hr, rfl⟩ := List.mem_map.mp hp
    exact line_no (h.all r hr)
  · simp only [List.mem_cons, List.not_mem_nil, or_false] at hp
    rcases hp with rfl | rfl <;> exact ⟨by simp, by simp⟩
theorem parts_ne (rows : List (Str × Str)) : partsOf rows ≠ [] := by unfold partsOf; simp
theorem parts_len {rows : List (Str × Str)} (h : RowsS rows) : ∀ p ∈ partsOf rows, p.length ≤ 802 := by
  intro p hp
  unfold partsOf at hp
  rcases List.mem_append.mp hp with hp | hp
  · obtain ⟨r, hr, rfl⟩ := List.mem_map.mp hp
    have := h.all r hr
    rw [cp_line]
    simp only [List.length_append, cp_len, List.length_cons, List.length_nil]
    have := this.n; have := (h.all r hr).v; lia
  · simp only [List.mem_cons, List.not_mem_nil, or_false] at hp
    rcases hp with rfl | rfl <;> simp
theorem cat_small {rows : List (Str × Str)} (h : RowsS rows) {e : List Nat} (he : e.length ≤ 2) {f : List Nat → List Nat} (hf : ∀ p, (f p).length ≤ p.length + 1) : (cat e ((partsOf rows).map f)).length ≤ 42 * 805 := by
  refine Nat.le_trans (cat_len _ _) (Nat.le_trans (sum_le (b := 805) ?_) ?_)
  · intro x hx
    obtain ⟨p, hp, rfl⟩ := List.mem_map.mp hx
    obtain ⟨q, hq, rfl⟩ := List.mem_map.mp hp
    have := hf q
    have := parts_len h q hq
    lia
  · refine Nat.mul_le_mul_right _ ?_
    rw [List.length_map, List.length_map]
    unfold partsOf
    have := h.len
    simp; lia
theorem dotL_len (p : List Nat) : (dotL p).length ≤ p.length + 1 := by
  unfold dotL
  split <;> simp
noncomputable def textOf (rows : List (Str × Str)) : Str := Txt.join crlf (rows.map lineOf ++ [Str.ofString "", Str.ofString ""])
theorem cp_text (rows : List (Str × Str)) : cp (textOf rows) = cat [13, 10] (partsOf rows) := by
  unfold textOf Txt.join
  rw [glued_eq_join, cp_join, crlf_cp]
  unfold partsOf
  rw [List.map_append, List.map_map]
  simp only [List.map_cons, List.map_nil, empty_cp]
  rfl
structure EndOk (e : Str) : Prop where
  ex : cp e = [10] ∨ cp e = [13] ∨ cp e = [13, 10]
theorem cp_repl {rows : List (Str × Str)} (h : RowsS rows) (e : Str) : cp (Txt.replace (textOf rows) crlf e) = cat (cp e) (partsOf rows) :=
  replace_parts (c := 13) (t := [10]) crlf_cp (fun p hp => (parts_no h p hp).1) (parts_ne rows) (by rw [cp_text, crlf_cp])
theorem cp_norm {rows : List (Str × Str)} (h : RowsS rows) {e : Str} (he : EndOk e) : cp (norm (Txt.replace (textOf rows) crlf e)) = cat [13, 10] (partsOf rows) := by
  show normS false (cp (Txt.replace (textOf rows) crlf e)) = _
  rw [cp_repl h e]
  exact norm_cat he.ex _ (parts_no h)
theorem cp_sent {rows : List (Str × Str)} (h : RowsS rows) {e : Str} (he : EndOk e) : cp (sentTxt (textOf rows) e) = cat [13, 10] ((partsOf rows).map dotL) := by
  show dotsS true (cp (norm (Txt.replace (textOf rows) crlf e))) = _
  rw [cp_norm h he]
  exact dots_cat _ fun p hp => (parts_no h p hp).2
theorem dotL_no {p : List Nat} (h : 13 ∉ p) : 13 ∉ dotL p := by
  unfold dotL
  split
  · simp only [List.mem_cons, not_or] at h ⊢
    exact ⟨by decide, by decide, h.2⟩
  · exact h
theorem split_sent {rows : List (Str × Str)} (h : RowsS rows) {e : Str} (he : EndOk e) : Txt.split (sentTxt (textOf rows) e) crlf = ((partsOf rows).map dotL).map ofl := by
  refine split_parts (c := 13) (t := [10]) crlf_cp (by decide +kernel) ?_ ?_ (by rw [cp_sent h he, crlf_cp])
  · intro p hp
    obtain ⟨q, hq, rfl⟩ := List.mem_map.mp hp
    exact dotL_no (parts_no h q hq).1
  · have := parts_ne rows
    simpa using this
theorem cut_sent {rows : List (Str × Str)} (h : RowsS rows) {e : Str} (he : EndOk e) : sentCut (textOf rows) e = rows.map fun r => ofl (dotL (cp (lineOf r))) := by
  unfold sentCut
  rw [split_sent h he]
  unfold partsOf
  rw [List.map_append, List.map_append, List.length_append]
  rw [List.take_append_of_le_length (by simp)]
  simp only [List.map_map, List.length_map, List.map_cons, List.map_nil, List.length_cons, List.length_nil]
  rw [List.take_of_length_le (by simp)]
  rfl
set_option tactic.hygienic true in
theorem dotL_line (n v : List Nat) : dotL (n ++ [58, 32] ++ v) = dotL n ++ [58, 32] ++ v := by
  cases n with
  | nil => rfl
  | cons c n =>
    by_cases hc : c = 46
    · subst hc; rfl
    · have e1 : ∀ l, dotL (c :: l) = c :: l := by
        intro l
        unfold dotL
        split
        · rename_i e; cases e; exact absurd rfl hc
        · rfl
      rw [e1]
      show dotL (c :: (n ++ [58, 32] ++ v)) = _
      rw [e1]; rfl
theorem rows_sent {rows : List (Str × Str)} (h : RowsS rows) {e : Str} (he : EndOk e) : (sentCut (textOf rows) e).map partRow = rows.map sentRow := by
  rw [cut_sent h he, List.map_map]
  refine List.map_congr_left fun r hr => ?_
  show partRow (ofl (dotL (cp (lineOf r)))) = sentRow r
  rw [part_row (n := dotL (cp r.1)) (v := cp r.2) (by rw [cp_ofl, cp_line, dotL_line]) (noCS_dot _ (h.all r hr).cs), ofl_cp]
  rfl
theorem sent_okk {rows : List (Str × Str)} (h : RowsS rows) {e : Str} (he : EndOk e) : sentOk (textOf rows) e := by
  have hel : e.length ≤ 2 := by
    rw [← cp_len]
    rcases he.ex with q | q | q <;> (rw [q]; simp)
  have hel2 : (cp e).length ≤ 2 := by rw [cp_len]; exact hel
  have id_le : ∀ p : List Nat, (id p).length ≤ p.length + 1 := fun p => Nat.le_succ _
  have x1 : (textOf rows).length ≤ 42 * 805 := by
    rw [← cp_len, cp_text]
    have := cat_small h (e := [13, 10]) (by simp) id_le
    rwa [List.map_id] at this
  have x2 : (Txt.replace (textOf rows) crlf e).length ≤ 42 * 805 := by
    rw [← cp_len, cp_repl h]
    have := cat_small h hel2 id_le
    rwa [List.map_id] at this
  have x3 : (norm (Txt.replace (textOf rows) crlf e)).length ≤ 42 * 805 := by
    rw [← cp_len, cp_norm h he]
    have := cat_small h (e := [13, 10]) (by simp) id_le
    rwa [List.map_id] at this
  have x4 : (sentTxt (textOf rows) e).length ≤ 42 * 805 := by
    rw [← cp_len, cp_sent h he]
    exact cat_small h (by simp) dotL_len
  have hsl : (Txt.split (sentTxt (textOf rows) e) crlf).length = rows.length + 2 := by
    rw [split_sent h he]
    unfold partsOf
    simp
  have hoc : (partsBetween (sentTxt (textOf rows) e) (occurrences (sentTxt (textOf rows) e) crlf 0 (sentTxt (textOf rows) e).length ((sentTxt (textOf rows) e).length + 1)) crlf.length).length = rows.length + 2 := by
    have := occ_parts (x := sentTxt (textOf rows) e) (y := crlf) (c := 13) (t := [10]) (parts := (partsOf rows).map dotL) crlf_cp (fun p hp => by
      obtain ⟨q, hq, rfl⟩ := List.mem_map.mp hp
      exact dotL_no (parts_no h q hq).1) (by have := parts_ne rows; simpa using this) (by rw [cp_sent h he, crlf_cp])
    have := congrArg List.length this
    rw [List.length_map, List.length_map] at this
    rw [this]
    unfold partsOf
    simp
  have hr := h.len
  have sl := sizeLine_eq
  refine ⟨?_, by lia, by lia, by lia, by lia, by lia, by lia, ?_, ?_⟩
  · have : ((textOf rows).length + 1) * e.length ≤ (42 * 805 + 1) * 2 := Nat.mul_le_mul (by lia) hel
    lia
  · rw [cut_sent h he, List.length_map]; lia
  · intro l hl
    rw [cut_sent h he] at hl
    obtain ⟨r, hr', rfl⟩ := List.mem_map.mp hl
    rw [← cp_len, cp_ofl]
    have h1 := dotL_len (cp (lineOf r))
    have h2 := parts_len h (cp (lineOf r)) (by unfold partsOf; exact List.mem_append_left _ (List.mem_map.mpr ⟨r, hr', rfl⟩))
    lia
end

section
open PySem PySem.W PyProof.Rows PySem.Spec PySem.SeqAt PySem.Calls
open PySem.StrLaws PySem.Builtin.Str
set_option autoImplicit false
set_option linter.unusedVariables false
set_option maxRecDepth 100000
set_option tactic.hygienic false
theorem RowsS.ok {rows : List (Str × Str)} (h : RowsS rows) : rowsOk rows = true := by
  unfold rowsOk
  simp only [Bool.and_eq_true, decide_eq_true_eq, List.all_eq_true]
  refine ⟨by have := h.len; lia, fun r hr => ?_⟩
  unfold rowOk
  have := h.all r hr
  simp only [Bool.and_eq_true, decide_eq_true_eq]
  exact ⟨by have := this.n; lia, by have := this.v; lia⟩
theorem foldl_len (k : Nat) : ∀ (l : List Str) (a : Nat), l.foldl (fun a x => a + x.length + k) a ≤ a + (l.map fun x => x.length + k).sum
  | [], a => by simp
  | x :: l, a => by
    rw [List.foldl_cons, List.map_cons, List.sum_cons]
    have := foldl_len k l (a + x.length + k)
    lia
theorem joinOk_rows {rows : List (Str × Str)} (h : RowsS rows) : JoinOk crlf (rows.map lineOf ++ [Str.ofString "", Str.ofString ""]) = true := by
  unfold JoinOk
  rw [List.foldl_toArray]
  have h1 := foldl_len crlf.length (rows.map lineOf ++ [Str.ofString "", Str.ofString ""]) 0
  have hc : crlf.length = 2 := by rw [← cp_len, crlf_cp]; rfl
  have h2 : ((rows.map lineOf ++ [Str.ofString "", Str.ofString ""]).map fun x => x.length + crlf.length).sum ≤ 42 * 805 := by
    refine Nat.le_trans (sum_le (b := 805) ?_) ?_
    · intro x hx
      obtain ⟨t, ht, rfl⟩ := List.mem_map.mp hx
      rw [hc]
      rcases List.mem_append.mp ht with ht | ht
      · obtain ⟨r, hr, rfl⟩ := List.mem_map.mp ht
        have := parts_len h (cp (lineOf r)) (by unfold partsOf; exact List.mem_append_left _ (List.mem_map.mpr ⟨r, hr, rfl⟩))
        rw [cp_len] at this
        lia
      · have : t.length = 0 := by
          simp only [List.mem_cons, List.not_mem_nil, or_false] at ht
          rcases ht with rfl | rfl <;> (rw [← cp_len, empty_cp]; rfl)
        lia
    · refine Nat.mul_le_mul_right _ ?_
      have := h.len
      simp; lia
  have h3 : (List.foldl (fun x1 x2 => x1 + x2.length + crlf.length) 0 (rows.map lineOf ++ [Str.ofString "", Str.ofString ""])) ≤ 42 * 805 := by lia
  unfold tooLong
  rw [Bool.not_eq_true', decide_eq_false_iff_not]
  rw [sizeLine_eq]
  lia
theorem str_ok {H : List PO} {i l : Nat} {rows : List (Str × Str)} (t : Tab H i l rows) (h : RowsS rows) : ∃ X, strSpec [.ref i] [] H = some (.ok (.str (textOf rows)), H ++ X) := by
  refine ⟨[PO.list ((rows.map lineOf).map PV.str)] ++ [PO.list [PV.str (Str.ofString ""), PV.str (Str.ofString "")]] ++ [PO.list ((rows.map lineOf ++ [Str.ofString "", Str.ofString ""]).map PV.str)], ?_⟩
  unfold strSpec
  dsimp only
  rw [t.get]
  dsimp only
  rw [if_pos ⟨h.ok, joinOk_rows h⟩]
  simp only [List.append_assoc]
  rfl
theorem dot_hasN {n : Str} (h : hasN n = false) : hasN (dotStr n) = false := by
  unfold hasN at h ⊢
  rw [List.any_eq_false] at h ⊢
  intro c hc
  have hc : c ∈ dotL (cp n) := hc
  have hsub : ∀ l : List Nat, ∀ c ∈ dotL l, c ∈ l := by
    intro l c hc
    unfold dotL at hc
    split at hc
    · rcases List.mem_cons.mp hc with rfl | hc
      · exact List.mem_cons_self
      · assumption
    · assumption
  exact h c (hsub _ c hc)
theorem init_ok {H : List PO} {i k l : Nat} {rows : List (Str × Str)} (h1 : H[i]? = some (.inst k)) (h2 : H[k]? = some (.dct [])) (h3 : H[l]? = some (.list (rows.map row))) (ho : rowsOk rows = true) (hv : ∀ r ∈ rows, hasN r.1 = false ∧ hasV r.2 = false) : initSpec [.ref i, .ref l] [] H = some (.ok .none, H.set k (.dct [("_headers", .ref l)])) := by
  unfold initSpec
  dsimp only
  rw [h1, h3]
  dsimp only
  rw [h2, unrow_row]
  dsimp only
  have hb : (rows.all fun r => !hasN r.1 && !hasV r.2) = true := by
    rw [List.all_eq_true]
    intro r hr
    have := hv r hr
    simp [this.1, this.2]
  rw [if_pos ⟨ho, hb⟩]
theorem class_ok {H : List PO} {l : Nat} {rows : List (Str × Str)} (h3 : H[l]? = some (.list (rows.map row))) (ho : rowsOk rows = true) (hv : ∀ r ∈ rows, hasN r.1 = false ∧ hasV r.2 = false) :
    ∃ X, clsSpec initSpec [.ref l] [] H = some (.ok (.ref (H.length + 1)), H ++ X) ∧ Tab (H ++ X) (H.length + 1) l rows := by
  have hl := lt_of_get h3
  have e1 : (H ++ [PO.dct []] ++ [PO.inst H.length])[H.length + 1]? = some (.inst H.length) := by
    rw [List.getElem?_append_right (by simp)]; simp
  have e2 : (H ++ [PO.dct []] ++ [PO.inst H.length])[H.length]? = some (.dct []) := by
    rw [List.append_assoc, List.getElem?_append_right (Nat.le_refl _)]; simp
  have e3 : (H ++ [PO.dct []] ++ [PO.inst H.length])[l]? = some (.list (rows.map row)) := by
    rw [List.append_assoc, List.getElem?_append_left hl]; exact h3
  refine ⟨[PO.dct [("_headers", .ref l)], PO.inst H.length], ?_, ?_⟩
  · unfold clsSpec
    rw [init_ok e1 e2 e3 ho hv]
    dsimp only
    congr 2
    rw [List.append_assoc, List.set_append_right _ _ (Nat.le_refl _)]
    simp
  · refine ⟨H.length, ?_, ?_, ?_⟩
    · rw [List.getElem?_append_right (by lia)]; simp
    · rw [List.getElem?_append_right (Nat.le_refl _)]; simp
    · rw [List.getElem?_append_left hl]; exact h3
theorem RowS.sent {r : Str × Str} (h : RowS r) : (sentRow r).1.length ≤ r.1.length + 1 := by
  unfold sentRow dotStr
  rw [← cp_len, ← cp_len, cp_ofl]
  exact dotL_len _
theorem sent_ok {H : List PO} {i l : Nat} {rows : List (Str × Str)} {e : Str} (t : Tab H i l rows) (h : RowsS rows) (he : EndOk e) : ∃ i' l' X, sentSpec [.ref i, .lit e] [] H = some (.ok (.ref i'), H ++ X) ∧ Tab (H ++ X) i' l' (rows.map sentRow) ∧ H.length ≤ l' := by
  obtain ⟨X, hX⟩ := str_ok t h
  have hs : sentSpec [.ref i, .lit e] [] H = clsSpec initSpec [.ref ((H ++ X).length + 2)] [] ((H ++ X) ++ [PO.list ((Txt.split (sentTxt (textOf rows) e) crlf).map PV.str)] ++ [PO.list ((sentCut (textOf rows) e).map PV.str)] ++ [PO.list (((sentCut (textOf rows) e).map partRow).map row)]) := by
    unfold sentSpec
    dsimp only
    rw [hX]
    dsimp only
    rw [if_pos (sent_okk h he)]
  rw [rows_sent h he] at hs
  generalize hG : (H ++ X) ++ [PO.list ((Txt.split (sentTxt (textOf rows) e) crlf).map PV.str)] ++ [PO.list ((sentCut (textOf rows) e).map PV.str)] = HG at hs
  have hGl : HG.length = (H ++ X).length + 2 := by rw [← hG]; simp; lia
  have hl3 : (HG ++ [PO.list ((rows.map sentRow).map row)])[(H ++ X).length + 2]? = some (.list ((rows.map sentRow).map row)) := by
    rw [← hGl, List.getElem?_append_right (Nat.le_refl _)]; simp
  have ho : rowsOk (rows.map sentRow) = true := by
    unfold rowsOk
    simp only [Bool.and_eq_true, decide_eq_true_eq, List.all_eq_true, List.length_map]
    refine ⟨by have := h.len; lia, fun r hr => ?_⟩
    obtain ⟨q, hq, rfl⟩ := List.mem_map.mp hr
    have := h.all q hq
    unfold rowOk
    simp only [Bool.and_eq_true, decide_eq_true_eq]
    exact ⟨by have := this.sent; have := (h.all q hq).n; lia, by have := this.v; show q.2.length ≤ 10000; lia⟩
  obtain ⟨Y, hY, hT⟩ := class_ok hl3 ho fun r hr => by
    obtain ⟨q, hq, rfl⟩ := List.mem_map.mp hr
    exact ⟨dot_hasN (h.all q hq).hn, (h.all q hq).hv⟩
  have eA : HG ++ [PO.list ((rows.map sentRow).map row)] ++ Y = H ++ (X ++ [PO.list ((Txt.split (sentTxt (textOf rows) e) crlf).map PV.str)] ++ [PO.list ((sentCut (textOf rows) e).map PV.str)] ++ [PO.list ((rows.map sentRow).map row)] ++ Y) := by
    rw [← hG]; simp only [List.append_assoc]
  refine ⟨_, _, _, hs.trans (hY.trans (by rw [eA])), by rw [← eA]; exact hT, by simp; lia⟩
end

section
open PySem PySem.W PyProof.Rows PySem.Spec PySem.SeqAt PySem.Calls
set_option autoImplicit false
set_option linter.unusedVariables false
set_option linter.unusedSectionVars false
set_option maxRecDepth 100000
set_option maxHeartbeats 4000000
set_option tactic.hygienic false
section
variable {σ : PS}
noncomputable def hasA (x : Nat) : List Nat → Bool
  | [] => false
  | y :: r => Nat.beq y x || hasA x r
noncomputable def natP (n : Nat) : PV := .int (n : Int)
theorem fmodN (n m : Nat) : Int.fmod (n : Int) (m : Int) = ((n % m : Nat) : Int) := (Int.ofNat_fmod n m).symm
theorem PW.modN {n m : Nat} {Q : PV → PS → Prop} (hm : m ≠ 0) (h : Q (natP (n % m)) σ) : PW (pMod (natP n) (natP m)) σ Q := PW.guard (by lia) (by rw [fmodN]; exact PW.pure h)
theorem PW.addN {n m : Nat} {Q : PV → PS → Prop} (h : Q (natP (n + m)) σ) : PW (pAdd (natP n) (natP m)) σ Q := PW.pure (by simpa [natP] using h)
theorem PW.subN {n m : Nat} {Q : PV → PS → Prop} (hm : m ≤ n) (h : Q (natP (n - m)) σ) : PW (pSub (natP n) (natP m)) σ Q := PW.pure (by
  have : ((n - m : Nat) : Int) = (n : Int) - m := by lia
  unfold natP at h
  rw [this] at h; exact h)
theorem PW.eqN {n m : Nat} {Q : PV → PS → Prop} (h : Q (.bool (n == m)) σ) : PW (pEq (natP n) (natP m)) σ Q := PW.pure (by
  have : ((n : Int) == (m : Int)) = (n == m) := by
    by_cases e : n = m
    · subst e; simp
    · have e' : (n : Int) ≠ (m : Int) := by lia
      rw [beq_eq_false_iff_ne.mpr e, beq_eq_false_iff_ne.mpr e']
  rw [this]; exact h)
theorem PW.truthN {n : Nat} {Q : Bool → PS → Prop} (h : Q (!Nat.beq n 0) σ) : PW (ptruthy (natP n)) σ Q := PW.pure (by
  cases n with
  | zero => exact h
  | succ n => exact h)
theorem pints_nats : ∀ ns : List Nat, pints (ns.map natP) = some (ns.map fun n : Nat => (n : Int))
  | [] => rfl
  | n :: ns => by
    show (pints (ns.map natP)).map _ = _
    rw [pints_nats ns]; rfl
theorem PW.sumN {i : Nat} {ns : List Nat} {Q : PV → PS → Prop} (e : σ.H[i]? = some (.list (ns.map natP))) (h : Q (natP ns.sum) σ) : PW (fSum [.ref i]) σ Q := PW.plist e (PW.opt (pints_nats ns) (PW.pure (by
  have : ∀ l : List Nat, (l.map fun n : Nat => (n : Int)).sum = ((l.sum : Nat) : Int) := by
    intro l
    induction l with
    | nil => rfl
    | cons x l ih => rw [List.map_cons, List.sum_cons, List.sum_cons, ih]; simp
  rw [this]; exact h)))
theorem hasA_iff (x : Nat) : ∀ l : List Nat, hasA x l = true ↔ x ∈ l
  | [] => by simp [hasA]
  | y :: l => by
    unfold hasA
    rw [Bool.or_eq_true, hasA_iff x l, List.mem_cons, Nat.beq_eq]
    constructor
    · rintro (h | h)
      · exact .inl h.symm
      · exact .inr h
    · rintro (h | h)
      · exact .inl h.symm
      · exact .inr h
theorem pall_nats (H : List PO) (k : Nat) : ∀ ns : List Nat, pall (pdata H k) (ns.map natP) = some (ns.map fun n : Nat => PyData.int (n : Int))
  | [] => rfl
  | n :: ns => by
    have e : pdata H k (natP n) = some (.int (n : Int)) := by cases k <;> rfl
    show (match pdata H k (natP n), pall (pdata H k) (ns.map natP) with
      | some d, some ds => some (d :: ds)
      | _, _ => none) = _
    rw [e, pall_nats H k ns]; rfl
theorem lay_nats : ∀ ns : List Nat, PyData.canLayAll0 (ns.map fun n : Nat => PyData.int (n : Int)) = true
  | [] => rfl
  | n :: ns => by
    have := lay_nats ns
    simp [PyData.canLayAll0, PyData.canLay0] at this ⊢
    exact this
theorem any_nats (x : Nat) : ∀ ns : List Nat, ((ns.map fun n : Nat => PyData.int (n : Int)).any fun e => PyData.eqv e (.int (x : Int))) = hasA x ns
  | [] => rfl
  | n :: ns => by
    have e : PyData.eqv (PyData.int (n : Int)) (PyData.int (x : Int)) = Nat.beq n x := by
      show ((n : Int) == (x : Int)) = Nat.beq n x
      by_cases e : n = x
      · subst e; simp
      · have e' : (n : Int) ≠ (x : Int) := by lia
        rw [beq_eq_false_iff_ne.mpr e']
        exact (Bool.eq_false_iff.mpr fun h => e (Nat.beq_eq.mp h)).symm
    rw [List.map_cons, List.any_cons, any_nats x ns, e]
    rfl
theorem PW.while {c : PM Bool} {b : PM PF} {Q : PF → PS → Prop} (I : Nat → PS → Prop)
    (step : ∀ k σ, I k σ → PW c σ fun t σ₁ => if t = true then PW b σ₁ (fun f σ₂ => match f with
      | .next => ∃ k', k' < k ∧ I k' σ₂
      | .cont => ∃ k', k' < k ∧ I k' σ₂
      | .brk => Q .next σ₂
      | .ret v => Q (.ret v) σ₂) else Q .next σ₁) : ∀ (N k : Nat) (σ : PS), k < N → I k σ → PW (pwhile c b N) σ Q := by
  intro N
  induction N with
  | zero => intro k σ h; lia
  | succ N ih =>
    intro k σ hk hI
    unfold pwhile
    refine PW.bind (PW.noexc ((step k σ hI).mono fun t σ₁ h₁ => ?_))
    cases t with
    | false => exact PW.pure h₁
    | true =>
      refine PW.bind (PW.noexc (PW.mono h₁ fun f σ₂ h₂ => ?_))
      cases f with
      | next => obtain ⟨k', hk', hI'⟩ := h₂; exact ih k' σ₂ (by lia) hI'
      | cont => obtain ⟨k', hk', hI'⟩ := h₂; exact ih k' σ₂ (by lia) hI'
      | brk => exact PW.pure h₂
      | ret v => exact PW.pure h₂
theorem PW.forEnum {i : Nat} {l : List PV} {asg : PV → PM Unit} {b : PM PF} {Q : PF → PS → Prop} (ha : ∀ p ∈ l, allAtoms [p] = true) (I : Nat → PS → Prop) (hl : ∀ j σ, I j σ → σ.H[i]? = some (.list l))
    (step : ∀ (j : Nat) p σ, l[j]? = some p → I j σ → PW (asg (.tup [natP j, p])) σ fun _ σ₁ => PW b σ₁ fun f σ₂ => match f with
      | .next => I (j + 1) σ₂
      | .cont => I (j + 1) σ₂
      | .brk => Q .next σ₂
      | .ret v => Q (.ret v) σ₂)
    (fin : ∀ σ, I l.length σ → Q .next σ) : ∀ (N j : Nat) (σ : PS), l.length < N + j → j ≤ l.length → I j σ → PW (pfor (nxEnum i) asg b N j) σ Q := by
  intro N
  induction N with
  | zero => intro j σ h1 h2; lia
  | succ N ih =>
    intro j σ h1 h2 hI
    by_cases hj : j < l.length
    · have e : l[j]? = some l[j] := List.getElem?_eq_getElem hj
      have hn : nxEnum i j σ.H = some (some (.tup [natP j, l[j]])) := by
        unfold nxEnum; rw [hl j σ hI]; dsimp only; rw [e]; dsimp only
        rw [if_pos (ha _ (List.getElem_mem hj))]; rfl
      have z : PW (PM.bind (pnoexc (asg (.tup [natP j, l[j]]))) (fun _ => PM.bind (pnoexc b) fun r => pturn r (pfor (nxEnum i) asg b N (j + 1)))) σ Q := by
        refine PW.bind (PW.noexc ((step j _ σ e hI).mono fun _ σ₁ h₁ => PW.bind (PW.noexc (h₁.mono fun f σ₂ h₂ => ?_))))
        cases f with
        | next => exact ih (j + 1) σ₂ (by lia) (by lia) h₂
        | cont => exact ih (j + 1) σ₂ (by lia) (by lia) h₂
        | brk => exact PW.pure h₂
        | ret v => exact PW.pure h₂
      obtain ⟨a, σ', e3, q⟩ := z
      exact ⟨a, σ', by unfold pfor; rw [hn]; exact e3, q⟩
    · have : j = l.length := by lia
      subst this
      have e : l[l.length]? = none := List.getElem?_eq_none (Nat.le_refl _)
      have hn : nxEnum i l.length σ.H = some none := by
        unfold nxEnum; rw [hl _ σ hI]; dsimp only; rw [e]
      exact ⟨.next, σ, by unfold pfor; rw [hn], fin σ hI⟩
noncomputable def dotsN (k : Nat) : Str := ofl (List.replicate k 46)
theorem mul_dots : ∀ n ≤ 20, Txt.mul (Str.ofString ".") ((n : Nat) : Int) = dotsN n := by decide +kernel
theorem cat_end (e : List Nat) : ∀ ps : List (List Nat), cat e (ps ++ [[], []]) = (ps.map (· ++ e)).flatten ++ e
  | [] => by simp [cat]
  | [p] => by
    show p ++ e ++ ([] ++ e ++ []) = _
    simp
  | p :: q :: r => by
    rw [List.cons_append, List.cons_append, cat_cons, ← List.cons_append, cat_end e (q :: r)]
    simp [List.append_assoc]
noncomputable def lineL (r : Str × Str) : List Nat := cp (lineOf r) ++ [13, 10]
theorem cp_textF (rows : List (Str × Str)) : cp (textOf rows) = (rows.map lineL).flatten ++ [13, 10] := by
  rw [cp_text]
  unfold partsOf
  rw [cat_end, List.map_map]
  rfl
theorem PW.itemN {σ : PS} {i j : Nat} {l : List PV} {p : PV} {Q : PV → PS → Prop} (e0 : σ.H[i]? = some (.list l)) (e : l[j]? = some p) (hj : j < 2 ^ 62) (h : Q p σ) : PW (pitem (.ref i) (natP j)) σ Q := by
  refine PW.itemL (k := (j : Int)) e0 ?_ ?_ h
  · unfold pplace
    rw [if_pos (by lia)]
    simpa using e
  · lia
theorem PW.mulD {σ : PS} {n : Nat} {Q : PV → PS → Prop} (hn : n ≤ 20) (h : Q (.str (dotsN n)) σ) : PW (pMul (.str (Str.ofString ".")) (natP n)) σ Q := by
  refine PW.guard ⟨by lia, by lia, by decide⟩ ?_
  rw [mul_dots n hn]
  exact PW.pure h
theorem PW.addS {σ : PS} {x y : Str} {Q : PV → PS → Prop} (hs : x.length + y.length ≤ sizeLine) (h : Q (.str (x ++ y)) σ) : PW (pAdd (.str x) (.str y)) σ Q := PW.guard hs (PW.pure h)
theorem PW.iaddS {σ : PS} {x y : Str} {Q : PV → PS → Prop} (hs : x.length + y.length ≤ sizeLine) (h : Q (.str (x ++ y)) σ) : PW (pIAdd (.str x) (.str y)) σ Q := PW.guard hs (PW.pure h)
theorem PW.lindexN {σ : PS} {i k : Nat} {ns : List Nat} {Q : PV → PS → Prop} (e : σ.H[i]? = some (.list (ns.map natP))) (hk : (k : Int) ∈ ns.map (fun n : Nat => (n : Int))) (hl : ns.length ≤ 1000) (h : Q (natP ((ns.map (fun n : Nat => (n : Int))).idxOf (k : Int))) σ) : PW (mLIndex i [natP k]) σ Q :=
  PW.plist e (PW.opt (pints_nats ns) (PW.guard ⟨hk, by rw [List.length_map]; exact hl⟩ (PW.pure h)))
theorem PW.swap2 {σ : PS} {n m : String} {v w : PV} {Q : Unit → PS → Prop} (h : Q () { σ with loc := lset n v (lset m w σ.loc) }) : PW (pswap [n, m] (.tup [v, w])) σ Q := ⟨(), _, rfl, h⟩
theorem PW.swap3 {σ : PS} {n m k : String} {v w x : PV} {Q : Unit → PS → Prop} (h : Q () { σ with loc := lset n v (lset m w (lset k x σ.loc)) }) : PW (pswap [n, m, k] (.tup [v, w, x])) σ Q := ⟨(), _, rfl, h⟩
theorem cp_app (x y : Str) : cp (x ++ y) = cp x ++ cp y := by simp [cp, Str.cps_append]
theorem len_app (x y : Str) : (x ++ y).length = x.length + y.length := by rw [← cp_len, cp_app, List.length_append, cp_len, cp_len]
theorem dots_len (k : Nat) : (dotsN k).length = k := by rw [← cp_len]; show (List.replicate k 46).length = k; exact List.length_replicate
theorem cN : cp (Str.ofString "\x0d\n") = [13, 10] := by decide +kernel
theorem cC : cp (Str.ofString ": ") = [58, 32] := by decide +kernel
theorem lN : (Str.ofString "\x0d\n").length = 2 := by decide +kernel
theorem lC : (Str.ofString ": ").length = 2 := by decide +kernel
theorem lineL_eq (r : Str × Str) : lineL r = cp r.1 ++ [58, 32] ++ cp r.2 ++ [13, 10] := by
  unfold lineL lineOf
  rw [cp_app, cp_app]
theorem PW.val {α : Type} {p : PM α} {σ : PS} {v : α} {Q : α → PS → Prop} (h : PW p σ fun a τ => a = v ∧ τ = σ) (k : Q v σ) : PW p σ Q := h.mono fun a τ e => by obtain ⟨rfl, rfl⟩ := e; exact k
theorem PW.neg1 {σ : PS} {Q : PV → PS → Prop} (h : Q (.int (-1)) σ) : PW (pNeg (.int 1)) σ Q := PW.pure h
theorem get_app {H X : List PO} {x : Nat} {o : PO} (e : H[x]? = some o) : (H ++ X)[x]? = some o := by rw [List.getElem?_append_left (lt_of_get e)]; exact e
theorem get_set {H : List PO} {x y : Nat} {o o' : PO} (e : H[x]? = some o) (n : x ≠ y) : (H.set y o')[x]? = some o := by rw [List.getElem?_set_ne (Ne.symm n)]; exact e
theorem Tab.app {H X : List PO} {i l : Nat} {rows : List (Str × Str)} (t : Tab H i l rows) : Tab (H ++ X) i l rows := by
  obtain ⟨k, e1, e2, e3⟩ := t.ex
  exact ⟨k, get_app e1, get_app e2, get_app e3⟩
theorem PW.fspecE {pb : List PV → List (String × PV) → List PO → Option (List (String × PV) × List PO)} {p : PM PF} {a : List PV} {kw : List (String × PV)} {H H₁ : List PO} {l : List (String × PV)} {R : PV → List PO → Prop} (e : pb a kw H = some (l, H₁))
    (h : PW p ⟨l, H₁⟩ fun f σ' => ∃ v, f = .ret v ∧ R v σ'.H) : ∃ v H', Mine.fspec pb p a kw H = some (.ok v, H') ∧ R v H' := by
  obtain ⟨f, σ', e2, v, rfl, r⟩ := h
  refine ⟨v, σ'.H, ?_, r⟩
  unfold Mine.fspec
  rw [e]
  dsimp only
  rw [e2]
theorem PW.strTab {σ : PS} {ti l : Nat} {rows : List (Str × Str)} {Q : PV → PS → Prop} (t : Tab σ.H ti l rows) (hr : RowsS rows) (h : ∀ X, Q (.str (textOf rows)) { σ with H := σ.H ++ X }) : PW (fStrB strSpec [.ref ti]) σ Q := by
  obtain ⟨k, e1, e2, _⟩ := t.ex
  obtain ⟨X, hX⟩ := str_ok t hr
  refine PW.inst (f := fun _ _ => fun σ => match strSpec [.ref ti] [] σ.H with
    | some (Res.ok (PV.str x), H') => some (Res.ok (PV.str x), { σ with H := H' })
    | _ => none) e1 e2 ⟨PV.str (textOf rows), { σ with H := σ.H ++ X }, ?_, h X⟩
  dsimp only
  rw [hX]
theorem ends3 (n : Nat) : ∃ e, [PV.lit (Str.ofString "\n"), PV.lit (Str.ofString "\x0d"), PV.lit (Str.ofString "\x0d\n")][n % 3]? = some (.lit e) ∧ EndOk e := by
  have : n % 3 = 0 ∨ n % 3 = 1 ∨ n % 3 = 2 := by lia
  rcases this with h | h | h <;> rw [h]
  · exact ⟨_, rfl, ⟨.inl (by decide +kernel)⟩⟩
  · exact ⟨_, rfl, ⟨.inr (.inl (by decide +kernel))⟩⟩
  · exact ⟨_, rfl, ⟨.inr (.inr (by decide +kernel))⟩⟩
theorem pall_strs (H : List PO) (k : Nat) : ∀ l : List Str, pall (pdata H k) (l.map PV.str) = some (l.map PyData.str)
  | [] => rfl
  | x :: l => by
    have e : pdata H k (PV.str x) = some (.str x) := by cases k <;> rfl
    show (match pdata H k (PV.str x), pall (pdata H k) (l.map PV.str) with
      | some d, some ds => some (d :: ds)
      | _, _ => none) = _
    rw [e, pall_strs H k l]; rfl
theorem strs_lay : ∀ l : List Str, (∀ x ∈ l, ∀ c ∈ cp x, c < 200) → PyData.canLayAll0 (l.map PyData.str) = true
  | [], _ => rfl
  | x :: l, h => by
    rw [List.map_cons]
    unfold PyData.canLayAll0
    rw [strs_lay l fun y hy => h y (List.mem_cons_of_mem _ hy), Bool.and_true]
    unfold PyData.canLay0 PyData.strOk
    rw [← Array.all_toList, List.all_eq_true]
    intro c hc
    have := h x List.mem_cons_self c hc
    exact decide_eq_true (by lia)
theorem strs_depth : ∀ l : List Str, PyData.depthAll (l.map PyData.str) = 0
  | [] => rfl
  | x :: l => by
    rw [List.map_cons]
    unfold PyData.depthAll
    rw [strs_depth l]
    rfl
theorem PW.pow106 {σ : PS} {Q : PV → PS → Prop} (h : Q (.int 1000000) σ) : PW (pPow (.int 10) (.int 6)) σ Q := PW.guard ⟨by decide, by decide, by decide⟩ (PW.pure h)
noncomputable def fz (z : Int) : Nat := (Int.fmod z 1000000).toNat
theorem PW.modZ {σ : PS} {z : Int} {Q : PV → PS → Prop} (h : Q (natP (fz z)) σ) : PW (pMod (.int z) (.int 1000000)) σ Q := by
  refine PW.guard (by decide) (PW.pure ?_)
  have : Int.fmod z 1000000 = (fz z : Int) := by
    unfold fz
    have := Int.fmod_eq_emod_of_nonneg z (b := 1000000) (by decide)
    lia
  rw [this]; exact h
theorem PW.mulN {σ : PS} {n m : Nat} {Q : PV → PS → Prop} (hn : n < 2 ^ 64) (h : Q (natP (n * m)) σ) : PW (pMul (natP n) (natP m)) σ Q := PW.guard (by lia) (PW.pure (by simpa [natP] using h))
theorem PW.lenL {σ : PS} {i : Nat} {l : List PV} {Q : PV → PS → Prop} (e : σ.H[i]? = some (.list l)) (hl : l.length ≤ sizeLine) (h : Q (natP l.length) σ) : PW (fLen [.ref i]) σ Q := PW.plist e (PW.guard hl (PW.pure h))
end
end

section
open PySem PySem.W PyProof.Rows PySem.Spec PySem.SeqAt PySem.Calls
set_option autoImplicit false
set_option linter.unusedVariables false
set_option linter.unusedSectionVars false
set_option maxRecDepth 100000
set_option maxHeartbeats 4000000
set_option tactic.hygienic false
theorem PW.mapG {σ : PS} {capt : List String} {p : PM NX} {asg : PV → PM Unit} {elt : PM PV} {Q : PV → PS → Prop} (len : Nat) (src out : Nat → PV) (J : List (String × PV) → Prop)
    (hp : PW p σ fun nx τ => τ = σ ∧ ∀ j L, nx j (σ.H ++ [.list L]) = some (if j < len then some (src j) else none)) (hlen : len ≤ 99)
    (h0 : J (pinner capt σ).loc)
    (step : ∀ j τ, j < len → J τ.loc → τ.H = σ.H ++ [.list ((List.range j).map out)] → PW (asg (src j)) τ fun _ τ₁ => PW elt τ₁ fun v τ₂ => v = out j ∧ J τ₂.loc ∧ τ₂.H = τ.H)
    (fin : ∀ loc', J loc' → ∃ loc, pback capt loc' σ.loc = some loc ∧ Q (.ref σ.H.length) ⟨loc, σ.H ++ [.list ((List.range len).map out)]⟩) : PW (pcomp capt p asg (PM.pure true) elt 100) σ Q := by
  refine PW.comp (hp.mono fun nx τ h => ?_)
  obtain ⟨rfl, hnx⟩ := h
  refine PW.compL (fun j o τ' => τ'.H = τ.H ++ [.list o] ∧ J τ'.loc ∧ o = (List.range j).map out) len src ?_ ?_ ?_ ?_ (by lia) ?_ 100 0 [] _ (by lia) (Nat.zero_le _) ⟨rfl, h0, rfl⟩
  · rintro j o τ' ⟨hH, _⟩; rw [hH]; exact hnx j o
  · rintro j o τ' ⟨hH, _⟩; rw [hH, List.getElem?_append_right (Nat.le_refl _)]; simp
  · rintro j o τ' hj ⟨hH, hJ, ho⟩
    refine (step j τ' hj hJ (by rw [hH, ho])).mono fun _ τ₁ h₁ => PW.pure ?_
    rw [if_pos rfl]
    refine h₁.mono fun v τ₂ ⟨hv, hJ₂, hH₂⟩ => ?_
    rw [hH] at hH₂
    refine ⟨by rw [hH₂, List.getElem?_append_right (Nat.le_refl _)]; simp, ?_, hJ₂, ?_⟩
    · show τ₂.H.set τ.H.length _ = _
      rw [hH₂, List.set_append_right _ _ (Nat.le_refl _)]; simp
    · rw [List.range_succ, List.map_append, ho, hv]; rfl
  · rintro j o τ' ⟨_, _, rfl⟩; rw [List.length_map, List.length_range]; exact Nat.le_refl _
  · rintro o τ' ⟨hH, hJ, rfl⟩
    obtain ⟨loc, e, q⟩ := fin _ hJ
    refine ⟨loc, e, ?_⟩
    rw [hH]; exact q
theorem range_map_get {α : Type} (l : List α) (d : α) : (List.range l.length).map (fun j => l.getD j d) = l := by
  apply List.ext_getElem
  · simp
  · intro i h1 h2
    simp [List.getD, List.getElem?_eq_getElem h2]
theorem PW.mapL {σ : PS} {capt : List String} {p : PM NX} {asg : PV → PM Unit} {elt : PM PV} {Q : PV → PS → Prop} {i : Nat} {l : List PV} (out : PV → PV) (J : List (String × PV) → Prop)
    (hp : PW p σ fun nx τ => τ = σ ∧ nx = nxList i) (hl : σ.H[i]? = some (.list l)) (hlen : l.length ≤ 99) (h0 : J (pinner capt σ).loc)
    (step : ∀ x τ, x ∈ l → J τ.loc → (∃ L, τ.H = σ.H ++ [.list L]) → PW (asg x) τ fun _ τ₁ => PW elt τ₁ fun v τ₂ => v = out x ∧ J τ₂.loc ∧ τ₂.H = τ.H)
    (fin : ∀ loc', J loc' → ∃ loc, pback capt loc' σ.loc = some loc ∧ Q (.ref σ.H.length) ⟨loc, σ.H ++ [.list (l.map out)]⟩) : PW (pcomp capt p asg (PM.pure true) elt 100) σ Q := by
  refine PW.mapG l.length (fun j => l.getD j .none) (fun j => out (l.getD j .none)) J (hp.mono fun nx τ ⟨h1, h2⟩ => ⟨h1, fun j L => ?_⟩) hlen h0 (fun j τ hj hJ hH => ?_) (fun loc' hJ => ?_)
  · subst h2
    unfold nxList
    rw [get_app hl]
    dsimp only
    by_cases hj : j < l.length
    · rw [if_pos hj, List.getElem?_eq_getElem hj]; simp [List.getD, List.getElem?_eq_getElem hj]
    · rw [if_neg hj, List.getElem?_eq_none (by lia)]
  · exact step _ τ (by simp [List.getD, List.getElem?_eq_getElem hj]) hJ ⟨_, hH⟩
  · have e : (List.range l.length).map (fun j => out (l.getD j .none)) = l.map out := by
      have := congrArg (List.map out) (range_map_get l .none)
      rw [List.map_map] at this
      exact this
    rw [e]; exact fin loc' hJ
theorem PW.mapR {σ : PS} {capt : List String} {p : PM NX} {asg : PV → PM Unit} {elt : PM PV} {Q : PV → PS → Prop} {n : Nat} (out : Nat → PV) (J : List (String × PV) → Prop)
    (hp : PW p σ fun nx τ => τ = σ ∧ nx = nxRange 0 (n : Int)) (hlen : n ≤ 99) (h0 : J (pinner capt σ).loc)
    (step : ∀ j τ, j < n → J τ.loc → (∃ L, τ.H = σ.H ++ [.list L]) → PW (asg (natP j)) τ fun _ τ₁ => PW elt τ₁ fun v τ₂ => v = out j ∧ J τ₂.loc ∧ τ₂.H = τ.H)
    (fin : ∀ loc', J loc' → ∃ loc, pback capt loc' σ.loc = some loc ∧ Q (.ref σ.H.length) ⟨loc, σ.H ++ [.list ((List.range n).map out)]⟩) : PW (pcomp capt p asg (PM.pure true) elt 100) σ Q := by
  refine PW.mapG n (fun j => natP j) out J (hp.mono fun nx τ ⟨h1, h2⟩ => ⟨h1, fun j L => ?_⟩) hlen h0 (fun j τ hj hJ hH => step j τ hj hJ ⟨_, hH⟩) fin
  subst h2
  unfold nxRange natP
  by_cases hj : j < n
  · rw [if_pos hj, if_pos (by lia), Int.zero_add]
  · rw [if_neg hj, if_neg (by lia)]
theorem sb_as {W : Wd} {d : Nat} {env : Env} {b : List Stmt} {p q : PM PF} (h : SB W d env b q) (e : p = q) : SB W d env b p := by rw [e]; exact h
theorem c_own {W : Wd} {d : Nat} {fa : Addr} {fd : FuncData} {body : List Stmt} {ns : List String} {pb : List PV → List (String × PV) → List PO → Option (List (String × PV) × List PO)} {p : PM PF} (D : DefOk W fa fd body ns) (hb : BindOk W fd pb) (hns : ∀ a kw H l H', pb a kw H = some (l, H') → l.map (·.1) = ns)
    (hS : ∀ L, SB W d (fenv fd L fa) body p) : CHolds W (d + 1) (.ref fa) (fspec pb p) := c_def2 D hb hns fun L => ⟨p, hS L, fun _ _ _ _ h => h⟩
theorem own_mk' {W : Wd} {d : Nat} {f : Value} {B : FSpec → Prop} {spec : FSpec} (h : CHolds W d f spec) (l : B spec) : ∃ sp, CHolds W d f sp ∧ B sp := ⟨spec, h, l⟩
end

set_option bootstrap.genMatcherCode true
set_option hygiene false
open PySem PySem.W PyProof.Rows PySem.Spec PySem.SeqAt PySem.Calls
set_option maxRecDepth 100000
set_option maxHeartbeats 4000000
local macro_rules | `(tactic| walk_at "lk") => `(tactic| (first | exact lset_self | (apply lset_ne; (focus decide); walk_at "lk") | assumption | rfl))
local macro_rules | `(tactic| walk_at "p1") => `(tactic| (first
  | with_reducible (first | apply PW.seq | apply PW.ite | apply PW.bind | apply PW.noexc | apply PW.pure | apply PW.put | apply PW.put2 | apply PW.str | apply PW.tup | apply PW.tB | apply PW.eqS | apply PW.neS | apply PW.isnN | apply PW.isT | apply PW.isnT | apply PW.typS | apply PW.alloc)
  | ((with_reducible apply PW.get); (focus walk_at "lk"))
  | ((with_reducible apply PW.ifT); (focus first | rfl | decide))
  | ((with_reducible apply PW.ifF); (focus first | rfl | decide))
  | (refine PW.searchN rfl (by omega) ?_)
  | (refine PW.searchV (by decide) rfl (by omega) ?_)
  | dsimp only))
local macro_rules | `(tactic| walk_at "p") => `(tactic| repeat walk_at "p1")
local macro_rules | `(tactic| walk_at "p0") => `(tactic| (first
  | with_reducible refine PW.noexc ?_
  | with_reducible refine PW.pure ?_
  | with_reducible refine PW.put ?_
  | with_reducible refine PW.put2 ?_
  | with_reducible refine PW.str ?_
  | with_reducible refine PW.tup ?_
  | with_reducible refine PW.tB ?_
  | with_reducible refine PW.eqS ?_
  | with_reducible refine PW.neS ?_
  | with_reducible refine PW.isnN ?_
  | with_reducible refine PW.isT ?_
  | with_reducible refine PW.isnT ?_
  | with_reducible refine PW.typS ?_
  | with_reducible refine PW.alloc ?_
  | ((with_reducible apply PW.get); (focus walk_at "lk"))
  | (refine PW.searchN rfl (by omega) ?_)
  | (refine PW.searchV (by decide) rfl (by omega) ?_)))
local macro_rules | `(tactic| walk_at "x1") => `(tactic| (first
  | with_reducible refine PWE.seq ?_
  | with_reducible refine PWE.ite ?_
  | with_reducible refine PWE.bind ?_
  | with_reducible refine PWE.pure ?_
  | with_reducible refine PWE.exc ?_
  | ((with_reducible apply PWE.ifT); (focus rfl))
  | ((with_reducible apply PWE.ifF); (focus rfl))
  | ((with_reducible refine PWE.of ?_); walk_at "p0")
  | walk_at "p1"))
local macro_rules | `(tactic| walk_at "x") => `(tactic| repeat walk_at "x1")
set_option hygiene true
set_option bootstrap.genMatcherCode false
section
open PySem PySem.W PyProof.Rows PySem.Spec PySem.SeqAt PySem.Calls
set_option autoImplicit false
set_option linter.unusedVariables false
set_option linter.unusedSectionVars false
set_option maxRecDepth 100000
set_option maxHeartbeats 4000000
set_option tactic.hygienic false
noncomputable def PT : Pats := ⟨48, 53, 193, 198⟩
section
variable {W : Wd} {P : Params} (hK : W.K = hd.heap_1 P) (hC : W.C = 184) (hCl : ClsOk W) (hP : PatsOk W PT)
include hK hC hCl hP
set_option tactic.hygienic true in
theorem d_conv : CHolds W 2 (.ref 83) convX := by
  refine c_defX (d := 1) (fd := ?fd) (body := ?body) (ns := ["self", "value", "name"]) ?D (BindOk.mk (pb := pbConv) ?B) ?N ?R
  case D => (refine ⟨⟨?_, ?h1, ?h2⟩, ?h3, ?h4, ?h5, ?h6, ?h7, ?h8, ?h9, ?h10, ?h11, ?h12, ?h13⟩; (case h1 => rw [‹Wd.K _ = hd.heap_1 _›]; rfl); (case h2 => rfl); (case h3 => rfl); (case h4 => rw [‹Wd.K _ = hd.heap_1 _›]; rfl); (case h5 => rfl); (case h6 => rfl); (case h7 => rfl); (case h8 => rfl); (case h9 => rfl); (case h10 => rfl); (case h11 => exact names_ok (by decide +kernel)); (case h12 => decide +kernel); (case h13 => decide +kernel))
  case B =>
    intro s ρ args kw pargs pkw l hb ra rk e
    unfold pbConv at e
    split at e
    · split at e
      · rename_i n z hn
        subst hn
        cases e
        obtain ⟨v, w, rfl, r1, r2⟩ := two_inv ra
        cases rk with
        | cons r3 rk =>
          rename_i kv _
          cases rk
          obtain ⟨k, v3⟩ := kv
          obtain ⟨e1, r3⟩ := r3
          dsimp only at e1
          subst e1
          exact ⟨[(Str.ofString "self", v), (Str.ofString "value", w), (Str.ofString "name", v3)], BindsTo.of_eq (by with_unfolding_all rfl), .cons ⟨rfl, r1⟩ (.cons ⟨rfl, r2⟩ (.cons ⟨rfl, r3⟩ .nil))⟩
      · cases e
    · cases e
  case N =>
    intro a kw H l H' h
    obtain ⟨l', e1, e2⟩ := Option.map_eq_some_iff.mp h
    cases e2
    unfold pbConv at e1
    split at e1
    · split at e1
      · cases e1; rfl
      · cases e1
    · cases e1
  refine' fun L => ex_mk ?S ?law
  case S => exact (b_cons (st_if (t_is (b_type rfl (by rw [hK]; rfl) (ss_cons (e_name (by decide +kernel) (by decide +kernel)) ss_nil rfl) rfl) (e_tstr rfl (by rw [hK]; rfl)) rfl) (b_cons (st_assign (s_if (t_plain (e_name (by decide +kernel) (by decide +kernel)) rfl) (e_glob rfl (by rw [hK]; rfl) (by decide +kernel)) (e_glob rfl (by rw [hK]; rfl) (by decide +kernel))) (a_name (.inl rfl)) rfl rfl rfl) (b_cons (st_if (t_search hP (e_name (by decide +kernel) (by decide +kernel)) (ss_cons (e_name (by decide +kernel) (by decide +kernel)) ss_nil rfl) rfl (fun _ => rfl) rfl rfl rfl) (b_one (st_raise rfl (by rw [hK]; rfl) (ss_cons e_str ss_nil rfl) rfl)) b_nil) (b_one (st_ret (e_name (by decide +kernel) (by decide +kernel)))))) b_nil) (b_one (fun _ => s_fail)))
  case law =>
    intro a kw H r h
    unfold convX at h
    split at h
    · obtain ⟨⟨rfl, hx⟩, h2⟩ := ite_some h
      clear h
      rename_i s x b
      refine PWE.fspecX (pb := fun a k H => Option.map (fun l => (l, H)) (pbConv a k)) (l := [("self", s), ("value", .str x), ("name", .bool b)]) rfl ?_
      cases b with
      | true =>
        walk_at "x"
        cases hb : hasN x with
        | false =>
          rw [if_neg (by rw [if_pos rfl, hb]; decide)] at h2
          cases h2
          refine PWE.ifF rfl ?_
          walk_at "x"
          exact .inl ⟨_, rfl, rfl⟩
        | true =>
          rw [if_pos (by rw [if_pos rfl, hb])] at h2
          cases h2
          refine PWE.ifT rfl ?_
          walk_at "x"
          exact PWE.guard (by rw [sizeLine_eq]; decide) rfl
      | false =>
        walk_at "x"
        cases hb : hasV x with
        | false =>
          rw [if_neg (by rw [if_neg (by decide), hb]; decide)] at h2
          cases h2
          refine PWE.ifF rfl ?_
          walk_at "x"
          exact .inl ⟨_, rfl, rfl⟩
        | true =>
          rw [if_pos (by rw [if_neg (by decide), hb])] at h2
          cases h2
          refine PWE.ifT rfl ?_
          walk_at "x"
          exact PWE.guard (by rw [sizeLine_eq]; decide) rfl
    · cases h
end
end

section
open PySem PySem.W PyProof.Rows PySem.Spec PySem.SeqAt PySem.Calls
set_option autoImplicit false
set_option linter.unusedVariables false
set_option linter.unusedSectionVars false
set_option maxRecDepth 100000
set_option maxHeartbeats 4000000
set_option tactic.hygienic false
section
variable {W : Wd} {P : Params} (hK : W.K = hd.heap_1 P) (hC : W.C = 184) (hCl : ClsOk W) (hP : PatsOk W PT)
include hK hC hCl hP
theorem d_get (hconv : FHolds W 2 (.ref 83) convX) : CHolds W 3 (.ref 131) getX := by
  refine c_defX (d := 2) (fd := ?fd) (body := ?body) (ns := ["self", "name", "default"]) ?D (BindOk.mk (pb := pbGet) ?B) ?N ?R
  case D => (refine ⟨⟨?_, ?h1, ?h2⟩, ?h3, ?h4, ?h5, ?h6, ?h7, ?h8, ?h9, ?h10, ?h11, ?h12, ?h13⟩; (case h1 => rw [‹Wd.K _ = hd.heap_1 _›]; rfl); (case h2 => rfl); (case h3 => rfl); (case h4 => rw [‹Wd.K _ = hd.heap_1 _›]; rfl); (case h5 => rfl); (case h6 => rfl); (case h7 => rfl); (case h8 => rfl); (case h9 => rfl); (case h10 => rfl); (case h11 => exact names_ok (by decide +kernel)); (case h12 => decide +kernel); (case h13 => decide +kernel))
  case B =>
    intro s ρ args kw pargs pkw l hb ra rk e
    have ho : s.heap.get? 124 = some _ := hb _ _ (W.X _ _ (by (rw [‹Wd.K _ = hd.heap_1 _›]; rfl)))
    unfold pbGet at e
    split at e
    · cases e
      obtain ⟨v, w, rfl, r1, r2⟩ := two_inv ra
      cases rk
      exact ⟨[(Str.ofString "self", v), (Str.ofString "name", w), (Str.ofString "default", .none)], BindsTo.of_defaults rfl ho rfl (by with_unfolding_all rfl) (by with_unfolding_all rfl), .cons ⟨rfl, r1⟩ (.cons ⟨rfl, r2⟩ (.cons ⟨rfl, rfl⟩ .nil))⟩
    · cases e
      obtain ⟨v, w, x, rfl, r1, r2, r3⟩ := three_inv ra
      cases rk
      exact ⟨[(Str.ofString "self", v), (Str.ofString "name", w), (Str.ofString "default", x)], BindsTo.of_defaults rfl ho rfl (by with_unfolding_all rfl) (by with_unfolding_all rfl), .cons ⟨rfl, r1⟩ (.cons ⟨rfl, r2⟩ (.cons ⟨rfl, r3⟩ .nil))⟩
    · cases e
  case N =>
    intro a kw H l H' h
    obtain ⟨l', e1, e2⟩ := Option.map_eq_some_iff.mp h
    cases e2
    unfold pbGet at e1
    split at e1
    · cases e1; rfl
    · cases e1; rfl
    · cases e1
  refine' fun L => ex_mk ?S ?law
  case S => exact (b_cons (st_assign (s_icall (e_name (by decide +kernel) (by decide +kernel)) (f_more hconv (by decide)) (by rw [hK, hC]; rfl) (by rw [hK]; rfl) (by rw [hK]; rfl) (sa_kw1 (ss_cons (m_lower (e_name (by decide +kernel) (by decide +kernel)) ss_nil rfl (fun _ => rfl) rfl rfl) ss_nil rfl) e_bool rfl) (fun _ => rfl) rfl rfl rfl) (a_name (.inl rfl)) rfl rfl rfl) (b_cons (st_for (100) (si_list (s_field (e_name (by decide +kernel) (by decide +kernel)) (by rw [hK, hC]; rfl))) (a_tuple (.cons (a_name (.inl rfl)) (.cons (a_name (.inl rfl)) .nil)) rfl) (b_one (st_if (t_eq (m_lower (e_name (by decide +kernel) (by decide +kernel)) ss_nil rfl (fun _ => rfl) rfl rfl) (e_name (by decide +kernel) (by decide +kernel)) rfl) (b_one (st_ret (e_name (by decide +kernel) (by decide +kernel)))) b_nil)) (fun _ => rfl)) (b_one (st_ret (e_name (by decide +kernel) (by decide +kernel))))))
  case law =>
    intro a kw H r h
    have key : ∃ i n d, getX2 i n d H = some r ∧ pbGet a kw = some [("self", .ref i), ("name", .str n), ("default", d)] := by
      unfold getX at h
      split at h
      · exact ⟨_, _, _, h, rfl⟩
      · exact ⟨_, _, _, h, rfl⟩
      · cases h
    obtain ⟨i, n, d, h, hpb⟩ := key
    unfold getX2 at h
    cases ht : getTab H i with
    | none => rw [ht] at h; cases h
    | some lr =>
      obtain ⟨li, rows⟩ := lr
      rw [ht] at h
      obtain ⟨⟨ho, hn⟩, h2⟩ := ite_some h
      clear h
      obtain ⟨k, e1, e2, e3⟩ := (Tab.of ht).ex
      unfold nameLen at hn
      simp only [Bool.and_eq_true, decide_eq_true_eq] at hn
      obtain ⟨hn1, hn3⟩ := hn
      cases hn2 : hasN (Txt.lower n) with
      | true =>
        rw [if_pos hn2] at h2
        cases h2
        refine PWE.fspecX (pb := fun a k H => Option.map (fun l => (l, H)) (pbGet a k)) (H₁ := H) (by rw [hpb]; rfl) ?_
        walk_at "x"
        refine PWE.inst e1 e2 ?_
        refine PWE.guard rfl ?_
        walk_at "x"
        refine PW.lower (x := n) (by lia) ?_
        walk_at "x"
        exact PWE.call (convX_exc hn3 hn2) rfl
      | false =>
      rw [if_neg (by rw [hn2]; decide)] at h2
      cases h2
      refine fspec_X ?_
      refine PW.fspec (pb := fun a k H => Option.map (fun l => (l, H)) (pbGet a k)) (H₁ := H) (by rw [hpb]; rfl) ?_
      walk_at "p"
      refine PW.inst e1 e2 ?_
      refine PW.guard rfl ?_
      walk_at "p"
      refine PW.lower (by lia) ?_
      walk_at "p"
      refine PW.call (convX_ok (hn3) hn2) ?_
      walk_at "p"
      refine PW.field e1 e2 ?_
      walk_at "p"
      refine PW.nxL e3 ?_
      refine PW.forList (l := rows.map row) (fun j σ => σ.H = H ∧ σ.loc.lookup "name" = some (.str (Txt.lower n)) ∧ σ.loc.lookup "default" = some d ∧ ∀ r ∈ rows.take j, (Txt.lower r.1 == Txt.lower n) = false) ?hl ?step ?fin 100 0 _ ?hN (Nat.zero_le _) ?h0
      case hl => rintro j σ ⟨hH, _⟩; rw [hH]; exact e3
      case hN => rw [List.length_map]; have := rowsOk.len ho; lia
      case h0 => exact ⟨rfl, rfl, rfl, fun r hr => by simp at hr⟩
      case step =>
        rintro j p σ hp ⟨hH, h1, h2, h3⟩
        obtain ⟨r, hr, rfl⟩ := row_at hp
        have hro := rowsOk.row ho (List.mem_of_getElem? hr)
        unfold row
        walk_at "p"
        refine PW.guard rfl ?_
        walk_at "p"
        refine PW.lower (x := r.1) (by lia) ?_
        walk_at "p"
        cases hc : Txt.lower r.1 == Txt.lower n with
        | true =>
          refine PW.ifT rfl ?_
          walk_at "p"
          refine ⟨hH, .inl ?_⟩
          have hf : findRow rows n = some r := by
            unfold findRow
            rw [List.find?_eq_some_iff_append]
            refine ⟨hc, rows.take j, rows.drop (j + 1), ?_, fun a ha => by rw [h3 a ha]; rfl⟩
            have hj := List.getElem?_eq_some_iff.mp hr
            obtain ⟨hj1, hj2⟩ := hj
            rw [← hj2, ← List.drop_eq_getElem_cons hj1, List.take_append_drop]
          unfold getD'
          rw [hf]
        | false =>
          refine PW.ifF rfl ?_
          walk_at "p"
          refine ⟨hH, lset_ne (by decide) (lset_ne (by decide) h1), lset_ne (by decide) (lset_ne (by decide) h2), fun a ha => ?_⟩
          rw [List.take_add_one, hr] at ha
          rcases List.mem_append.mp ha with ha | ha
          · exact h3 a ha
          · simp only [Option.toList_some, List.mem_singleton] at ha
            rw [ha]; exact hc
      case fin =>
        rintro σ ⟨hH, h1, h2, h3⟩
        walk_at "p"
        refine ⟨hH, .inl ?_⟩
        rw [List.length_map, List.take_length] at h3
        have hf : findRow rows n = none := by
          unfold findRow
          rw [List.find?_eq_none]
          intro a ha
          rw [h3 a ha]; decide
        unfold getD'
        rw [hf]
set_option tactic.hygienic true in
theorem d_init (hconv : FHolds W 2 (.ref 83) convX) : CHolds W 3 (.ref 76) initSpec := by
  refine c_def2 (d := 2) (fd := ?fd) (body := ?body) (ns := ["self", "headers"]) ?D (BindOk.mk (pb := pbInit) ?B) ?N ?R
  case D => (refine ⟨⟨?_, ?h1, ?h2⟩, ?h3, ?h4, ?h5, ?h6, ?h7, ?h8, ?h9, ?h10, ?h11, ?h12, ?h13⟩; (case h1 => rw [‹Wd.K _ = hd.heap_1 _›]; rfl); (case h2 => rfl); (case h3 => rfl); (case h4 => rw [‹Wd.K _ = hd.heap_1 _›]; rfl); (case h5 => rfl); (case h6 => rfl); (case h7 => rfl); (case h8 => rfl); (case h9 => rfl); (case h10 => rfl); (case h11 => exact names_ok (by decide +kernel)); (case h12 => decide +kernel); (case h13 => decide +kernel))
  case B =>
    intro s ρ args kw pargs pkw l hb ra rk e
    have ho : s.heap.get? 69 = some _ := hb _ _ (W.X _ _ (by (rw [‹Wd.K _ = hd.heap_1 _›]; rfl)))
    unfold pbInit at e
    split at e
    · cases e
      obtain ⟨v, w, rfl, r1, r2⟩ := two_inv ra
      cases rk
      exact ⟨[(Str.ofString "self", v), (Str.ofString "headers", w)], BindsTo.of_defaults rfl ho rfl (by with_unfolding_all rfl) (by with_unfolding_all rfl), .cons ⟨rfl, r1⟩ (.cons ⟨rfl, r2⟩ .nil)⟩
    · cases e
  case N =>
    intro a kw H l H' h
    obtain ⟨l', e1, e2⟩ := Option.map_eq_some_iff.mp h
    cases e2
    unfold pbInit at e1
    split at e1
    · cases e1; rfl
    · cases e1
  refine' fun L => ex_mk ?S ?law
  case S => exact (b_cons (st_assign (s_if (t_isnot (e_name (by decide +kernel) (by decide +kernel)) e_none rfl) (e_name (by decide +kernel) (by decide +kernel)) (s_list ss_nil)) (a_name (.inl rfl)) rfl rfl rfl) (b_cons (st_if (t_isnot (b_type rfl (by rw [hK]; rfl) (ss_cons (e_name (by decide +kernel) (by decide +kernel)) ss_nil rfl) rfl) (e_tlist rfl (by rw [hK]; rfl)) rfl) (b_one (fun _ => s_fail)) b_nil) (b_cons (st_assign (e_name (by decide +kernel) (by decide +kernel)) (a_field hCl (e_name (by decide +kernel) (by decide +kernel)) (by rw [hK, hC]; rfl)) rfl rfl rfl) (b_one (st_if (t_plain e_bool rfl) (b_one (st_for (100) (si_list (e_name (by decide +kernel) (by decide +kernel))) (a_tuple (.cons (a_name (.inl rfl)) (.cons (a_name (.inl rfl)) .nil)) rfl) (b_cons (st_expr (s_icall (e_name (by decide +kernel) (by decide +kernel)) (f_more hconv (by decide)) (by rw [hK, hC]; rfl) (by rw [hK]; rfl) (by rw [hK]; rfl) (sa_kw1 (ss_cons (e_name (by decide +kernel) (by decide +kernel)) ss_nil rfl) e_bool rfl) (fun _ => rfl) rfl rfl rfl) rfl rfl) (b_one (st_expr (s_icall (e_name (by decide +kernel) (by decide +kernel)) (f_more hconv (by decide)) (by rw [hK, hC]; rfl) (by rw [hK]; rfl) (by rw [hK]; rfl) (sa_kw1 (ss_cons (e_name (by decide +kernel) (by decide +kernel)) ss_nil rfl) e_bool rfl) (fun _ => rfl) rfl rfl rfl) rfl rfl))) (fun _ => rfl))) b_nil)))))
  case law =>
    intro a kw H r h
    unfold initSpec at h
    split at h
    · split at h
      · split at h
        · rename_i i l _ _ k xs hi hl _ _ rows hk hu
          obtain ⟨⟨ho, hv⟩, rfl⟩ := if_inv h
          have ex := unrow_inv hu
          subst ex
          have hlk : k ≠ l := fun e => by rw [e, hl] at hk; cases hk
          have hik : k ≠ i := fun e => by rw [e, hi] at hk; cases hk
          have e1 : (H.set k (.dct [("_headers", .ref l)]))[i]? = some (.inst k) := by rw [List.getElem?_set_ne hik]; exact hi
          have e2 : (H.set k (.dct [("_headers", .ref l)]))[k]? = some (.dct [("_headers", .ref l)]) := by
            rw [List.getElem?_set_self]
            exact lt_of_get hk
          have e3 : (H.set k (.dct [("_headers", .ref l)]))[l]? = some (.list (rows.map row)) := by rw [List.getElem?_set_ne hlk]; exact hl
          refine PW.fspec (pb := fun a k H => Option.map (fun l => (l, H)) (pbInit a k)) (l := [("self", .ref i), ("headers", .ref l)]) (H₁ := H) rfl ?_
          walk_at "p"
          refine PW.typL hl ?_
          walk_at "p"
          refine PW.inst hi hk ?_
          refine PW.guard (by decide) ?_
          refine ⟨(), _, rfl, ?_⟩
          show PW _ { loc := _, H := H.set k (.dct [("_headers", .ref l)]) } _
          walk_at "p"
          refine PW.nxL e3 ?_
          refine PW.forList (l := rows.map row) (fun j σ => σ.H = H.set k (.dct [("_headers", .ref l)]) ∧ σ.loc.lookup "self" = some (.ref i)) ?hl ?step ?fin 100 0 _ ?hN (Nat.zero_le _) ⟨rfl, rfl⟩
          case hl => rintro j σ ⟨hH, _⟩; rw [hH]; exact e3
          case hN => rw [List.length_map]; have := rowsOk.len ho; lia
          case step =>
            rintro j p σ hp ⟨hH, h1⟩
            obtain ⟨r, hr, rfl⟩ := row_at hp
            have hro := rowsOk.row ho (List.mem_of_getElem? hr)
            have hrv := List.all_eq_true.mp hv r (List.mem_of_getElem? hr)
            simp only [Bool.and_eq_true, Bool.not_eq_true'] at hrv
            rw [← hH] at e1 e2
            unfold row
            walk_at "p"
            refine PW.guard rfl ?_
            walk_at "p"
            refine PW.inst e1 e2 ?_
            refine PW.guard rfl ?_
            walk_at "p"
            refine PW.call (convX_ok (by lia) hrv.1) ?_
            walk_at "p"
            refine PW.inst e1 e2 ?_
            refine PW.guard rfl ?_
            walk_at "p"
            refine PW.call (convX_ok (by lia) hrv.2) ?_
            walk_at "p"
            exact ⟨hH, lset_ne (by decide) (lset_ne (by decide) h1)⟩
          case fin =>
            rintro σ ⟨hH, h1⟩
            exact ⟨hH, .inr ⟨rfl, rfl⟩⟩
        · cases h
      · cases h
    · cases h
set_option tactic.hygienic true in
theorem d_str  : CHolds W 1 (.ref 160) strSpec := by
  refine c_def2 (d := 0) (fd := ?fd) (body := ?body) (ns := ["self"]) ?D (bind_pos ?B) (fun _ _ _ _ _ h => pb0_names h) ?R
  case D => (refine ⟨⟨?_, ?h1, ?h2⟩, ?h3, ?h4, ?h5, ?h6, ?h7, ?h8, ?h9, ?h10, ?h11, ?h12, ?h13⟩; (case h1 => rw [‹Wd.K _ = hd.heap_1 _›]; rfl); (case h2 => rfl); (case h3 => rfl); (case h4 => rw [‹Wd.K _ = hd.heap_1 _›]; rfl); (case h5 => rfl); (case h6 => rfl); (case h7 => rfl); (case h8 => rfl); (case h9 => rfl); (case h10 => rfl); (case h11 => exact names_ok (by decide +kernel)); (case h12 => decide +kernel); (case h13 => decide +kernel))
  case B => exact bp1 fun a => by with_unfolding_all rfl
  intro L
  refine' ex_mk ?S ?law
  case S => exact (b_one (st_ret (m_join e_str (ss_cons (s_add (s_comp0 (100) rfl (si_list (s_field (e_name (by decide +kernel) (by decide +kernel)) (by rw [hK, hC]; rfl))) (a_name (.inl rfl)) tests_nil (s_fmt1 e_str (e_name (by decide +kernel) (by decide +kernel))) (fun C => (a_name (.inl rfl))) (fun C => tests_nil) (fun C => (s_fmt1 e_str (e_name (by decide +kernel) (by decide +kernel)))) (fun _ => rfl) (by decide +kernel) rfl (by decide +kernel) ⟨.nil, by decide +kernel⟩) (s_list (ss_cons e_str (ss_cons e_str ss_nil rfl) rfl))) ss_nil rfl) rfl (fun _ => rfl) rfl rfl)))
  case law =>
    intro a kw H r h
    unfold strSpec at h
    split at h
    · rename_i i
      cases ht : getTab H i with
      | none => rw [ht] at h; cases h
      | some lr =>
        obtain ⟨li, rows⟩ := lr
        rw [ht] at h
        obtain ⟨⟨ho, hj⟩, rfl⟩ := if_inv h
        obtain ⟨k, e1, e2, e3⟩ := (Tab.of ht).ex
        have up : ∀ (x : Nat) (o o' : PO), H[x]? = some o → (H ++ [o'])[x]? = some o := fun x o o' e => by rw [List.getElem?_append_left (lt_of_get e)]; exact e
        refine PW.fspec (pb := pbOf (pb0 ["self"])) (l := [("self", .ref i)]) (H₁ := H) rfl ?_
        walk_at "p"
        refine PW.comp ?_
        walk_at "p"
        refine PW.field e1 e2 ?_
        walk_at "p"
        refine PW.nxL e3 ?_
        refine PW.compL (fun j out σ => σ.H = H ++ [.list out] ∧ out = ((rows.take j).map lineOf).map .str) rows.length (fun j => row (rows.getD j default)) ?hnx ?hacc ?step ?hsz (by have := rowsOk.len ho; lia) ?fin 100 0 [] _ (by have := rowsOk.len ho; lia) (Nat.zero_le _) ⟨rfl, rfl⟩
        case hnx =>
          rintro j out σ ⟨hH, _⟩
          unfold nxList
          rw [hH, up _ _ _ e3]
          dsimp only
          by_cases hj : j < rows.length
          · rw [if_pos hj, List.getElem?_map, List.getElem?_eq_getElem hj]
            simp [List.getD, List.getElem?_eq_getElem hj]
          · rw [if_neg hj, List.getElem?_eq_none (by simpa using hj)]
        case hacc =>
          rintro j out σ ⟨hH, _⟩
          rw [hH, List.getElem?_append_right (Nat.le_refl _)]; simp
        case hsz =>
          rintro j out σ ⟨_, rfl⟩
          rw [List.length_map, List.length_map, List.length_take]; lia
        case step =>
          rintro j out σ hj ⟨hH, h2⟩
          have hr : rows.getD j default = rows[j] := by simp [List.getD, List.getElem?_eq_getElem hj]
          rw [hr]
          have hm : rows[j] ∈ rows := List.getElem_mem hj
          have hro := rowsOk.row ho hm
          unfold row
          walk_at "p"
          rw [if_pos rfl]
          walk_at "p"
          refine PW.fmt1 (by lia) ?_
          refine ⟨by rw [hH, List.getElem?_append_right (Nat.le_refl _)]; simp, ?_, ?_⟩
          · show σ.H.set H.length _ = _
            rw [hH, List.set_append_right _ _ (Nat.le_refl _)]
            simp
          · rw [h2, List.take_add_one, List.getElem?_eq_getElem hj]
            simp only [Option.toList_some, List.map_append, List.map_cons, List.map_nil]
        case fin =>
          rintro out σ ⟨hH, h2⟩
          rw [List.take_length] at h2
          subst h2
          refine ⟨_, rfl, ?_⟩
          have hl := rowsOk.len ho
          walk_at "p"
          refine PW.guard (by rw [sizeLine_eq]; simp) ?_
          walk_at "p"
          refine PW.addL (l := (rows.map lineOf).map .str) (k := [.str (Str.ofString ""), .str (Str.ofString "")]) ?_ ?_ ?_ ?_
          · rw [hH, List.append_assoc, List.getElem?_append_right (Nat.le_refl _)]; simp
          · show (σ.H ++ [_])[σ.H.length]? = _
            rw [List.getElem?_append_right (Nat.le_refl _)]; simp
          · rw [List.length_map, List.length_map, sizeLine_eq]; simp only [List.length_cons, List.length_nil]; lia
          · walk_at "p"
            refine PW.join (l := (rows.map lineOf ++ [Str.ofString "", Str.ofString ""]).map .str) ?_ (pstrs_map _) hj ?_
            · rw [List.getElem?_append_right (Nat.le_refl _)]; simp
            · walk_at "p"
              refine ⟨?_, .inl rfl⟩
              rw [hH]
              simp
    · cases h

set_option tactic.hygienic true in
theorem d_quoted : CHolds W 1 (.ref 205) qdSpec := by
  refine c_def2 (d := 0) (fd := ?fd) (body := ?body) (ns := ["data"]) ?D (bind_pos ?B) (fun _ _ _ _ _ h => pb0_names h) ?R
  case D => (refine ⟨⟨?_, ?h1, ?h2⟩, ?h3, ?h4, ?h5, ?h6, ?h7, ?h8, ?h9, ?h10, ?h11, ?h12, ?h13⟩; (case h1 => rw [‹Wd.K _ = hd.heap_1 _›]; rfl); (case h2 => rfl); (case h3 => rfl); (case h4 => rw [‹Wd.K _ = hd.heap_1 _›]; rfl); (case h5 => rfl); (case h6 => rfl); (case h7 => rfl); (case h8 => rfl); (case h9 => rfl); (case h10 => rfl); (case h11 => exact names_ok (by decide +kernel)); (case h12 => decide +kernel); (case h13 => decide +kernel))
  case B => exact bp1 fun a => by with_unfolding_all rfl
  refine' fun L => ex_mk ?S ?law
  case S => exact (b_one (st_ret (s_sub_ hP (e_glob rfl (by rw [hK]; rfl) (by decide +kernel)) (ss_cons e_str (ss_cons (s_sub_ hP (e_glob rfl (by rw [hK]; rfl) (by decide +kernel)) (ss_cons (e_gstr rfl (by rw [hK]; rfl) (by decide +kernel)) (ss_cons (e_name (by decide +kernel) (by decide +kernel)) ss_nil rfl) rfl) rfl (fun _ => rfl) rfl rfl) ss_nil rfl) rfl) rfl (fun _ => rfl) rfl rfl)))
  case law =>
    intro a kw H r h
    unfold qdSpec at h
    split at h
    · rename_i x
      obtain ⟨⟨h1, h2⟩, rfl⟩ := if_inv h
      refine PW.fspec (pb := pbOf (pb0 ["data"])) (l := [("data", .str x)]) (H₁ := H) rfl ?_
      walk_at "p"
      refine PW.guard (.inl rfl) ?_
      walk_at "p"
      refine PW.guard (.inr rfl) ?_
      walk_at "p"
      refine PW.sub2 (P := PT) (by decide) crlf_eq h1 ?_
      walk_at "p"
      refine PW.sub1 (P := PT) dd_eq h2 ?_
      walk_at "p"
      exact ⟨rfl, .inl rfl⟩
    · cases h
end
end

section
open PySem PySem.W PyProof.Rows PySem.Spec PySem.SeqAt PySem.Calls
set_option autoImplicit false
set_option linter.unusedVariables false
set_option linter.unusedSectionVars false
set_option maxRecDepth 100000
set_option maxHeartbeats 4000000
set_option tactic.hygienic false
section
variable {W : Wd} {P : Params} (hK : W.K = hd.heap_1 P) (hC : W.C = 184) (hCl : ClsOk W) (hP : PatsOk W PT)
include hK hC hCl hP
set_option tactic.hygienic true in
theorem d_sent (hquo : FHolds W 1 (.ref 205) qdSpec) (hcls : FHolds W 4 (.ref 184) (clsSpec initSpec)) (hstr0 : FHolds W 1 (.ref 160) strSpec) : CHolds W 5 (.ref 215) sentSpec := by
  refine c_def2 (d := 4) (fd := ?fd) (body := ?body) (ns := ["table", "end"]) ?D (bind_pos ?B) (fun _ _ _ _ _ h => pb0_names h) ?R
  case D => (refine ⟨⟨?_, ?h1, ?h2⟩, ?h3, ?h4, ?h5, ?h6, ?h7, ?h8, ?h9, ?h10, ?h11, ?h12, ?h13⟩; (case h1 => rw [‹Wd.K _ = hd.heap_1 _›]; rfl); (case h2 => rfl); (case h3 => rfl); (case h4 => rw [‹Wd.K _ = hd.heap_1 _›]; rfl); (case h5 => rfl); (case h6 => rfl); (case h7 => rfl); (case h8 => rfl); (case h9 => rfl); (case h10 => rfl); (case h11 => exact names_ok (by decide +kernel)); (case h12 => decide +kernel); (case h13 => decide +kernel))
  case B => exact bp2 fun a b => by with_unfolding_all rfl
  refine' fun L => ex_mk ?S ?law
  case S => exact (b_cons (st_assign (s_kcall (f_more hquo (by decide)) rfl (by rw [hK]; rfl) (by rw [hK]; rfl) (sa_pos (ss_cons (s_replace (b_strB rfl (by rw [hK]; rfl) (ss_cons (e_name (by decide +kernel) (by decide +kernel)) ss_nil rfl) rfl (by rw [hK, hC]; rfl) (by rw [hK]; rfl) (f_more hstr0 (by decide)) (by decide +kernel)) (ss_cname (by decide +kernel) (by decide +kernel)) rfl (fun _ => rfl) rfl rfl) ss_nil rfl) rfl) (by decide +kernel) (fun _ => rfl)) (a_name (.inl rfl)) rfl rfl rfl) (b_one (st_ret (s_kcall (f_more hcls (by decide)) rfl (by rw [hK]; rfl) (by rw [hK]; rfl) (sa_pos (ss_cons (s_comp0 (100) rfl (si_list (s_cut (m_split (e_name (by decide +kernel) (by decide +kernel)) (ss_cons e_str ss_nil rfl) rfl (fun _ => rfl) rfl rfl) sp_none (sp_some (s_neg e_int)) sp_none)) (a_name (.inl rfl)) tests_nil (s_cut (m_partition (e_name (by decide +kernel) (by decide +kernel)) (ss_cons e_str ss_nil rfl) rfl (fun _ => rfl) rfl rfl) sp_none sp_none (sp_some e_int)) (fun C => (a_name (.inl rfl))) (fun C => tests_nil) (fun C => (s_cut (m_partition (e_name (by decide +kernel) (by decide +kernel)) (ss_cons e_str ss_nil rfl) rfl (fun _ => rfl) rfl rfl) sp_none sp_none (sp_some e_int))) (fun _ => rfl) (by decide +kernel) rfl (by decide +kernel) ⟨.nil, by decide +kernel⟩) ss_nil rfl) rfl) (by decide +kernel) (fun _ => rfl)))))
  case law =>
    intro a kw H r h
    unfold sentSpec at h
    split at h
    · rename_i i e
      split at h
      · rename_i x H1 hstr
        obtain ⟨hg, h⟩ : sentOk x e ∧ clsSpec initSpec [.ref (H1.length + 2)] [] (H1 ++ [PO.list ((Txt.split (sentTxt x e) crlf).map PV.str)] ++ [PO.list ((sentCut x e).map PV.str)] ++ [PO.list (((sentCut x e).map partRow).map row)]) = some r := by
          by_cases hg : sentOk x e
          · rw [if_pos hg] at h; exact ⟨hg, h⟩
          · rw [if_neg hg] at h; cases h
        obtain ⟨g1, g2, g3, g4, g5, g6, g7, g8, g9⟩ := hg
        obtain ⟨v, H', rfl⟩ : ∃ v H', r = (.ok v, H') := by
          unfold clsSpec at h
          split at h
          · cases h; exact ⟨_, _, rfl⟩
          · rename_i H' hexc
            unfold initSpec at hexc
            (repeat' split at hexc) <;> first | (cases hexc; done) | (have := (if_inv hexc).2; cases this)
          · cases h
        have htab : ∃ k li rows, Tab H i li rows ∧ H[i]? = some (.inst k) ∧ H[k]? = some (.dct [("_headers", .ref li)]) := by
          unfold strSpec at hstr
          dsimp only at hstr
          split at hstr
          · rename_i l rows ht
            obtain ⟨k, e1, e2, e3⟩ := (Tab.of ht).ex
            exact ⟨k, l, rows, Tab.of ht, e1, e2⟩
          · cases hstr
        obtain ⟨k, li, rows, _, e1, e2⟩ := htab
        refine PW.fspec (pb := pbOf (pb0 ["table", "end"])) (l := [("table", .ref i), ("end", .lit e)]) (H₁ := H) rfl ?_
        walk_at "p"
        refine PW.strI e1 e2 hstr ?_
        walk_at "p"
        refine PW.lit rfl ?_
        refine PW.replace g1 ?_
        walk_at "p"
        refine PW.call (if_pos ⟨g2, g3⟩) ?_
        walk_at "p"
        refine PW.comp ?_
        walk_at "p"
        refine PW.split rfl g4 g5 ?_
        walk_at "p"
        refine ⟨.int (-2), _, rfl, ?_⟩
        walk_at "p"
        refine PW.cutL (l := (Txt.split (sentTxt x e) crlf).map PV.str) ?_ (by rw [List.length_map]; exact g6) (by rw [List.length_map]; exact g7) ?_
        · show (H1 ++ [_])[H1.length]? = _
          rw [List.getElem?_append_right (Nat.le_refl _)]; simp; rfl
        walk_at "p"
        refine PW.nxL (l := (sentCut x e).map PV.str) ?_ ?_
        · rw [List.getElem?_append_right (Nat.le_refl _), Nat.sub_self]
          show some (PO.list _) = _
          rw [List.length_map, ← List.map_take]; rfl
        rw [List.length_map, ← List.map_take]
        show PW (pcompL (nxList (H1 ++ [PO.list ((Txt.split (sentTxt x e) crlf).map PV.str)]).length) _ _ _ (H1 ++ [PO.list ((Txt.split (sentTxt x e) crlf).map PV.str)] ++ [PO.list ((sentCut x e).map PV.str)]).length 100 0) (pinner [] { loc := lset "sent" (.str (sentTxt x e)) [("table", .ref i), ("end", .lit e)], H := (H1 ++ [PO.list ((Txt.split (sentTxt x e) crlf).map PV.str)] ++ [PO.list ((sentCut x e).map PV.str)]) ++ [PO.list []] }) _
        generalize hA : H1 ++ [PO.list ((Txt.split (sentTxt x e) crlf).map PV.str)] = HA
        generalize hB : HA ++ [PO.list ((sentCut x e).map PV.str)] = HB
        have hBl : HB[HA.length]? = some (.list ((sentCut x e).map PV.str)) := by rw [← hB, List.getElem?_append_right (Nat.le_refl _)]; simp
        refine PW.compL (fun j out σ => σ.H = HB ++ [.list out] ∧ out = (((sentCut x e).take j).map partRow).map row) (sentCut x e).length (fun j => .str ((sentCut x e).getD j default)) ?hnx ?hacc ?step ?hsz (by lia) ?fin 100 0 [] _ (by lia) (Nat.zero_le _) ⟨rfl, rfl⟩
        case hnx =>
          rintro j out σ ⟨hH, _⟩
          unfold nxList
          rw [hH, List.getElem?_append_left (lt_of_get hBl), hBl]
          dsimp only
          by_cases hj : j < (sentCut x e).length
          · rw [if_pos hj, List.getElem?_map, List.getElem?_eq_getElem hj]
            simp [List.getD, List.getElem?_eq_getElem hj]
          · rw [if_neg hj, List.getElem?_eq_none (by simpa using hj)]
        case hacc =>
          rintro j out σ ⟨hH, _⟩
          rw [hH, List.getElem?_append_right (Nat.le_refl _)]; simp
        case hsz =>
          rintro j out σ ⟨_, rfl⟩
          rw [List.length_map, List.length_map, List.length_take]; lia
        case step =>
          rintro j out σ hj ⟨hH, h2⟩
          have hr : (sentCut x e).getD j default = (sentCut x e)[j] := by simp [List.getD, List.getElem?_eq_getElem hj]
          rw [hr]
          walk_at "p"
          rw [if_pos rfl]
          walk_at "p"
          refine PW.partition rfl (g9 _ (List.getElem_mem hj)) ?_
          walk_at "p"
          refine PW.cutT ?_
          refine ⟨by rw [hH, List.getElem?_append_right (Nat.le_refl _)]; simp, ?_, ?_⟩
          · show σ.H.set HB.length _ = _
            rw [hH, List.set_append_right _ _ (Nat.le_refl _)]
            simp
          · rw [h2, List.take_add_one, List.getElem?_eq_getElem hj]
            simp only [Option.toList_some, List.map_append, List.map_cons, List.map_nil]
            rfl
        case fin =>
          rintro out σ ⟨hH, h2⟩
          rw [List.take_length] at h2
          subst h2
          refine ⟨_, rfl, ?_⟩
          walk_at "p"
          have hlen : HB.length = H1.length + 2 := by rw [← hB, ← hA]; simp
          refine PW.call (v := v) (H' := H') ?_ ?_
          · have hX : ∀ X, X = H1.length + 2 → clsSpec initSpec [PV.ref X] [] σ.H = some (.ok v, H') := by
              intro X hX
              rw [hX, hH, ← hB, ← hA]
              exact h
            exact hX _ (by simp)
          · walk_at "p"
            exact ⟨rfl, .inl rfl⟩
      · cases h
    · cases h
end
end

section
open PySem PySem.W PyProof.Rows PySem.Spec PySem.SeqAt PySem.Calls
set_option autoImplicit false
set_option linter.unusedVariables false
set_option linter.unusedSectionVars false
set_option maxRecDepth 100000
set_option maxHeartbeats 4000000
set_option tactic.hygienic false
section
variable {W : Wd} {P : Params} (hK : W.K = hd.heap_1 P) (hC : W.C = 184) (hCl : ClsOk W) (hP : PatsOk W PT)
include hK hC hCl hP
set_option tactic.hygienic true in
theorem d_delitem (hconv : FHolds W 2 (.ref 83) convX) : CHolds W 3 (.ref 102) delX := by
  refine c_defX (d := 2) (fd := ?fd) (body := ?body) (ns := ["self", "name"]) ?D (bind_pos ?B) (fun _ _ _ _ _ h => pb0_names h) ?R
  case D => (refine ⟨⟨?_, ?h1, ?h2⟩, ?h3, ?h4, ?h5, ?h6, ?h7, ?h8, ?h9, ?h10, ?h11, ?h12, ?h13⟩; (case h1 => rw [‹Wd.K _ = hd.heap_1 _›]; rfl); (case h2 => rfl); (case h3 => rfl); (case h4 => rw [‹Wd.K _ = hd.heap_1 _›]; rfl); (case h5 => rfl); (case h6 => rfl); (case h7 => rfl); (case h8 => rfl); (case h9 => rfl); (case h10 => rfl); (case h11 => exact names_ok (by decide +kernel)); (case h12 => decide +kernel); (case h13 => decide +kernel))
  case B => exact bp2 fun a b => by with_unfolding_all rfl
  intro L
  refine' ex_mk ?S ?law
  case S => exact (b_cons (st_assign (s_icall (e_name (by decide +kernel) (by decide +kernel)) (f_more hconv (by decide)) (by rw [hK, hC]; rfl) (by rw [hK]; rfl) (by rw [hK]; rfl) (sa_kw1 (ss_cons (m_lower (e_name (by decide +kernel) (by decide +kernel)) ss_nil rfl (fun _ => rfl) rfl rfl) ss_nil rfl) e_bool rfl) (fun _ => rfl) rfl rfl rfl) (a_name (.inr ⟨rfl, _, rfl⟩)) rfl rfl rfl) (b_one (st_assign (s_comp0 (100) rfl (si_list (s_field (e_name (by decide +kernel) (by decide +kernel)) (by rw [hK, hC]; rfl))) (a_name (.inl rfl)) (tests_one (t_ne (m_lower (s_item (e_name (by decide +kernel) (by decide +kernel)) e_int (fun _ => (fun _ => rfl))) ss_nil rfl (fun _ => rfl) rfl rfl) (e_name (by decide +kernel) (by decide +kernel)) rfl)) (e_name (by decide +kernel) (by decide +kernel)) (fun C => (a_name (.inl rfl))) (fun C => (tests_one (t_ne (m_lower (s_item (e_name (by decide +kernel) (by decide +kernel)) e_int (fun _ => (fun _ => rfl))) ss_nil rfl (fun _ => rfl) rfl rfl) (e_name (by decide +kernel) (by decide +kernel)) rfl))) (fun C => (e_name (by decide +kernel) (by decide +kernel))) (fun _ => rfl) (by decide +kernel) rfl (by decide +kernel) ⟨(.cons ⟨rfl, rfl, rfl, .inl rfl⟩ .nil), by decide +kernel⟩) (a_slice (s_field (e_name (by decide +kernel) (by decide +kernel)) (by rw [hK, hC]; rfl))) rfl rfl rfl)))
  case law =>
    intro a kw H r h
    unfold delX at h
    split at h
    · rename_i i n
      unfold delX2 at h
      cases ht : getTab H i with
      | none => rw [ht] at h; cases h
      | some lr =>
        obtain ⟨li, rows⟩ := lr
        rw [ht] at h
        obtain ⟨⟨ho, hn⟩, h2⟩ := ite_some h
        clear h
        obtain ⟨k, e1, e2, e3⟩ := (Tab.of ht).ex
        unfold nameLen at hn
        simp only [Bool.and_eq_true, decide_eq_true_eq] at hn
        obtain ⟨hn1, hn3⟩ := hn
        cases hn2 : hasN (Txt.lower n) with
        | true =>
          rw [if_pos hn2] at h2
          cases h2
          refine PWE.fspecX (pb := pbOf (pb0 ["self", "name"])) (l := [("self", .ref i), ("name", .str n)]) (H₁ := H) rfl ?_
          walk_at "x"
          refine PWE.inst e1 e2 ?_
          refine PWE.guard rfl ?_
          walk_at "x"
          refine PW.lower (x := n) (by lia) ?_
          walk_at "x"
          exact PWE.call (convX_exc hn3 hn2) rfl
        | false =>
        rw [if_neg (by rw [hn2]; decide)] at h2
        cases h2
        refine fspec_X ?_
        have up : ∀ (x : Nat) (o o' : PO), H[x]? = some o → (H ++ [o'])[x]? = some o := fun x o o' e => by rw [List.getElem?_append_left (lt_of_get e)]; exact e
        refine PW.fspec (pb := pbOf (pb0 ["self", "name"])) (l := [("self", .ref i), ("name", .str n)]) (H₁ := H) rfl ?_
        walk_at "p"
        refine PW.inst e1 e2 ?_
        refine PW.guard rfl ?_
        walk_at "p"
        refine PW.lower (x := n) (by lia) ?_
        walk_at "p"
        refine PW.call (convX_ok (hn3) hn2) ?_
        walk_at "p"
        refine PW.comp ?_
        walk_at "p"
        refine PW.field e1 e2 ?_
        walk_at "p"
        refine PW.nxL e3 ?_
        have hlen : (H ++ [PO.list []]).length = H.length + 1 := by simp
        refine PW.compL (fun j out σ => σ.H = H ++ [.list out] ∧ σ.loc.lookup "name" = some (.str (Txt.lower n)) ∧ out = (kept (rows.take j) n).map row) rows.length (fun j => row (rows.getD j default)) ?hnx ?hacc ?step ?hsz (by have := rowsOk.len ho; lia) ?fin 100 0 [] _ (by have := rowsOk.len ho; lia) (Nat.zero_le _) ⟨rfl, rfl, rfl⟩
        case hnx =>
          rintro j out σ ⟨hH, _⟩
          unfold nxList
          rw [hH, up _ _ _ e3]
          dsimp only
          by_cases hj : j < rows.length
          · rw [if_pos hj, List.getElem?_map, List.getElem?_eq_getElem hj]
            simp [List.getD, List.getElem?_eq_getElem hj]
          · rw [if_neg hj, List.getElem?_eq_none (by simpa using hj)]
        case hacc =>
          rintro j out σ ⟨hH, _⟩
          rw [hH, List.getElem?_append_right (Nat.le_refl _)]; simp
        case hsz =>
          rintro j out σ ⟨_, _, rfl⟩
          rw [List.length_map]
          unfold kept
          exact Nat.le_trans (List.length_filter_le _ _) (by rw [List.length_take]; lia)
        case step =>
          rintro j out σ hj ⟨hH, h1, h2⟩
          have hr : rows.getD j default = rows[j] := by simp [List.getD, List.getElem?_eq_getElem hj]
          rw [hr]
          have hm : rows[j] ∈ rows := List.getElem_mem hj
          have hro := rowsOk.row ho hm
          unfold row
          walk_at "p"
          refine PW.itemT (p := .str rows[j].1) rfl (by decide) ?_
          walk_at "p"
          refine PW.lower (x := rows[j].1) (by lia) ?_
          walk_at "p"
          have htk : kept (rows.take (j + 1)) n = kept (rows.take j) n ++ (if (Txt.lower rows[j].1 != Txt.lower n) = true then [rows[j]] else []) := by
            unfold kept
            rw [List.take_add_one, List.getElem?_eq_getElem hj, List.filter_append]
            congr 1
            simp only [Option.toList_some, List.filter_cons, List.filter_nil]
          cases hc : Txt.lower rows[j].1 != Txt.lower n with
          | true =>
            rw [if_pos rfl]
            walk_at "p"
            rw [hc] at htk
            refine ⟨by rw [hH, List.getElem?_append_right (Nat.le_refl _)]; simp, ?_, lset_ne (by decide) h1, ?_⟩
            · show σ.H.set H.length _ = _
              rw [hH, List.set_append_right _ _ (Nat.le_refl _)]
              simp
            · rw [htk, h2]
              simp [row]
          | false =>
            rw [if_neg (by decide)]
            refine ⟨hH, lset_ne (by decide) h1, ?_⟩
            rw [hc] at htk
            rw [htk, h2]
            simp [row]
        case fin =>
          rintro out σ ⟨hH, h1, h2⟩
          rw [List.take_length] at h2
          subst h2
          refine ⟨lset "name" (.str (Txt.lower n)) (lset "name" (.str (Txt.lower n)) [("self", .ref i), ("name", .str n)]), by unfold pback; rw [h1]; rfl, ?_⟩
          walk_at "p"
          have g1 : σ.H[i]? = some (.inst k) := by rw [hH]; exact up _ _ _ e1
          have g2 : σ.H[k]? = some (.dct [("_headers", .ref li)]) := by rw [hH]; exact up _ _ _ e2
          have g3 : σ.H[li]? = some (.list (rows.map row)) := by rw [hH]; exact up _ _ _ e3
          have g4 : σ.H[H.length]? = some (.list ((kept rows n).map row)) := by rw [hH, List.getElem?_append_right (Nat.le_refl _)]; simp
          refine PW.field g1 g2 ?_
          have hk : (kept rows n).length ≤ rows.length := by unfold kept; exact List.length_filter_le _ _
          refine PW.allset g3 g4 (Nat.ne_of_lt (lt_of_get e3)) ?_ ?_
          · rw [List.length_map, List.length_map, sizeLine_eq]; have := rowsOk.len ho; lia
          · walk_at "p"
            refine ⟨?_, .inr ⟨rfl, rfl⟩⟩
            show σ.H.set li _ = _
            rw [hH]
    · cases h

set_option tactic.hygienic true in
theorem d_setitem (hconv : FHolds W 2 (.ref 83) convX) (hdel : FHolds W 3 (.ref 102) delX) : CHolds W 4 (.ref 97) storeX := by
  refine c_defX (d := 3) (fd := ?fd) (body := ?body) (ns := ["self", "name", "val"]) ?D (bind_pos ?B) (fun _ _ _ _ _ h => pb0_names h) ?R
  case D => (refine ⟨⟨?_, ?h1, ?h2⟩, ?h3, ?h4, ?h5, ?h6, ?h7, ?h8, ?h9, ?h10, ?h11, ?h12, ?h13⟩; (case h1 => rw [‹Wd.K _ = hd.heap_1 _›]; rfl); (case h2 => rfl); (case h3 => rfl); (case h4 => rw [‹Wd.K _ = hd.heap_1 _›]; rfl); (case h5 => rfl); (case h6 => rfl); (case h7 => rfl); (case h8 => rfl); (case h9 => rfl); (case h10 => rfl); (case h11 => exact names_ok (by decide +kernel)); (case h12 => decide +kernel); (case h13 => decide +kernel))
  case B => exact bp3 fun a b c => by with_unfolding_all rfl
  intro L
  refine' ex_mk ?S ?law
  case S => exact (b_cons (st_delI hCl (f_more hdel (by decide)) (by rw [hK, hC]; rfl) (by rw [hK]; rfl) (e_name (by decide +kernel) (by decide +kernel)) (e_name (by decide +kernel) (by decide +kernel))) (b_one (st_expr (ml_append (s_field (e_name (by decide +kernel) (by decide +kernel)) (by rw [hK, hC]; rfl)) (ss_cons (s_tuple (ss_cons (s_icall (e_name (by decide +kernel) (by decide +kernel)) (f_more hconv (by decide)) (by rw [hK, hC]; rfl) (by rw [hK]; rfl) (by rw [hK]; rfl) (sa_kw1 (ss_cons (e_name (by decide +kernel) (by decide +kernel)) ss_nil rfl) e_bool rfl) (fun _ => rfl) rfl rfl rfl) (ss_cons (s_icall (e_name (by decide +kernel) (by decide +kernel)) (f_more hconv (by decide)) (by rw [hK, hC]; rfl) (by rw [hK]; rfl) (by rw [hK]; rfl) (sa_kw1 (ss_cons (e_name (by decide +kernel) (by decide +kernel)) ss_nil rfl) e_bool rfl) (fun _ => rfl) rfl rfl rfl) ss_nil rfl) rfl)) ss_nil rfl) rfl (fun _ => rfl) rfl rfl) rfl rfl)))
  case law =>
    intro a kw H r h
    unfold storeX at h
    split at h
    · rename_i i n v
      cases hd : delX2 i n H with
      | none => rw [hd] at h; cases h
      | some q =>
        obtain ⟨q, H₁⟩ := q
        have hin : n.length ≤ 10000 ∧ ∃ k l, H[i]? = some (.inst k) ∧ H[k]? = some (.dct [("_headers", .ref l)]) := by
          have hd' := hd
          unfold delX2 at hd'
          split at hd'
          · rename_i l rows ht
            obtain ⟨⟨ho, hn⟩, _⟩ := ite_some hd'
            obtain ⟨k, e1, e2, e3⟩ := (Tab.of ht).ex
            unfold nameLen at hn
            simp only [Bool.and_eq_true, decide_eq_true_eq] at hn
            exact ⟨hn.1, k, l, e1, e2⟩
          · cases hd'
        obtain ⟨hn, k0, l0, f1, f2⟩ := hin
        rw [hd] at h
        cases q with
        | exc =>
          cases h
          refine PWE.fspecX (pb := pbOf (pb0 ["self", "name", "val"])) (l := [("self", .ref i), ("name", .str n), ("val", .str v)]) (H₁ := H) rfl ?_
          walk_at "x"
          refine PWE.inst f1 f2 ?_
          walk_at "x"
          exact PWE.call hd rfl
        | ok u =>
          dsimp only at h
          cases ht : getTab H₁ i with
          | none => rw [ht] at h; cases h
          | some lr =>
            obtain ⟨li, rows⟩ := lr
            rw [ht] at h
            obtain ⟨⟨hv, ho⟩, h2⟩ := ite_some h
            clear h
            obtain ⟨k, e1, e2, e3⟩ := (Tab.of ht).ex
            refine PWE.fspecX (pb := pbOf (pb0 ["self", "name", "val"])) (l := [("self", .ref i), ("name", .str n), ("val", .str v)]) (H₁ := H) rfl ?_
            walk_at "x"
            refine PWE.inst f1 f2 ?_
            walk_at "x"
            refine PWE.of (PW.call (v := u) (H' := H₁) hd ?_)
            walk_at "x"
            refine PWE.of (PW.field e1 e2 ?_)
            walk_at "x"
            refine PWE.plist e3 ?_
            walk_at "x"
            refine PWE.inst e1 e2 ?_
            refine PWE.guard rfl ?_
            walk_at "x"
            cases hN : hasN n with
            | true =>
              rw [if_pos (.inl hN)] at h2
              cases h2
              exact PWE.call (convX_exc (by lia) hN) rfl
            | false =>
              refine PWE.of (PW.call (convX_ok (by lia) hN) ?_)
              walk_at "x"
              refine PWE.inst e1 e2 ?_
              refine PWE.guard rfl ?_
              walk_at "x"
              cases hV : hasV v with
              | true =>
                rw [if_pos (.inr hV)] at h2
                cases h2
                exact PWE.call (convX_exc (by lia) hV) rfl
              | false =>
                rw [if_neg (by rw [hN, hV]; decide)] at h2
                cases h2
                refine PWE.of (PW.call (convX_ok (by lia) hV) ?_)
                walk_at "x"
                refine PWE.guard ⟨by rw [sizeLine_eq]; simp, rfl⟩ ?_
                walk_at "x"
                refine PWE.of (PW.append e3 (by rw [List.length_map, sizeLine_eq]; have := rowsOk.len ho; lia) ?_)
                walk_at "x"
                refine .inr ⟨rfl, ?_⟩
                simp [row]
    · cases h
end
end

section
open PySem PySem.W PyProof.Rows PySem.Spec PySem.SeqAt PySem.Calls
set_option autoImplicit false
set_option linter.unusedVariables false
set_option linter.unusedSectionVars false
set_option maxRecDepth 100000
set_option maxHeartbeats 4000000
set_option tactic.hygienic false
theorem join_one {x v : Str} : Txt.join x [v] = v := rfl
theorem join_one_ok {x v : Str} (hx : x.length ≤ 100) (h : v.length ≤ 10000) : JoinOk x [v] = true := by
  have hsl := sizeLine_eq
  have hle : v.length + x.length ≤ sizeLine := by lia
  unfold JoinOk
  show (!Builtin.Str.tooLong (0 + v.length + x.length)) = true
  unfold Builtin.Str.tooLong
  simp
  lia
noncomputable def addX3 : FSpec
  | [.ref i, .str n, .str v], [], H => (match getTab H i with
    | some (l, rows) => if rowsOk rows = true ∧ n.length ≤ 10000 ∧ v.length ≤ 10000 ∧ hasN n = false ∧ hasV v = false then some (.ok .none, (H ++ [PO.dct []] ++ [PO.list [PV.str v]]).set l (PO.list ((rows ++ [(n, v)]).map row))) else none
    | none => none)
  | _, _, _ => none
section
variable {W : Wd} {P : Params} (hK : W.K = hd.heap_1 P) (hC : W.C = 184) (hCl : ClsOk W) (hP : PatsOk W PT)
include hK hC hCl hP
set_option tactic.hygienic true in
theorem d_add (hconv : FHolds W 2 (.ref 83) convX) (hfmt : FHolds W 1 (.ref 61) fun _ _ _ => none) : CHolds W 3 (.ref 181) addX3 := by
  refine c_def2 (d := 2) (fd := ?fd) (body := ?body) (ns := ["self", "_name", "_value", "_params"]) ?D (bind_kw0 (ns := ["self", "_name", "_value"]) (kn := "_params") ?B) (fun _ _ _ _ _ h => pbKw0_names h) ?R
  case D => (refine ⟨⟨?_, ?h1, ?h2⟩, ?h3, ?h4, ?h5, ?h6, ?h7, ?h8, ?h9, ?h10, ?h11, ?h12, ?h13⟩; (case h1 => rw [‹Wd.K _ = hd.heap_1 _›]; rfl); (case h2 => rfl); (case h3 => rfl); (case h4 => rw [‹Wd.K _ = hd.heap_1 _›]; rfl); (case h5 => rfl); (case h6 => rfl); (case h7 => rfl); (case h8 => rfl); (case h9 => rfl); (case h10 => rfl); (case h11 => exact names_ok (by decide +kernel)); (case h12 => decide +kernel); (case h13 => decide +kernel))
  case B => exact fun | [a, b, c], _ => by with_unfolding_all rfl
  intro L
  refine' ex_mk ?S ?law
  case S => exact (b_cons (st_assign (s_list ss_nil) (a_name (.inl rfl)) rfl rfl rfl) (b_cons (st_if (t_isnot (e_name (by decide +kernel) (by decide +kernel)) e_none rfl) (b_cons (st_assign (s_icall (e_name (by decide +kernel) (by decide +kernel)) (f_more hconv (by decide)) (by rw [hK, hC]; rfl) (by rw [hK]; rfl) (by rw [hK]; rfl) (sa_kw1 (ss_cons (e_name (by decide +kernel) (by decide +kernel)) ss_nil rfl) e_bool rfl) (fun _ => rfl) rfl rfl rfl) (a_name (.inl rfl)) rfl rfl rfl) (b_one (st_expr (ml_append (e_name (by decide +kernel) (by decide +kernel)) (ss_cons (e_name (by decide +kernel) (by decide +kernel)) ss_nil rfl) rfl (fun _ => rfl) rfl rfl) rfl rfl))) b_nil) (b_cons (st_for (100) (si_items (e_name (by decide +kernel) (by decide +kernel)) (fun _ => rfl) rfl rfl) (a_tuple (.cons (a_name (.inl rfl)) (.cons (a_name (.inl rfl)) .nil)) rfl) (b_cons (st_assign (s_icall (e_name (by decide +kernel) (by decide +kernel)) (f_more hconv (by decide)) (by rw [hK, hC]; rfl) (by rw [hK]; rfl) (by rw [hK]; rfl) (sa_kw1 (ss_cons (e_name (by decide +kernel) (by decide +kernel)) ss_nil rfl) e_bool rfl) (fun _ => rfl) rfl rfl rfl) (a_name (.inl rfl)) rfl rfl rfl) (b_one (st_if (t_is (e_name (by decide +kernel) (by decide +kernel)) e_none rfl) (b_one (st_expr (ml_append (e_name (by decide +kernel) (by decide +kernel)) (ss_cons (s_replace (e_name (by decide +kernel) (by decide +kernel)) ss_cc rfl (fun _ => rfl) rfl rfl) ss_nil rfl) rfl (fun _ => rfl) rfl rfl) rfl rfl)) (b_cons (st_assign (s_icall (e_name (by decide +kernel) (by decide +kernel)) (f_more hconv (by decide)) (by rw [hK, hC]; rfl) (by rw [hK]; rfl) (by rw [hK]; rfl) (sa_kw1 (ss_cons (e_name (by decide +kernel) (by decide +kernel)) ss_nil rfl) e_bool rfl) (fun _ => rfl) rfl rfl rfl) (a_name (.inl rfl)) rfl rfl rfl) (b_one (st_expr (ml_append (e_name (by decide +kernel) (by decide +kernel)) (ss_cons (s_kcall (f_more hfmt (by decide)) rfl (by rw [hK]; rfl) (by rw [hK]; rfl) (sa_pos (ss_cons (s_replace (e_name (by decide +kernel) (by decide +kernel)) ss_cc rfl (fun _ => rfl) rfl rfl) (ss_cons (e_name (by decide +kernel) (by decide +kernel)) ss_nil rfl) rfl) rfl) (by decide +kernel) (fun _ => rfl)) ss_nil rfl) rfl (fun _ => rfl) rfl rfl) rfl rfl)))))) (fun _ => rfl)) (b_one (st_expr (ml_append (s_field (e_name (by decide +kernel) (by decide +kernel)) (by rw [hK, hC]; rfl)) (ss_cons (s_tuple (ss_cons (s_icall (e_name (by decide +kernel) (by decide +kernel)) (f_more hconv (by decide)) (by rw [hK, hC]; rfl) (by rw [hK]; rfl) (by rw [hK]; rfl) (sa_kw1 (ss_cons (e_name (by decide +kernel) (by decide +kernel)) ss_nil rfl) e_bool rfl) (fun _ => rfl) rfl rfl rfl) (ss_cons (m_join e_str (ss_cons (e_name (by decide +kernel) (by decide +kernel)) ss_nil rfl) rfl (fun _ => rfl) rfl rfl) ss_nil rfl) rfl)) ss_nil rfl) rfl (fun _ => rfl) rfl rfl) rfl rfl)))))
  case law =>
    intro a kw H r h
    unfold addX3 at h
    split at h
    · rename_i i n v
      cases ht : getTab H i with
      | none => rw [ht] at h; cases h
      | some lr =>
        obtain ⟨li, rows⟩ := lr
        rw [ht] at h
        obtain ⟨⟨ho, hn, hv, hN, hV⟩, rfl⟩ := if_inv h
        obtain ⟨k, e1, e2, e3⟩ := (Tab.of ht).ex
        have hsl := sizeLine_eq
        have up : ∀ {H : List PO} {x : Nat} {o o' : PO}, H[x]? = some o → (H ++ [o'])[x]? = some o := fun {H x o o'} e => by rw [List.getElem?_append_left (lt_of_get e)]; exact e
        have hll : li < H.length := lt_of_get e3
        refine PW.fspec (pb := pbKw0 ["self", "_name", "_value"] "_params") (l := [("self", .ref i), ("_name", .str n), ("_value", .str v), ("_params", .ref H.length)]) (H₁ := H ++ [PO.dct []]) rfl ?_
        walk_at "p"
        refine PW.guard (by rw [hsl]; decide) ?_
        walk_at "p"
        refine PW.inst (up (up e1)) (up (up e2)) ?_
        refine PW.guard rfl ?_
        walk_at "p"
        refine PW.call (convX_ok (by lia) hV) ?_
        walk_at "p"
        have hl1 : (H ++ [PO.dct []]).length = H.length + 1 := by simp
        have hp : ∀ l : List PV, (H ++ [PO.dct []] ++ [PO.list l])[(H ++ [PO.dct []]).length]? = some (.list l) := fun l => by rw [List.getElem?_append_right (Nat.le_refl _)]; simp
        refine PW.plist (hp []) ?_
        walk_at "p"
        refine PW.append (hp []) (by rw [hsl]; decide) ?_
        rw [show (H ++ [PO.dct []] ++ [PO.list []]).set (H ++ [PO.dct []]).length (PO.list ([] ++ [PV.str v])) = H ++ [PO.dct []] ++ [PO.list [PV.str v]] by rw [List.set_append_right _ _ (Nat.le_refl _)]; simp]
        walk_at "p"
        refine PW.nxI (by rw [up]; rw [List.getElem?_append_right (Nat.le_refl _)]; simp) ?_
        have hd0 : (H ++ [PO.dct []] ++ [PO.list [PV.str v]])[H.length]? = some (.dct []) := by rw [up]; rw [List.getElem?_append_right (Nat.le_refl _)]; simp
        refine PW.forNone (show nxItems H.length 0 (H ++ [PO.dct []] ++ [PO.list [PV.str v]]) = some none by unfold nxItems; rw [hd0]; rfl) ?_
        walk_at "p"
        refine PW.field (up (up e1)) (up (up e2)) ?_
        walk_at "p"
        refine PW.plist (up (up e3)) ?_
        walk_at "p"
        refine PW.inst (up (up e1)) (up (up e2)) ?_
        refine PW.guard rfl ?_
        walk_at "p"
        refine PW.call (convX_ok (by lia) hN) ?_
        walk_at "p"
        refine PW.join (l := [PV.str v]) (xs := [v]) (hp _) rfl (join_one_ok (by decide) hv) ?_
        walk_at "p"
        refine PW.guard ⟨by rw [hsl]; simp, rfl⟩ ?_
        walk_at "p"
        refine PW.append (up (up e3)) (by rw [List.length_map, hsl]; have := rowsOk.len ho; lia) ?_
        walk_at "p"
        refine ⟨?_, .inr ⟨rfl, rfl⟩⟩
        simp [row, join_one]
    · cases h
end
end

section
open PySem PySem.W PyProof.Rows PySem.Spec PySem.SeqAt PySem.Calls
set_option autoImplicit false
set_option linter.unusedVariables false
set_option linter.unusedSectionVars false
set_option maxRecDepth 100000
set_option maxHeartbeats 4000000
set_option tactic.hygienic false
noncomputable def itN (g : Nat → Nat) : Nat → Nat → Nat
  | 0, x => x
  | n + 1, x => itN g n (g x)
noncomputable def FarLaw (sp : FSpec) : Prop := ∀ (H : List PO) (g : Nat) (gs : List Nat) (n : Nat), H[g]? = some (.list (gs.map natP)) → gs.length = 5 → (∀ x ∈ gs, x < 5) → n < 2 ^ 60 →
  ∃ k X, sp [.ref g, natP n] [] H = some (.ok (.ref k), H ++ X) ∧ (H ++ X)[k]? = some (.list ((List.range 5).map fun b => natP (itN (fun x => gs.getD x 0) n b)))
theorem far_map {σ : PS} {g s : Nat} {n : String} {gs xs : List Nat} {Q : PV → PS → Prop} (h1 : σ.loc.lookup "goals" = some (.ref g)) (h2 : σ.loc.lookup n = some (.ref s)) (e1 : σ.H[g]? = some (.list (gs.map natP))) (e2 : σ.H[s]? = some (.list (xs.map natP)))
    (hx : ∀ x ∈ xs, x < gs.length) (hl : xs.length ≤ 99) (hg : gs.length ≤ 99) (h : Q (.ref σ.H.length) ⟨lset "goals" (.ref g) σ.loc, σ.H ++ [.list ((xs.map fun x => gs.getD x 0).map natP)]⟩) :
    PW (pcomp ["goals"] ((pnoexc (pget n)).bind pnxList) (pput "box") (PM.pure true) ((pget "goals").bind fun a => (pget "box").bind fun b => pitem a b) 100) σ Q := by
  refine PW.mapL (l := xs.map natP) (fun p => match p with | .int z => natP (gs.getD z.toNat 0) | p => p) (fun loc => loc.lookup "goals" = some (.ref g)) ?hp e2 (by simpa using hl) ?h0 ?step ?fin
  case hp => exact PW.bind (PW.noexc (PW.get h2 (PW.plist e2 (PW.pure ⟨rfl, rfl⟩))))
  case h0 => show (([("goals" : String)].filterMap fun n => (σ.loc.lookup n).map fun p => (n, p)) : List (String × PV)).lookup "goals" = _; simp [h1]
  case step =>
    intro x τ hxm hJ hH
    obtain ⟨y, hy, rfl⟩ := List.mem_map.1 hxm
    obtain ⟨L, hL⟩ := hH
    have hlt := hx y hy
    refine PW.put (PW.bind (PW.get (lset_ne (by decide) hJ) (PW.bind (PW.get lset_self (PW.itemN (l := gs.map natP) (p := natP (gs.getD y 0)) ?_ ?_ (by lia) ⟨?_, lset_ne (by decide) hJ, rfl⟩)))))
    · show τ.H[g]? = _; rw [hL]; exact get_app e1
    · simp [List.getD, List.getElem?_eq_getElem hlt]
    · show natP _ = natP _; simp
  case fin =>
    intro loc' hJ
    refine ⟨lset "goals" (.ref g) σ.loc, by simp [pback, hJ], ?_⟩
    have e : (xs.map natP).map (fun p => match p with | .int z => natP (gs.getD z.toNat 0) | p => p) = (xs.map fun x => gs.getD x 0).map natP := by
      rw [List.map_map, List.map_map]; exact List.map_congr_left fun x _ => by show natP _ = natP _; simp
    rw [e]; exact h
theorem ref_shape {r : Option (Res PV × List PO)} {H : List PO} {o : PO} (h : ∃ v H', r = some (.ok v, H') ∧ ∃ k X, v = .ref k ∧ H' = H ++ X ∧ H'[k]? = some o) : ∃ k X, r = some (.ok (.ref k), H ++ X) ∧ (H ++ X)[k]? = some o := by
  obtain ⟨v, H', e, k, X, rfl, rfl, h⟩ := h
  exact ⟨k, X, e, h⟩
theorem nbeq {n : Nat} (h : n ≠ 0) : (!Nat.beq n 0) = true := by
  cases n with
  | zero => exact absurd rfl h
  | succ n => rfl
theorem itN_step (g : Nat → Nat) (x : Nat) (n : Nat) : itN g (n + 1) x = itN g n (g x) := rfl
theorem itN_two (g : Nat → Nat) : ∀ (n x : Nat), itN (fun y => g (g y)) n x = itN g (2 * n) x
  | 0, x => rfl
  | n + 1, x => by rw [itN_step, itN_two g n, show 2 * (n + 1) = 2 * n + 1 + 1 by lia, itN_step, itN_step]
theorem itN_congr {g g' : Nat → Nat} {m : Nat} (h : ∀ x < m, g x = g' x) (hm : ∀ x < m, g x < m) : ∀ (n x : Nat), x < m → itN g n x = itN g' n x
  | 0, x, _ => rfl
  | n + 1, x, hx => by rw [itN_step, itN_step, ← h x hx]; exact itN_congr h hm n _ (hm x hx)
theorem getD_lt {gs : List Nat} {m x : Nat} (h : ∀ y ∈ gs, y < m) (hx : x < gs.length) : gs.getD x 0 < m := by
  simp only [List.getD, List.getElem?_eq_getElem hx, Option.getD_some]; exact h _ (List.getElem_mem hx)
theorem getD_map {xs : List Nat} {f : Nat → Nat} {x : Nat} (hx : x < xs.length) : (xs.map f).getD x 0 = f (xs.getD x 0) := by
  simp [List.getD, List.getElem?_eq_getElem hx]
section
variable {W : Wd} {P : Params} (hK : W.K = hd.heap_1 P) (hC : W.C = 184) (hCl : ClsOk W) (hP : PatsOk W PT)
include hK hC hCl hP
theorem d_far : ∃ sp, CHolds W 2 (.ref 241) sp ∧ FarLaw sp := by
  refine own_mk' (c_own (d := 1) (fd := ?fd) (body := ?body) (ns := ["goals", "turns"]) (p := ?p) ?D (bind_pos ?B) (fun _ _ _ _ _ h => pb0_names h) fun L => ?S) ?law
  case D => (refine ⟨⟨?_, ?h1, ?h2⟩, ?h3, ?h4, ?h5, ?h6, ?h7, ?h8, ?h9, ?h10, ?h11, ?h12, ?h13⟩; (case h1 => rw [‹Wd.K _ = hd.heap_1 _›]; rfl); (case h2 => rfl); (case h3 => rfl); (case h4 => rw [‹Wd.K _ = hd.heap_1 _›]; rfl); (case h5 => rfl); (case h6 => rfl); (case h7 => rfl); (case h8 => rfl); (case h9 => rfl); (case h10 => rfl); (case h11 => exact names_ok (by decide +kernel)); (case h12 => decide +kernel); (case h13 => decide +kernel))
  case B => exact bp2 fun a b => by with_unfolding_all rfl
  case S => 
    refine' sb_as ?hT ?hE
    case hT => exact (b_cons (st_assign (s_list (ss_cons e_int (ss_cons e_int (ss_cons e_int (ss_cons e_int (ss_cons e_int ss_nil rfl) rfl) rfl) rfl) rfl)) (a_name (.inl rfl)) rfl rfl rfl) (b_cons (st_while (100) (t_plain (e_name (by decide +kernel) (by decide +kernel)) rfl) (b_cons (st_if (t_plain (s_mod (e_name (by decide +kernel) (by decide +kernel)) e_int) rfl) (b_one (st_compS (100) rfl rfl (si_list (e_name (by decide +kernel) (by decide +kernel))) (a_name (.inl rfl)) tests_nil (s_item (e_name (by decide +kernel) (by decide +kernel)) (e_name (by decide +kernel) (by decide +kernel)) (fun _ => (fun _ => rfl))) (fun C => (a_name (.inl rfl))) (fun C => tests_nil) (fun C => (s_item (e_name (by decide +kernel) (by decide +kernel)) (e_name (by decide +kernel) (by decide +kernel)) (fun _ => (fun _ => rfl)))) (fun _ => rfl) (by decide +kernel) rfl (by decide +kernel) ⟨(.cons ⟨rfl, rfl, rfl, .inl rfl⟩ .nil), by decide +kernel⟩ (.inl rfl))) b_nil) (b_cons (st_assign (s_comp0 (100) rfl (si_list (e_name (by decide +kernel) (by decide +kernel))) (a_name (.inl rfl)) tests_nil (s_item (e_name (by decide +kernel) (by decide +kernel)) (e_name (by decide +kernel) (by decide +kernel)) (fun _ => (fun _ => rfl))) (fun C => (a_name (.inl rfl))) (fun C => tests_nil) (fun C => (s_item (e_name (by decide +kernel) (by decide +kernel)) (e_name (by decide +kernel) (by decide +kernel)) (fun _ => (fun _ => rfl)))) (fun _ => rfl) (by decide +kernel) rfl (by decide +kernel) ⟨(.cons ⟨rfl, rfl, rfl, .inl rfl⟩ .nil), by decide +kernel⟩) (a_name (.inr ⟨rfl, _, rfl⟩)) rfl rfl rfl) (b_one (st_idiv e_int (.inl rfl) (by decide +kernel) (by decide +kernel)))))) (b_one (st_ret (e_name (by decide +kernel) (by decide +kernel))))))
    case hE => exact rfl
  case law =>
    intro H g gs n hg hlen hlt hn
    refine ref_shape (PW.fspecE (pb := pbOf (pb0 ["goals", "turns"])) (l := [("goals", .ref g), ("turns", natP n)]) (H₁ := H) rfl ?_)
    walk_at "p"
    refine PW.guard (by rw [sizeLine_eq]; decide) ?_
    walk_at "p"
    refine PW.mono (PW.while (Q := fun f τ => f = .next ∧ ∃ k X, τ.loc.lookup "far" = some (.ref k) ∧ τ.H = H ++ X ∧ τ.H[k]? = some (.list ((List.range 5).map fun b => natP (itN (fun x => gs.getD x 0) n b))))
      (fun k τ => ∃ (g' f' : Nat) (gs' fs' : List Nat) (n' : Nat) (X : List PO), n' < 2 ^ k ∧ n' < 2 ^ 60 ∧ τ.loc.lookup "goals" = some (.ref g') ∧ τ.loc.lookup "far" = some (.ref f') ∧ τ.loc.lookup "turns" = some (natP n') ∧ τ.H = H ++ X
        ∧ τ.H[g']? = some (.list (gs'.map natP)) ∧ τ.H[f']? = some (.list (fs'.map natP)) ∧ gs'.length = 5 ∧ fs'.length = 5 ∧ (∀ x ∈ gs', x < 5) ∧ (∀ x ∈ fs', x < 5) ∧ ∀ b < 5, itN (fun x => gs'.getD x 0) n' (fs'.getD b 0) = itN (fun x => gs.getD x 0) n b) ?ws 100 60 _ (by lia) ?h0) ?rest
    case h0 =>
      refine ⟨g, H.length, gs, [0, 1, 2, 3, 4], n, [_], hn, hn, rfl, rfl, rfl, rfl, get_app hg, by rw [List.getElem?_append_right (Nat.le_refl _), Nat.sub_self]; rfl, hlen, rfl, hlt, by decide, ?_⟩
      intro b hb
      have : [0, 1, 2, 3, 4].getD b 0 = b := by
        match b, hb with
        | 0, _ => rfl
        | 1, _ => rfl
        | 2, _ => rfl
        | 3, _ => rfl
        | 4, _ => rfl
      rw [this]
    case rest =>
      rintro f τ ⟨rfl, k, X, h1, h2, h3⟩
      dsimp only
      walk_at "p"
      exact ⟨_, rfl, k, X, rfl, h2, h3⟩
    case ws =>
      rintro k τ ⟨g', f', gs', fs', n', X, hk, hn', l1, l2, l3, hH, e1, e2, hl1, hl2, hg1, hf1, hI⟩
      refine PW.bind (PW.get l3 (PW.truthN ?_))
      by_cases h0 : n' = 0
      · subst h0
        rw [if_neg (by simp)]
        refine ⟨rfl, f', X, l2, hH, ?_⟩
        rw [e2]
        congr 2
        apply List.ext_getElem
        · simp [hl2]
        · intro i h1 h2
          have hi : i < 5 := by simpa [hl2] using h1
          have := hI i hi
          simp only [List.getElem_map, List.getElem_range]
          rw [← this]
          show natP _ = natP (fs'.getD i 0)
          simp [List.getD, List.getElem?_eq_getElem (show i < fs'.length by lia)]
      · rw [if_pos (nbeq h0)]
        obtain ⟨k, rfl⟩ : ∃ k', k = k' + 1 := by
          cases k with
          | zero => simp at hk; lia
          | succ k => exact ⟨k, rfl⟩
        have hk2 : n' / 2 < 2 ^ k := by rw [Nat.pow_succ] at hk; lia
        have hg5 : ∀ x ∈ gs', x < gs'.length := fun x h => by rw [hl1]; exact hg1 x h
        have hf5 : ∀ x ∈ fs', x < gs'.length := fun x h => by rw [hl1]; exact hf1 x h
        have hgD : ∀ x < 5, gs'.getD x 0 < 5 := fun x h => getD_lt hg1 (by lia)
        have hfD : ∀ x < 5, fs'.getD x 0 < 5 := fun x h => getD_lt hf1 (by lia)
        refine PW.seq (PW.mono (Q := fun f τ₁ => f = PF.next ∧ ∃ (f₁ : Nat) (fs₁ : List Nat) (X₁ : List PO), τ₁.loc.lookup "goals" = some (.ref g') ∧ τ₁.loc.lookup "far" = some (.ref f₁) ∧ τ₁.loc.lookup "turns" = some (natP n') ∧ τ₁.H = H ++ X₁
          ∧ τ₁.H[g']? = some (.list (gs'.map natP)) ∧ τ₁.H[f₁]? = some (.list (fs₁.map natP)) ∧ fs₁.length = 5 ∧ (∀ x ∈ fs₁, x < 5) ∧ ∀ b < 5, fs₁.getD b 0 = if n' % 2 = 0 then fs'.getD b 0 else gs'.getD (fs'.getD b 0) 0) ?A ?B)
        case A =>
          refine PW.ite (PW.bind (PW.bind (PW.get l3 (PW.bind (PW.pure (PW.modN (m := 2) (by lia) (PW.truthN ?_)))))))
          by_cases h2 : n' % 2 = 0
          · rw [if_neg (by simp [h2])]
            exact PW.pure ⟨rfl, f', fs', X, l1, l2, l3, hH, e1, e2, hl2, hf1, fun b _ => by rw [if_pos h2]⟩
          · rw [if_pos (nbeq h2)]
            refine PW.bind (far_map l1 l2 e1 e2 hf5 (by lia) (by lia) (PW.bind (PW.put (PW.pure ⟨rfl, τ.H.length, fs'.map (fun x => gs'.getD x 0), X ++ [.list ((fs'.map fun x => gs'.getD x 0).map natP)], lset_ne (by decide) lset_self, lset_self, lset_ne (by decide) (lset_ne (by decide) l3), ?_, get_app e1, ?_, by simp [hl2], ?_, ?_⟩))))
            · show τ.H ++ _ = _; rw [hH, List.append_assoc]
            · show (τ.H ++ _)[τ.H.length]? = _; simp
            · intro x hx
              obtain ⟨y, hy, rfl⟩ := List.mem_map.1 hx
              exact hgD y (hf1 y hy)
            · intro b hb
              rw [if_neg h2, getD_map (by lia)]
        case B =>
          rintro f τ₁ ⟨rfl, f₁, fs₁, X₁, m1, m2, m3, mH, d1, d2, d3, d4, d5⟩
          dsimp only
          refine PW.seq (PW.bind (far_map m1 m1 d1 d1 hg5 (by lia) (by lia) (PW.bind (PW.put (PW.pure ?_)))))
          dsimp only
          refine PW.bind (PW.get (lset_ne (by decide) (lset_ne (by decide) m3)) (PW.bind (PW.pure (PW.bind (PW.guard (by decide) (PW.pure (PW.bind (PW.put (PW.pure ?_)))))))))
          dsimp only
          refine ⟨k, by lia, τ₁.H.length, f₁, gs'.map (fun x => gs'.getD x 0), fs₁, n' / 2, X₁ ++ [.list ((gs'.map fun x => gs'.getD x 0).map natP)], hk2, by lia, lset_ne (by decide) lset_self, lset_ne (by decide) (lset_ne (by decide) (lset_ne (by decide) m2)), ?_, ?_, ?_, get_app d2, by simp [hl1], d3, ?_, d4, ?_⟩
          · rw [lset_self]; exact congrArg (fun z => some (PV.int z)) (Int.ofNat_fdiv n' 2).symm
          · show τ₁.H ++ _ = _; rw [mH, List.append_assoc]
          · show (τ₁.H ++ _)[τ₁.H.length]? = _; simp
          · intro x hx
            obtain ⟨y, hy, rfl⟩ := List.mem_map.1 hx
            exact hgD y (hg1 y hy)
          · intro b hb
            rw [d5 b hb, ← hI b hb]
            have hlt2 : (if n' % 2 = 0 then fs'.getD b 0 else gs'.getD (fs'.getD b 0) 0) < 5 := by
              split
              · exact hfD b hb
              · exact hgD _ (hfD b hb)
            rw [itN_congr (m := 5) (g' := fun x => gs'.getD (gs'.getD x 0) 0) (fun x hx => getD_map (by lia)) (fun x hx => by rw [getD_map (by lia)]; exact hgD _ (hgD x hx)) _ _ hlt2]
            rw [itN_two (fun x => gs'.getD x 0)]
            by_cases h2 : n' % 2 = 0
            · rw [if_pos h2, show 2 * (n' / 2) = n' by lia]
            · rw [if_neg h2]
              conv => rhs; rw [show n' = 2 * (n' / 2) + 1 by lia, itN_step]
end
end

section
open PySem PySem.W PyProof.Rows PySem.Spec PySem.SeqAt PySem.Calls
set_option autoImplicit false
set_option linter.unusedVariables false
set_option linter.unusedSectionVars false
set_option maxRecDepth 100000
set_option maxHeartbeats 4000000
set_option tactic.hygienic false
noncomputable def Square (H : List PO) (k : Nat) (f : Nat → Nat → Bool) : Prop := ∃ rs : List Nat, H[k]? = some (.list (rs.map .ref)) ∧ rs.length = 5 ∧ ∀ i < 5, H[rs.getD i 0]? = some (.list ((List.range 5).map fun j => .bool (f i j)))
theorem nxListG {H : List PO} {s : Nat} {l : List PV} (e : H[s]? = some (.list l)) (j : Nat) (X : List PO) : nxList s j (H ++ X) = some (if j < l.length then some (l.getD j .none) else none) := by
  unfold nxList
  rw [get_app e]
  dsimp only
  by_cases hj : j < l.length
  · rw [if_pos hj, List.getElem?_eq_getElem hj]; simp [List.getD, List.getElem?_eq_getElem hj]
  · rw [if_neg hj, List.getElem?_eq_none (by lia)]
theorem PW.square {σ : PS} {v : String} {s : Nat} {l : List PV} {f : Nat → Nat → Bool} {Q : PV → PS → Prop} (h1 : σ.loc.lookup v = some (.ref s)) (e : σ.H[s]? = some (.list l)) (h5 : l.length = 5) (hv : v ≠ "one")
    (heq : ∀ i j, i < 5 → j < 5 → ∀ loc X, PW (pEq (l.getD i .none) (l.getD j .none)) ⟨loc, σ.H ++ X⟩ fun r τ => r = .bool (f i j) ∧ τ = ⟨loc, σ.H ++ X⟩)
    (h : ∀ X k, Square (σ.H ++ X) k f → Q (.ref k) ⟨lset v (.ref s) σ.loc, σ.H ++ X⟩) :
    PW (pcomp [v] ((pnoexc (pget v)).bind pnxList) (pput "one") (PM.pure true) (pcomp ["one"] ((pnoexc (pget v)).bind pnxList) (pput "two") (PM.pure true) ((pget "one").bind fun a => (pget "two").bind fun b => pEq a b) 100) 100) σ Q := by
  refine PW.comp (PW.bind (PW.noexc (PW.get h1 (PW.plist e (PW.pure ?_)))))
  refine PW.compL (fun j o τ => ∃ (rs : List Nat) (X : List PO), o = rs.map .ref ∧ rs.length = j ∧ τ.loc.lookup v = some (.ref s) ∧ τ.H = σ.H ++ (.list o :: X) ∧ ∀ i < j, σ.H.length < rs.getD i 0 ∧ τ.H[rs.getD i 0]? = some (.list ((List.range 5).map fun j => .bool (f i j)))) 5 (fun j => l.getD j .none) ?_ ?_ ?_ ?_ (by lia) ?_ 100 0 [] _ (by lia) (Nat.zero_le _) ?_
  · rintro j o τ ⟨rs, X, _, _, _, hH, _⟩
    rw [hH, nxListG e, h5]
  · rintro j o τ ⟨rs, X, _, _, _, hH, _⟩
    rw [hH, List.getElem?_append_right (Nat.le_refl _)]; simp
  · rintro j o τ hj ⟨rs, X, ho, hl, hv1, hH, hr⟩
    refine PW.put (PW.pure ?_)
    rw [if_pos rfl]
    refine PW.mapG 5 (fun j => l.getD j .none) (fun j' => .bool (f j j')) (fun loc => loc.lookup "one" = some (l.getD j .none)) (PW.bind (PW.noexc (PW.get (lset_ne hv hv1) (PW.plist (l := l) ?_ (PW.pure ⟨rfl, ?_⟩))))) (by lia) ?_ ?_ ?_
    · show τ.H[s]? = _; rw [hH]; exact get_app e
    · intro j' L
      show nxList s j' (τ.H ++ _) = _
      rw [hH, List.append_assoc, nxListG e, h5]
    · show (([("one" : String)].filterMap fun n => ((lset "one" (l.getD j .none) τ.loc).lookup n).map fun p => (n, p)) : List (String × PV)).lookup "one" = _
      simp [lset_self]
    · intro j' τ' hj' hJ hH'
      refine PW.put (PW.bind (PW.get (lset_ne (by decide) hJ) (PW.bind (PW.get lset_self ?_))))
      have z : τ'.H = σ.H ++ (.list o :: X ++ [.list ((List.range j').map fun j' => .bool (f j j'))]) := by rw [hH']; show τ.H ++ _ = _; rw [hH, List.append_assoc]
      have := heq j j' hj hj' (lset "two" (l.getD j' .none) τ'.loc) (.list o :: X ++ [.list ((List.range j').map fun j' => .bool (f j j'))])
      rw [← z] at this
      exact this.mono fun r τ'' ⟨a, b⟩ => ⟨a, by rw [b]; exact lset_ne (by decide) hJ, by rw [b]⟩
    · intro loc' hJ
      refine ⟨lset "one" (l.getD j .none) (lset "one" (l.getD j .none) τ.loc), by simp [pback, hJ], ?_⟩
      have hlen : σ.H.length < τ.H.length := by rw [hH]; simp
      have hz : ∀ L : PO, (τ.H ++ [L]).set σ.H.length (.list (o ++ [.ref τ.H.length])) = σ.H ++ (.list (o ++ [.ref τ.H.length]) :: (X ++ [L])) := by
        intro L; rw [hH, List.append_assoc, List.set_append_right _ _ (Nat.le_refl _)]; simp
      refine ⟨?_, rs ++ [τ.H.length], X ++ [.list ((List.range 5).map fun j' => .bool (f j j'))], ?_, by simp [hl], lset_ne hv (lset_ne hv hv1), hz _, ?_⟩
      · show (τ.H ++ _)[σ.H.length]? = _
        rw [hH, List.append_assoc, List.getElem?_append_right (Nat.le_refl _)]; simp
      · rw [ho, List.map_append]; rfl
      · intro i hi
        show _ ∧ ((τ.H ++ [_]).set σ.H.length _)[_]? = _
        by_cases hij : i < j
        · have e1 : (rs ++ [τ.H.length]).getD i 0 = rs.getD i 0 := by simp [List.getD, List.getElem?_append_left (show i < rs.length by lia)]
          rw [e1]
          obtain ⟨a, b⟩ := hr i hij
          exact ⟨a, by rw [List.getElem?_set_ne (by lia)]; exact get_app b⟩
        · have : i = j := by lia
          subst this
          have e1 : (rs ++ [τ.H.length]).getD i 0 = τ.H.length := by rw [← hl]; simp [List.getD]
          rw [e1]
          exact ⟨hlen, by rw [List.getElem?_set_ne (by lia)]; simp⟩
  · rintro j o τ ⟨rs, X, rfl, rfl, _⟩; rw [List.length_map]; exact Nat.le_refl _
  · rintro o τ ⟨rs, X, rfl, hl, hv1, hH, hr⟩
    refine ⟨lset v (.ref s) σ.loc, by simp [pback, hv1], ?_⟩
    show Q _ ⟨_, τ.H⟩
    rw [hH] at hr ⊢
    refine h _ _ ⟨rs, ?_, hl, fun i hi => (hr i hi).2⟩
    rw [List.getElem?_append_right (Nat.le_refl _)]; simp
  · refine ⟨[], [], rfl, rfl, ?_, rfl, by lia⟩
    show (([v].filterMap fun n => (σ.loc.lookup n).map fun p => (n, p)) : List (String × PV)).lookup v = _
    simp [h1]
end

section
open PySem PySem.W PyProof.Rows PySem.Spec PySem.SeqAt PySem.Calls
set_option autoImplicit false
set_option linter.unusedVariables false
set_option linter.unusedSectionVars false
set_option maxRecDepth 100000
set_option maxHeartbeats 4000000
set_option tactic.hygienic false
noncomputable def jstep (m : List Nat) (b g : Nat) : List Nat := m.map fun x => if x = m.getD g 0 then m.getD b 0 else x
noncomputable def marksN (gs : List Nat) : Nat → List Nat
  | 0 => [0, 1, 2, 3, 4]
  | n + 1 => jstep (marksN gs n) n (gs.getD n 0)
noncomputable def JoinedLaw (sp : FSpec) : Prop := ∀ (H : List PO) (g : Nat) (gs : List Nat), H[g]? = some (.list (gs.map natP)) → gs.length = 5 → (∀ x ∈ gs, x < 5) →
  ∃ k X, sp [.ref g] [] H = some (.ok (.ref k), H ++ X) ∧ Square (H ++ X) k fun i j => (marksN gs 5).getD i 0 == (marksN gs 5).getD j 0
theorem ref_shapeB {B : List PO → Nat → Prop} {r : Option (Res PV × List PO)} {H : List PO} (h : ∃ v H', r = some (.ok v, H') ∧ ∃ k X, v = .ref k ∧ H' = H ++ X ∧ B H' k) : ∃ k X, r = some (.ok (.ref k), H ++ X) ∧ B (H ++ X) k := by
  obtain ⟨v, H', e, k, X, rfl, rfl, h⟩ := h
  exact ⟨k, X, e, h⟩
theorem marks_len (gs : List Nat) : ∀ n, (marksN gs n).length = 5
  | 0 => rfl
  | n + 1 => by show ((marksN gs n).map _).length = 5; rw [List.length_map]; exact marks_len gs n
theorem pEq_nats {n m : Nat} {σ : PS} : PW (pEq (natP n) (natP m)) σ fun r τ => r = .bool (n == m) ∧ τ = σ := PW.eqN ⟨rfl, rfl⟩
theorem getD_natP {xs : List Nat} {i : Nat} (h : i < xs.length) : (xs.map natP).getD i .none = natP (xs.getD i 0) := by
  simp [List.getD, List.getElem?_eq_getElem h]
theorem get_natP {xs : List Nat} {i : Nat} (h : i < xs.length) : (xs.map natP)[i]? = some (natP (xs.getD i 0)) := by
  simp [List.getD, List.getElem?_eq_getElem h]
section
variable {W : Wd} {P : Params} (hK : W.K = hd.heap_1 P) (hC : W.C = 184) (hCl : ClsOk W) (hP : PatsOk W PT)
include hK hC hCl hP
theorem d_joined : ∃ sp, CHolds W 2 (.ref 246) sp ∧ JoinedLaw sp := by
  refine own_mk' (c_own (d := 1) (fd := ?fd) (body := ?body) (ns := ["goals"]) (p := ?p) ?D (bind_pos ?B) (fun _ _ _ _ _ h => pb0_names h) fun L => ?S) ?law
  case D => (refine ⟨⟨?_, ?h1, ?h2⟩, ?h3, ?h4, ?h5, ?h6, ?h7, ?h8, ?h9, ?h10, ?h11, ?h12, ?h13⟩; (case h1 => rw [‹Wd.K _ = hd.heap_1 _›]; rfl); (case h2 => rfl); (case h3 => rfl); (case h4 => rw [‹Wd.K _ = hd.heap_1 _›]; rfl); (case h5 => rfl); (case h6 => rfl); (case h7 => rfl); (case h8 => rfl); (case h9 => rfl); (case h10 => rfl); (case h11 => exact names_ok (by decide +kernel)); (case h12 => decide +kernel); (case h13 => decide +kernel))
  case B => exact bp1 fun a => by with_unfolding_all rfl
  case S => 
    refine' sb_as ?hT ?hE
    case hT => exact (b_cons (st_assign (s_list (ss_cons e_int (ss_cons e_int (ss_cons e_int (ss_cons e_int (ss_cons e_int ss_nil rfl) rfl) rfl) rfl) rfl)) (a_name (.inr ⟨rfl, _, rfl⟩)) rfl rfl rfl) (b_cons (st_for (100) (si_enum rfl (by rw [hK]; rfl) (ss_cons (e_name (by decide +kernel) (by decide +kernel)) ss_nil rfl) rfl) (a_tuple (.cons (a_name (.inl rfl)) (.cons (a_name (.inl rfl)) .nil)) rfl) (b_cons (st_assign (s_tuple (ss_cons (s_item (e_name (by decide +kernel) (by decide +kernel)) (e_name (by decide +kernel) (by decide +kernel)) (fun _ => (fun _ => rfl))) (ss_cons (s_item (e_name (by decide +kernel) (by decide +kernel)) (e_name (by decide +kernel) (by decide +kernel)) (fun _ => (fun _ => rfl))) ss_nil rfl) rfl)) (a_tuple (.cons (a_name (.inr ⟨rfl, _, rfl⟩)) (.cons (a_name (.inr ⟨rfl, _, rfl⟩)) .nil)) rfl) rfl rfl rfl) (b_one (st_assign (s_comp0 (100) rfl (si_list (e_name (by decide +kernel) (by decide +kernel))) (a_name (.inl rfl)) tests_nil (s_if (t_eq (e_name (by decide +kernel) (by decide +kernel)) (e_name (by decide +kernel) (by decide +kernel)) rfl) (e_name (by decide +kernel) (by decide +kernel)) (e_name (by decide +kernel) (by decide +kernel))) (fun C => (a_name (.inl rfl))) (fun C => tests_nil) (fun C => (s_if (t_eq (e_name (by decide +kernel) (by decide +kernel)) (e_name (by decide +kernel) (by decide +kernel)) rfl) (e_name (by decide +kernel) (by decide +kernel)) (e_name (by decide +kernel) (by decide +kernel)))) (fun _ => rfl) (by decide +kernel) rfl (by decide +kernel) ⟨(.cons ⟨rfl, rfl, rfl, .inl rfl⟩ (.cons ⟨rfl, rfl, rfl, .inl rfl⟩ .nil)), by decide +kernel⟩) (a_name (.inr ⟨rfl, _, rfl⟩)) rfl rfl rfl))) (fun _ => rfl)) (b_one (st_ret (s_compK0 (100) rfl (fun _ => rfl) (si_list (e_name (by decide +kernel) (by decide +kernel))) (a_name (.inr ⟨rfl, _, rfl⟩)) tests_nil (s_comp0 (100) rfl (si_list (e_name (by decide +kernel) (by decide +kernel))) (a_name (.inl rfl)) tests_nil (s_eq (e_name (by decide +kernel) (by decide +kernel)) (e_name (by decide +kernel) (by decide +kernel)) rfl) (fun C => (a_name (.inl rfl))) (fun C => tests_nil) (fun C => (s_eq (e_name (by decide +kernel) (by decide +kernel)) (e_name (by decide +kernel) (by decide +kernel)) rfl)) (fun _ => rfl) (by decide +kernel) rfl (by decide +kernel) ⟨(.cons ⟨rfl, rfl, rfl, .inl rfl⟩ .nil), by decide +kernel⟩) (fun C => (a_name (.inr ⟨rfl, _, rfl⟩))) (fun C => tests_nil) (fun C => (s_comp0 (100) rfl (si_list (e_name (by decide +kernel) (by decide +kernel))) (a_name (.inl rfl)) tests_nil (s_eq (e_name (by decide +kernel) (by decide +kernel)) (e_name (by decide +kernel) (by decide +kernel)) rfl) (fun C => (a_name (.inl rfl))) (fun C => tests_nil) (fun C => (s_eq (e_name (by decide +kernel) (by decide +kernel)) (e_name (by decide +kernel) (by decide +kernel)) rfl)) (fun _ => rfl) (by decide +kernel) rfl (by decide +kernel) ⟨(.cons ⟨rfl, rfl, rfl, .inl rfl⟩ .nil), by decide +kernel⟩)) (fun _ => rfl) (fun _ => rfl) rfl (by decide +kernel) ⟨(.cons ⟨rfl, rfl, rfl, .inl rfl⟩ .nil), by decide +kernel⟩ (by decide +kernel))))))
    case hE => exact rfl
  case law =>
    intro H g gs hg hlen hlt
    have hl5 : (gs.map natP).length = 5 := by simpa using hlen
    refine ref_shapeB (B := fun H k => Square H k fun i j => (marksN gs 5).getD i 0 == (marksN gs 5).getD j 0) (PW.fspecE (pb := pbOf (pb0 ["goals"])) (l := [("goals", .ref g)]) (H₁ := H) rfl ?_)
    walk_at "p"
    refine PW.guard (by rw [sizeLine_eq]; decide) ?_
    walk_at "p"
    refine PW.nxE (get_app hg) ?_
    refine PW.mono (PW.forEnum (Q := fun f τ => f = .next ∧ ∃ s X, τ.loc.lookup "marks" = some (.ref s) ∧ τ.H = H ++ X ∧ τ.H[s]? = some (.list ((marksN gs 5).map natP))) (l := gs.map natP) (fun p hp => by obtain ⟨n, _, rfl⟩ := List.mem_map.mp hp; rfl)
      (fun j τ => ∃ s X, τ.loc.lookup "marks" = some (.ref s) ∧ τ.H = H ++ X ∧ τ.H[s]? = some (.list ((marksN gs j).map natP))) ?hl ?step ?fin 100 0 _ (by lia) (Nat.zero_le _) ?h0) ?rest
    case hl => rintro j τ ⟨s, X, _, hH, _⟩; rw [hH]; exact get_app hg
    case h0 => exact ⟨H.length, [_], rfl, rfl, by simp; rfl⟩
    case fin => rintro τ ⟨s, X, h1, h2, h3⟩; rw [hl5] at h3; exact ⟨rfl, s, X, h1, h2, h3⟩
    case rest =>
      rintro f τ ⟨rfl, s, X, h1, h2, h3⟩
      dsimp only
      refine PW.bind (PW.square h1 h3 (by simpa using marks_len gs 5) (by decide) (f := fun i j => (marksN gs 5).getD i 0 == (marksN gs 5).getD j 0) ?_ ?_)
      · intro i j hi hj loc X
        rw [getD_natP (by rw [marks_len]; exact hi), getD_natP (by rw [marks_len]; exact hj)]
        exact pEq_nats
      · intro X' k hq
        exact PW.pure ⟨_, rfl, k, X ++ X', rfl, by show τ.H ++ X' = _; rw [h2, List.append_assoc], hq⟩
    case step =>
      rintro j p τ hp ⟨s, X, h1, h2, h3⟩
      have hj : j < 5 := by
        have := (List.getElem?_eq_some_iff.1 hp).1
        lia
      have hml := marks_len gs j
      rw [get_natP (by lia)] at hp
      cases hp
      have hgj : gs.getD j 0 < 5 := getD_lt hlt (by lia)
      walk_at "p"
      refine PW.guard rfl ?_
      walk_at "p"
      refine PW.itemN (j := j) h3 (get_natP (by lia)) (by lia) ?_
      walk_at "p"
      refine PW.itemN (j := gs.getD j 0) h3 (get_natP (by lia)) (by lia) ?_
      walk_at "p"
      refine PW.guard ⟨by rw [sizeLine_eq]; simp, rfl⟩ ?_
      walk_at "p"
      refine PW.guard rfl ?_
      walk_at "p"
      generalize hK0 : (marksN gs j).getD j 0 = K0
      generalize hG0 : (marksN gs j).getD (gs.getD j 0) 0 = G0
      have up1 : (lset "gone" (natP G0) (lset "kept" (natP K0) (lset "goal" (natP (gs.getD j 0)) (lset "box" (natP j) τ.loc)))).lookup "gone" = some (natP G0) := lset_self
      have up2 : (lset "gone" (natP G0) (lset "kept" (natP K0) (lset "goal" (natP (gs.getD j 0)) (lset "box" (natP j) τ.loc)))).lookup "kept" = some (natP K0) := lset_ne (by decide) lset_self
      have up3 : (lset "gone" (natP G0) (lset "kept" (natP K0) (lset "goal" (natP (gs.getD j 0)) (lset "box" (natP j) τ.loc)))).lookup "marks" = some (.ref s) := lset_ne (by decide) (lset_ne (by decide) (lset_ne (by decide) (lset_ne (by decide) h1)))
      generalize lset "gone" (natP G0) (lset "kept" (natP K0) (lset "goal" (natP (gs.getD j 0)) (lset "box" (natP j) τ.loc))) = loc at up1 up2 up3
      refine PW.mapL (l := (marksN gs j).map natP) (fun p => match p with | .int z => natP (if z.toNat = G0 then K0 else z.toNat) | p => p) (fun l => l.lookup "kept" = some (natP K0) ∧ l.lookup "gone" = some (natP G0)) (PW.bind (PW.noexc (PW.get up3 (PW.plist h3 (PW.pure ⟨rfl, rfl⟩))))) h3 (by rw [List.length_map]; lia) ?i0 ?is ?ifin
      case i0 =>
        show ((([("kept" : String), "gone"].filterMap fun n => (loc.lookup n).map fun p => (n, p)) : List (String × PV)).lookup "kept" = _) ∧ ((([("kept" : String), "gone"].filterMap fun n => (loc.lookup n).map fun p => (n, p)) : List (String × PV)).lookup "gone" = _)
        simp [up1, up2]; rfl
      case is =>
        intro x τ' hx hJ hL
        obtain ⟨y, hy, rfl⟩ := List.mem_map.1 hx
        refine PW.put (PW.ite (PW.bind (PW.get lset_self (PW.bind (PW.get (lset_ne (by decide) hJ.2) (PW.bind (PW.eqN (PW.tB ?_))))))))
        by_cases h : y = G0
        · rw [if_pos (by simpa using h)]
          refine PW.get (lset_ne (by decide) hJ.1) ⟨?_, ⟨lset_ne (by decide) hJ.1, lset_ne (by decide) hJ.2⟩, rfl⟩
          show natP _ = natP _; simp [h]
        · rw [if_neg (by simpa using h)]
          refine PW.get lset_self ⟨?_, ⟨lset_ne (by decide) hJ.1, lset_ne (by decide) hJ.2⟩, rfl⟩
          show natP _ = natP _; simp [h]
      case ifin =>
        intro loc' hJ
        refine ⟨lset "gone" (natP G0) (lset "kept" (natP K0) loc), by simp [pback, hJ.1, hJ.2], PW.bind (PW.put (PW.pure ?_))⟩
        dsimp only
        refine ⟨τ.H.length, X ++ [_], lset_self, by rw [h2, List.append_assoc], ?_⟩
        rw [List.getElem?_append_right (Nat.le_refl _), Nat.sub_self]
        show some (PO.list _) = some (PO.list _)
        congr 2
        show _ = ((marksN gs j).map fun x => if x = (marksN gs j).getD (gs.getD j 0) 0 then (marksN gs j).getD j 0 else x).map natP
        rw [List.map_map, List.map_map, hK0, hG0]
        exact List.map_congr_left fun x _ => by show natP _ = natP _; simp
end
end

section
open PySem PySem.W PyProof.Rows PySem.Spec PySem.SeqAt PySem.Calls
set_option autoImplicit false
set_option linter.unusedVariables false
set_option linter.unusedSectionVars false
set_option maxRecDepth 100000
set_option maxHeartbeats 4000000
set_option tactic.hygienic false
theorem PW.notinN {σ : PS} {x i : Nat} {ns : List Nat} {Q : PV → PS → Prop} (e : σ.H[i]? = some (.list (ns.map natP))) (h : Q (.bool (!hasA x ns)) σ) : PW (pNotIn (natP x) (.ref i)) σ Q := by
  refine ⟨.bool (!hasA x ns), σ, ?_, h⟩
  show (match pdata σ.H 4 (natP x), pdata σ.H 4 (.ref i) with
    | some a, some b => _
    | _, _ => none) = _
  have e1 : pdata σ.H 4 (natP x) = some (.int (x : Int)) := rfl
  have e2 : pdata σ.H 4 (.ref i) = some (.list (ns.map fun n : Nat => PyData.int (n : Int))) := by
    show (match σ.H[i]? with | some (.list l) => (pall (pdata σ.H 3) l).map PyData.list | _ => none) = _
    rw [e]
    dsimp only
    rw [pall_nats]; rfl
  rw [e1, e2]
  show pguard _ _ σ = _
  unfold pguard
  rw [if_pos ⟨rfl, lay_nats ns⟩, any_nats]
  rfl
theorem idxOf_at {x : Int} : ∀ (l : List Int) (j : Nat), l[j]? = some x → (∀ i < j, l[i]? ≠ some x) → l.idxOf x = j
  | [], j, h, _ => by simp at h
  | a :: r, 0, h, _ => by simp at h; subst h; exact List.idxOf_cons_self
  | a :: r, j + 1, h, n => by
    have ha : a ≠ x := fun z => n 0 (by lia) (by simp [z])
    rw [List.idxOf_cons, show (a == x) = false by simpa using ha, idxOf_at r j (by simpa using h) (fun i hi => by have := n (i + 1) (by lia); simpa using this)]; rfl
theorem PW.itemLast {σ : PS} {i : Nat} {l : List PV} {p : PV} {Q : PV → PS → Prop} (e : σ.H[i]? = some (.list (l ++ [p]))) (h : Q p σ) : PW (pitem (.ref i) (.int (-1))) σ Q := by
  refine PW.itemL (k := -1) e ?_ (by decide) h
  unfold pplace
  rw [if_neg (by decide), if_pos (by simp; lia), List.length_append]
  have : ((-1 : Int) + ((l.length + [p].length : Nat) : Int)).toNat = l.length := by simp; lia
  rw [this, List.getElem?_append_right (Nat.le_refl _)]; simp
theorem PW.strip {σ : PS} {x y : Str} {Q : PV → PS → Prop} (hx : x.length ≤ sizeLine) (h : Q (.str (Txt.stripChars x y)) σ) : PW (mStrip x [.str y]) σ Q := PW.guard hx (PW.pure h)
noncomputable def lt (k : Nat) : Str := ⟨#[if k < 5 then 97 + k else 60 + k]⟩
noncomputable def sv (k : Nat) : Str := if k < 5 then Str.ofString "" else lt k
noncomputable def nmC (ks : List Nat) (s : Nat) : Nat → Nat
  | 0 => s
  | n + 1 => ks.getD (nmC ks s n % 5) 0
noncomputable def bx (ks : List Nat) (s t : Nat) : Nat := nmC ks s t % 5
noncomputable def rw_ (ks : List Nat) (s T t : Nat) : Str × Str := (dotsN (T + 1 - t) ++ lt (nmC ks s t), sv (nmC ks s (t + 1)))
noncomputable def rowsT (ks : List Nat) (s T : Nat) : List (Str × Str) := (List.range T).map (rw_ ks s T)
structure Walk (ks : List Nat) (s J T : Nat) : Prop where
  lt : J < T
  le : T ≤ 5
  back : bx ks s T = bx ks s J
  new : ∀ i j, i < j → j < T → bx ks s i ≠ bx ks s j
theorem abcde_at : ∀ s < 5, (seqIndex? ((s : Nat) : Int) (Str.ofString "abcde").length).bind ((Str.ofString "abcde").cps[·]?) = some (97 + s) := by decide +kernel
theorem strip_lt : ∀ k < 10, Txt.stripChars (lt k) (Str.ofString "abcde") = sv k := by decide +kernel
theorem bx_lt (ks : List Nat) (s t : Nat) : bx ks s t < 5 := Nat.mod_lt _ (by decide)
theorem bx_zero {ks : List Nat} {s : Nat} (h : s < 5) : bx ks s 0 = s := Nat.mod_eq_of_lt h
theorem nmC_lt {ks : List Nat} {s : Nat} (hl : ks.length = 5) (hk : ∀ k ∈ ks, k < 10) (hs : s < 5) : ∀ t, nmC ks s t < 10
  | 0 => by show s < 10; lia
  | t + 1 => getD_lt hk (by rw [hl]; exact Nat.mod_lt _ (by decide))
theorem bx_succ {ks : List Nat} {s : Nat} (hl : ks.length = 5) (t : Nat) : bx ks s (t + 1) = (ks.map (· % 5)).getD (bx ks s t) 0 := by
  rw [getD_map (by rw [hl]; exact bx_lt _ _ _)]; rfl
noncomputable def bxs (ks : List Nat) (s m : Nat) : List Nat := (List.range m).map (bx ks s)
theorem bxs_succ (ks : List Nat) (s m : Nat) : bxs ks s (m + 1) = bxs ks s m ++ [bx ks s m] := by
  unfold bxs; rw [List.range_succ, List.map_append]; rfl
theorem bxs_len (ks : List Nat) (s m : Nat) : (bxs ks s m).length = m := by simp [bxs]
theorem bxs_get {ks : List Nat} {s m i : Nat} (h : i < m) : (bxs ks s m)[i]? = some (bx ks s i) := by simp [bxs, h]
theorem Walk.has {ks : List Nat} {s J T m : Nat} (w : Walk ks s J T) (hm : m ≤ T) : hasA (bx ks s m) (bxs ks s m) = decide (m = T) := by
  by_cases h : m = T
  · subst h
    rw [decide_eq_true rfl, hasA_iff, w.back]
    exact List.mem_map.2 ⟨J, List.mem_range.2 w.lt, rfl⟩
  · rw [decide_eq_false h]
    cases e : hasA (bx ks s m) (bxs ks s m) with
    | false => rfl
    | true =>
      obtain ⟨i, hi, e2⟩ := List.mem_map.1 ((hasA_iff _ _).1 e)
      exact absurd e2 (w.new i m (List.mem_range.1 hi) (by lia))
theorem Walk.idx {ks : List Nat} {s J T : Nat} (w : Walk ks s J T) : ((bxs ks s T).map (fun n : Nat => (n : Int))).idxOf ((bx ks s T : Nat) : Int) = J := by
  have hT := w.lt
  refine idxOf_at _ _ ?_ fun i hi => ?_
  · rw [List.getElem?_map, bxs_get hT, w.back]; rfl
  · rw [List.getElem?_map, bxs_get (by lia)]
    intro z
    have z := Option.some.inj z
    rw [w.back] at z
    exact w.new i J hi hT (Int.ofNat.inj z)
theorem lt_len (k : Nat) : (lt k).length = 1 := rfl
theorem sv_len (k : Nat) : (sv k).length ≤ 1 := by unfold sv; split; exact Nat.zero_le _; exact Nat.le_refl _
theorem rows_succ (ks : List Nat) (s T m : Nat) : ((List.range (m + 1)).map (rw_ ks s T)).map lineL = ((List.range m).map (rw_ ks s T)).map lineL ++ [lineL (rw_ ks s T m)] := by
  rw [List.range_succ, List.map_append, List.map_append]; rfl
theorem tup_shape {r : Option (Res PV × List PO)} {H : List PO} {l : List PV} (h : ∃ v H', r = some (.ok v, H') ∧ v = .tup l ∧ ∃ X, H' = H ++ X) : ∃ X, r = some (.ok (.tup l), H ++ X) := by
  obtain ⟨v, H', e, rfl, X, rfl⟩ := h
  exact ⟨X, e⟩
noncomputable def ToldLaw (sp : FSpec) : Prop := ∀ (H : List PO) (gi wi : Nat) (ks : List Nat) (s J T : Nat), H[gi]? = some (.list ((ks.map (· % 5)).map natP)) → H[wi]? = some (.list (ks.map fun k => .str (lt k))) → ks.length = 5 → (∀ k ∈ ks, k < 10) → s < 5 → Walk ks s J T →
  ∃ X, sp [.ref gi, .ref wi, natP s] [] H = some (.ok (.tup [.str (textOf (rowsT ks s T)), natP (T - J)]), H ++ X)
section
variable {W : Wd} {P : Params} (hK : W.K = hd.heap_1 P) (hC : W.C = 184) (hCl : ClsOk W) (hP : PatsOk W PT)
include hK hC hCl hP
theorem d_told : ∃ sp, CHolds W 2 (.ref 236) sp ∧ ToldLaw sp := by
  refine own_mk' (c_own (d := 1) (fd := ?fd) (body := ?body) (ns := ["goals", "words", "start"]) (p := ?p) ?D (bind_pos ?B) (fun _ _ _ _ _ h => pb0_names h) fun L => ?S) ?law
  case D => (refine ⟨⟨?_, ?h1, ?h2⟩, ?h3, ?h4, ?h5, ?h6, ?h7, ?h8, ?h9, ?h10, ?h11, ?h12, ?h13⟩; (case h1 => rw [‹Wd.K _ = hd.heap_1 _›]; rfl); (case h2 => rfl); (case h3 => rfl); (case h4 => rw [‹Wd.K _ = hd.heap_1 _›]; rfl); (case h5 => rfl); (case h6 => rfl); (case h7 => rfl); (case h8 => rfl); (case h9 => rfl); (case h10 => rfl); (case h11 => exact names_ok (by decide +kernel)); (case h12 => decide +kernel); (case h13 => decide +kernel))
  case B => exact bp3 fun a b c => by with_unfolding_all rfl
  case S => 
    refine' sb_as ?hT ?hE
    case hT => exact (b_cons (st_swap3 rfl rfl (s_tuple (ss_cons (s_list (ss_cons (e_name (by decide +kernel) (by decide +kernel)) ss_nil rfl)) (ss_cons (s_item e_str (e_name (by decide +kernel) (by decide +kernel)) (fun _ => (fun _ => rfl))) (ss_cons e_str ss_nil rfl) rfl) rfl)) (.inl rfl) (.inl rfl) (.inl rfl)) (b_cons (st_while (100) (t_notin (s_item (e_name (by decide +kernel) (by decide +kernel)) (s_item (e_name (by decide +kernel) (by decide +kernel)) (s_neg e_int) (fun _ => (fun _ => rfl))) (fun _ => (fun _ => rfl))) (e_name (by decide +kernel) (by decide +kernel)) rfl) (b_one (st_expr (ml_append (e_name (by decide +kernel) (by decide +kernel)) (ss_cons (s_item (e_name (by decide +kernel) (by decide +kernel)) (s_item (e_name (by decide +kernel) (by decide +kernel)) (s_neg e_int) (fun _ => (fun _ => rfl))) (fun _ => (fun _ => rfl))) ss_nil rfl) rfl (fun _ => rfl) rfl rfl) rfl rfl))) (b_cons (st_for (100) (si_enum rfl (by rw [hK]; rfl) (ss_cons (e_name (by decide +kernel) (by decide +kernel)) ss_nil rfl) rfl) (a_tuple (.cons (a_name (.inl rfl)) (.cons (a_name (.inl rfl)) .nil)) rfl) (b_cons (st_iadd (s_add (s_add (s_add (s_add (s_mul e_str (s_sub (s_add (b_len rfl (by rw [hK]; rfl) (ss_cons (e_name (by decide +kernel) (by decide +kernel)) ss_nil rfl) rfl) e_int) (e_name (by decide +kernel) (by decide +kernel)))) (e_name (by decide +kernel) (by decide +kernel))) e_str) (m_strip (s_item (e_name (by decide +kernel) (by decide +kernel)) (e_name (by decide +kernel) (by decide +kernel)) (fun _ => (fun _ => rfl))) (ss_cons e_str ss_nil rfl) rfl (fun _ => rfl) rfl rfl)) e_str) (.inl rfl) (by decide +kernel) (by decide +kernel)) (b_one (st_assign (s_item (e_name (by decide +kernel) (by decide +kernel)) (e_name (by decide +kernel) (by decide +kernel)) (fun _ => (fun _ => rfl))) (a_name (.inl rfl)) rfl rfl rfl))) (fun _ => rfl)) (b_one (st_ret (s_tuple (ss_cons (s_add (e_name (by decide +kernel) (by decide +kernel)) e_str) (ss_cons (s_sub (b_len rfl (by rw [hK]; rfl) (ss_cons (e_name (by decide +kernel) (by decide +kernel)) ss_nil rfl) rfl) (ml_index (e_name (by decide +kernel) (by decide +kernel)) (ss_cons (s_item (e_name (by decide +kernel) (by decide +kernel)) (s_item (e_name (by decide +kernel) (by decide +kernel)) (s_neg e_int) (fun _ => (fun _ => rfl))) (fun _ => (fun _ => rfl))) ss_nil rfl) rfl (fun _ => rfl) rfl rfl)) ss_nil rfl) rfl)))))))
    case hE => exact rfl
  case law =>
    intro H gi wi ks s J T hg hw hlen hk hs wk
    have hT := wk.le
    have hJ := wk.lt
    have hsl := sizeLine_eq
    refine tup_shape (PW.fspecE (pb := pbOf (pb0 ["goals", "words", "start"])) (l := [("goals", .ref gi), ("words", .ref wi), ("start", natP s)]) (H₁ := H) rfl ?_)
    walk_at "p"
    refine PW.guard (by rw [hsl]; simp) ?_
    walk_at "p"
    refine PW.itemS (k := (s : Int)) (abcde_at s hs) (by lia) ?_
    walk_at "p"
    refine PW.guard ⟨by rw [hsl]; simp, rfl⟩ ?_
    walk_at "p"
    refine PW.swap3 ?_
    walk_at "p"
    refine PW.mono (PW.while (Q := fun f τ => f = .next ∧ τ.H = H ++ [.list ((bxs ks s T).map natP)] ∧ τ.loc.lookup "walk" = some (.ref H.length) ∧ τ.loc.lookup "goals" = some (.ref gi) ∧ τ.loc.lookup "words" = some (.ref wi) ∧ τ.loc.lookup "name" = some (.str (lt s)) ∧ τ.loc.lookup "text" = some (.str (Str.ofString "")))
      (fun k τ => ∃ m, 0 < m ∧ m ≤ T ∧ k = T - m ∧ τ.H = H ++ [.list ((bxs ks s m).map natP)] ∧ τ.loc.lookup "walk" = some (.ref H.length) ∧ τ.loc.lookup "goals" = some (.ref gi) ∧ τ.loc.lookup "words" = some (.ref wi) ∧ τ.loc.lookup "name" = some (.str (lt s)) ∧ τ.loc.lookup "text" = some (.str (Str.ofString ""))) ?ws 100 (T - 1) _ (by lia) ?h0) ?rest
    case h0 =>
      refine ⟨1, by lia, by lia, rfl, ?_, lset_self, lset_ne (by decide) (lset_ne (by decide) (lset_ne (by decide) rfl)), lset_ne (by decide) (lset_ne (by decide) (lset_ne (by decide) rfl)), ?_, lset_ne (by decide) (lset_ne (by decide) lset_self)⟩
      · show _ ++ [PO.list [natP s]] = _ ++ [PO.list [natP (bx ks s 0)]]
        rw [bx_zero hs]
      · refine (lset_ne (by decide) lset_self).trans ?_
        show some (PV.str ⟨#[97 + s]⟩) = some (PV.str ⟨#[if s < 5 then 97 + s else 60 + s]⟩)
        rw [if_pos hs]
    case ws =>
      rintro k τ ⟨m, hm0, hmT, rfl, hH, l1, l2, l3, l4, l5⟩
      obtain ⟨m, rfl⟩ : ∃ m', m = m' + 1 := ⟨m - 1, by lia⟩
      have eW : τ.H[H.length]? = some (.list ((bxs ks s (m + 1)).map natP)) := by rw [hH]; simp
      have eL : τ.H[H.length]? = some (.list ((bxs ks s m).map natP ++ [natP (bx ks s m)])) := by rw [eW, bxs_succ, List.map_append]; rfl
      have eG : τ.H[gi]? = some (.list ((ks.map (· % 5)).map natP)) := by rw [hH]; exact get_app hg
      have eI : ((ks.map (· % 5)).map natP)[bx ks s m]? = some (natP (bx ks s (m + 1))) := by rw [get_natP (by simpa [hlen] using bx_lt ks s m), bx_succ hlen]
      have hb5 := bx_lt ks s m
      walk_at "p"
      refine PW.neg1 ?_
      walk_at "p"
      refine PW.itemLast eL ?_
      walk_at "p"
      refine PW.itemN eG eI (by lia) ?_
      walk_at "p"
      refine PW.notinN eW ?_
      walk_at "p"
      rw [wk.has hmT]
      by_cases h : m + 1 = T
      · rw [decide_eq_true h, if_neg (by decide)]
        exact ⟨rfl, by rw [hH, h], l1, l2, l3, l4, l5⟩
      · rw [decide_eq_false h, if_pos (by decide)]
        walk_at "p"
        refine PW.plist eW ?_
        walk_at "p"
        refine PW.neg1 ?_
        walk_at "p"
        refine PW.itemLast eL ?_
        walk_at "p"
        refine PW.itemN eG eI (by lia) ?_
        walk_at "p"
        refine PW.append eW (by simp [bxs_len]; lia) ?_
        walk_at "p"
        refine ⟨T - (m + 1 + 1), by lia, m + 1 + 1, by lia, by lia, rfl, ?_, l1, l2, l3, l4, l5⟩
        show τ.H.set H.length _ = _
        rw [hH, List.set_append_right _ _ (Nat.le_refl _), Nat.sub_self, bxs_succ ks s (m + 1), List.map_append]; rfl
    case rest =>
      rintro f τ ⟨rfl, hH, l1, l2, l3, l4, l5⟩
      dsimp only
      have eW : τ.H[H.length]? = some (.list ((bxs ks s T).map natP)) := by rw [hH]; simp
      have hml : ((bxs ks s T).map natP).length = T := by rw [List.length_map, bxs_len]
      walk_at "p"
      refine PW.nxE eW ?_
      refine PW.mono (PW.forEnum (Q := fun f σ => f = .next ∧ σ.H = τ.H ∧ σ.loc.lookup "walk" = some (.ref H.length) ∧ σ.loc.lookup "goals" = some (.ref gi) ∧ ∃ x, x.length ≤ 100 ∧ cp x = ((rowsT ks s T).map lineL).flatten ∧ σ.loc.lookup "text" = some (.str x)) (l := (bxs ks s T).map natP) (fun p hp => by obtain ⟨n, _, rfl⟩ := List.mem_map.mp hp; rfl)
        (fun j σ => σ.H = τ.H ∧ σ.loc.lookup "walk" = some (.ref H.length) ∧ σ.loc.lookup "goals" = some (.ref gi) ∧ σ.loc.lookup "words" = some (.ref wi) ∧ σ.loc.lookup "name" = some (.str (lt (nmC ks s j))) ∧ ∃ x, x.length ≤ 20 * j ∧ cp x = (((List.range j).map (rw_ ks s T)).map lineL).flatten ∧ σ.loc.lookup "text" = some (.str x)) ?hl ?step ?fin 100 0 _ (by lia) (Nat.zero_le _) ?h0) ?rest
      case hl => rintro j σ ⟨e, _⟩; rw [e]; exact eW
      case h0 => exact ⟨rfl, l1, l2, l3, l4, Str.ofString "", by decide, rfl, l5⟩
      case fin =>
        rintro σ ⟨h1, h2, h3, h4, h5, x, h6, h7, h8⟩
        rw [hml] at h6 h7
        exact ⟨rfl, h1, h2, h3, x, by lia, h7, h8⟩
      case step =>
        rintro j p σ hp ⟨h1, h2, h3, h4, h5, x, h6, h7, h8⟩
        have hj : j < T := by
          have := (List.getElem?_eq_some_iff.1 hp).1
          lia
        rw [List.getElem?_map, bxs_get hj] at hp
        cases hp
        have eW2 : σ.H[H.length]? = some (.list ((bxs ks s T).map natP)) := by rw [h1]; exact eW
        have hb5 := bx_lt ks s j
        have eV : σ.H[wi]? = some (.list (ks.map fun k => .str (lt k))) := by rw [h1, hH]; exact get_app hw
        have eI : (ks.map fun k => PV.str (lt k))[bx ks s j]? = some (.str (lt (nmC ks s (j + 1)))) := by
          show _ = some (PV.str (lt (ks.getD (bx ks s j) 0)))
          rw [List.getElem?_map, List.getElem?_eq_getElem (by lia)]
          simp [List.getD, List.getElem?_eq_getElem (show bx ks s j < ks.length by lia)]
        have hsv := sv_len (nmC ks s (j + 1))
        have hdl := dots_len (T + 1 - j)
        have hlt1 := lt_len (nmC ks s j)
        have hlt2 := lt_len (nmC ks s (j + 1))
        walk_at "p"
        refine PW.guard rfl ?_
        walk_at "p"
        refine PW.lenL eW2 (by rw [hml]; lia) ?_
        rw [hml]
        walk_at "p"
        refine PW.addN (m := 1) ?_
        walk_at "p"
        refine PW.subN (by lia) ?_
        walk_at "p"
        refine PW.mulD (by lia) ?_
        walk_at "p"
        refine PW.addS (by lia) ?_
        walk_at "p"
        refine PW.addS (by rw [len_app, lC]; lia) ?_
        walk_at "p"
        refine PW.itemN eV eI (by lia) ?_
        walk_at "p"
        refine PW.strip (by lia) ?_
        rw [strip_lt _ (nmC_lt hlen hk hs _)]
        walk_at "p"
        refine PW.addS (by rw [len_app, len_app, lC]; lia) ?_
        walk_at "p"
        refine PW.addS (by rw [len_app, len_app, len_app, lC, lN]; lia) ?_
        walk_at "p"
        refine PW.iaddS (by rw [len_app, len_app, len_app, len_app, lC, lN]; lia) ?_
        walk_at "p"
        refine PW.itemN eV eI (by lia) ?_
        walk_at "p"
        refine ⟨h1, lset_ne (by decide) (lset_ne (by decide) (lset_ne (by decide) (lset_ne (by decide) h2))), lset_ne (by decide) (lset_ne (by decide) (lset_ne (by decide) (lset_ne (by decide) h3))), lset_ne (by decide) (lset_ne (by decide) (lset_ne (by decide) (lset_ne (by decide) h4))), lset_self, _, ?_, ?_, lset_ne (by decide) lset_self⟩
        · rw [len_app, len_app, len_app, len_app, len_app, lC, lN]; lia
        · rw [rows_succ, List.flatten_append, ← h7, lineL_eq]
          simp only [cp_app, cN, cC, List.flatten_cons, List.flatten_nil, List.append_nil, List.append_assoc, rw_]
      case rest =>
        rintro f σ ⟨rfl, h1, h2, h3, x, h6, h7, h8⟩
        dsimp only
        obtain ⟨T', rfl⟩ : ∃ T', T = T' + 1 := ⟨T - 1, by lia⟩
        have eW2 : σ.H[H.length]? = some (.list ((bxs ks s (T' + 1)).map natP)) := by rw [h1]; exact eW
        have eL : σ.H[H.length]? = some (.list ((bxs ks s T').map natP ++ [natP (bx ks s T')])) := by rw [eW2, bxs_succ, List.map_append]; rfl
        have eG : σ.H[gi]? = some (.list ((ks.map (· % 5)).map natP)) := by rw [h1, hH]; exact get_app hg
        have eI : ((ks.map (· % 5)).map natP)[bx ks s T']? = some (natP (bx ks s (T' + 1))) := by rw [get_natP (by simpa [hlen] using bx_lt ks s T'), bx_succ hlen]
        have hb5 := bx_lt ks s T'
        walk_at "p"
        refine PW.addS (by rw [lN]; lia) ?_
        walk_at "p"
        refine PW.lenL eW2 (by rw [hml]; lia) ?_
        rw [hml]
        walk_at "p"
        refine PW.plist eW2 ?_
        walk_at "p"
        refine PW.neg1 ?_
        walk_at "p"
        refine PW.itemLast eL ?_
        walk_at "p"
        refine PW.itemN eG eI (by lia) ?_
        walk_at "p"
        refine PW.lindexN eW2 ?_ (by rw [bxs_len]; lia) ?_
        · rw [wk.back]; exact List.mem_map.2 ⟨_, List.mem_map.2 ⟨J, List.mem_range.2 hJ, rfl⟩, rfl⟩
        rw [wk.idx]
        walk_at "p"
        refine PW.subN (by lia) ?_
        walk_at "p"
        refine PW.guard ⟨by rw [hsl]; simp, rfl⟩ ?_
        walk_at "p"
        refine ⟨_, rfl, ?_, [_], by rw [h1, hH]⟩
        have : x ++ Str.ofString "\x0d\n" = textOf (rowsT ks s (T' + 1)) := str_ext (by rw [cp_app, cN, h7, cp_textF])
        rw [this]
end
end

section
open PySem PySem.W PyProof.Rows PySem.Spec PySem.SeqAt PySem.Calls
set_option autoImplicit false
set_option linter.unusedVariables false
set_option linter.unusedSectionVars false
set_option maxRecDepth 100000
set_option maxHeartbeats 4000000
set_option tactic.hygienic false
theorem dots_lower : ∀ a ≤ 8, ∀ k < 10, Txt.lower (dotsN a ++ lt k) = dotsN a ++ lt (k % 5) := by decide +kernel
theorem dots_inj : ∀ a ≤ 8, ∀ b ≤ 8, ∀ x < 5, ∀ y < 5, (dotsN a ++ lt x == dotsN b ++ lt y) = (decide (a = b) && decide (x = y)) := by decide +kernel
theorem row_fine : ∀ d ≤ 8, ∀ k < 10, hasN (dotsN d ++ lt k) = false ∧ noCS (cp (dotsN d ++ lt k)) = true ∧ (dotsN d ++ lt k).length ≤ 400 := by decide +kernel
theorem sv_fine : ∀ k < 10, hasV (sv k) = false ∧ (sv k).length ≤ 400 ∧ (sv k != Str.ofString "-") = true := by decide +kernel
theorem name_fine : ∀ d ≤ 8, ∀ k < 10, nameLen (dotsN d ++ lt k) = true ∧ hasN (Txt.lower (dotsN d ++ lt k)) = false := by decide +kernel
theorem dot_one : Str.ofString "." = dotsN 1 := by decide +kernel
theorem sent_dots (a : Nat) (x v : Str) : sentRow (dotsN (a + 1) ++ x, v) = (dotsN (a + 2) ++ x, v) := by
  show (dotStr (dotsN (a + 1) ++ x), v) = _
  congr 1
  refine str_ext ?_
  show dotL (cp (dotsN (a + 1) ++ x)) = _
  rw [cp_app, cp_app]
  show dotL (List.replicate (a + 1) 46 ++ cp x) = List.replicate (a + 2) 46 ++ cp x
  rw [List.replicate_succ, List.replicate_succ, List.replicate_succ]; rfl
section
variable {ks : List Nat} {s : Nat} (hl : ks.length = 5) (hk : ∀ k ∈ ks, k < 10) (hs : s < 5)
include hl hk hs
theorem rows_sentT (j : Nat) : (rowsT ks s j ++ [(dotsN 1 ++ lt (nmC ks s j), sv (nmC ks s (j + 1)))]).map sentRow = rowsT ks s (j + 1) := by
  unfold rowsT
  rw [List.map_append, List.range_succ, List.map_append, List.map_map]
  congr 1
  · apply List.map_congr_left
    intro t ht
    have := List.mem_range.1 ht
    show sentRow (dotsN (j + 1 - t) ++ _, _) = (dotsN (j + 1 + 1 - t) ++ _, _)
    rw [show j + 1 - t = (j - t) + 1 by lia, sent_dots, show j + 1 + 1 - t = j - t + 2 by lia]
  · show [sentRow (dotsN (0 + 1) ++ _, _)] = [(dotsN (j + 1 + 1 - j) ++ _, _)]
    rw [sent_dots, show j + 1 + 1 - j = 0 + 2 by lia]
theorem row_rw {j t : Nat} (hj : j ≤ 6) : RowS (rw_ ks s j t) := by
  obtain ⟨a, b, c⟩ := row_fine (j + 1 - t) (by lia) _ (nmC_lt hl hk hs t)
  obtain ⟨d, e, _⟩ := sv_fine _ (nmC_lt hl hk hs (t + 1))
  exact ⟨c, e, a, d, b⟩
theorem rows_fine {j : Nat} (hj : j ≤ 6) : RowsS (rowsT ks s j) := by
  refine ⟨by simp [rowsT]; lia, fun r hr => ?_⟩
  obtain ⟨t, _, rfl⟩ := List.mem_map.1 hr
  exact row_rw hl hk hs hj
theorem rows_fine1 {j : Nat} (hj : j ≤ 6) : RowsS (rowsT ks s j ++ [(dotsN 1 ++ lt (nmC ks s j), sv (nmC ks s (j + 1)))]) := by
  refine ⟨by simp [rowsT]; lia, fun r hr => ?_⟩
  rcases List.mem_append.1 hr with hr | hr
  · exact (rows_fine hl hk hs hj).all r hr
  · cases List.mem_singleton.1 hr
    obtain ⟨a, b, c⟩ := row_fine 1 (by lia) _ (nmC_lt hl hk hs j)
    obtain ⟨d, e, _⟩ := sv_fine _ (nmC_lt hl hk hs (j + 1))
    exact ⟨c, e, a, d, b⟩
theorem find_rows {j d : Nat} (hj : j ≤ 6) (h2 : 2 ≤ d) (hd : d ≤ j + 1) : findRow (rowsT ks s j) (dotsN d ++ lt (nmC ks s j)) = if bx ks s (j + 1 - d) = bx ks s j then some (rw_ ks s j (j + 1 - d)) else none := by
  have hp : ∀ t < j, (Txt.lower (rw_ ks s j t).1 == Txt.lower (dotsN d ++ lt (nmC ks s j))) = (decide (j + 1 - t = d) && decide (bx ks s t = bx ks s j)) := by
    intro t ht
    show (Txt.lower (dotsN (j + 1 - t) ++ lt (nmC ks s t)) == _) = _
    rw [dots_lower _ (by omega) _ (nmC_lt hl hk hs t), dots_lower _ (by omega) _ (nmC_lt hl hk hs j)]
    exact dots_inj _ (by omega) _ (by omega) _ (bx_lt ks s t) _ (bx_lt ks s j)
  unfold findRow rowsT
  rw [List.find?_map]
  by_cases h : bx ks s (j + 1 - d) = bx ks s j
  · rw [if_pos h, (List.find?_range_eq_some (i := j + 1 - d)).2 ⟨?_, ?_, ?_⟩]
    · rfl
    · show (Txt.lower (rw_ ks s j (j + 1 - d)).1 == _) = true
      rw [hp _ (by omega), h]; simp; omega
    · simp; omega
    · intro t ht
      show (!(Txt.lower (rw_ ks s j t).1 == _)) = true
      rw [hp _ (by omega)]
      have : ¬ (j + 1 - t = d) := by omega
      simp [this]
  · rw [if_neg h, List.find?_eq_none.2 ?_]
    · rfl
    · intro t ht
      have ht := List.mem_range.1 ht
      show ¬ (Txt.lower (rw_ ks s j t).1 == _) = true
      rw [hp _ ht]
      intro z
      simp only [Bool.and_eq_true, decide_eq_true_eq] at z
      exact h (by rw [show j + 1 - d = t by omega]; exact z.2)
end
theorem getX_ok {H : List PO} {i l : Nat} {rows : List (Str × Str)} {n : Str} {d : PV} (t : Tab H i l rows) (ho : rowsOk rows = true) (h1 : nameLen n = true) (h2 : hasN (Txt.lower n) = false) : getX [.ref i, .str n, d] [] H = some (.ok (getD' rows n d), H) := by
  show getX2 i n d H = _
  unfold getX2
  rw [t.get]; dsimp only; rw [if_pos ⟨ho, h1⟩, h2]; rfl
theorem getX_ok1 {H : List PO} {i l : Nat} {rows : List (Str × Str)} {n : Str} (t : Tab H i l rows) (ho : rowsOk rows = true) (h1 : nameLen n = true) (h2 : hasN (Txt.lower n) = false) : getX [.ref i, .str n] [] H = some (.ok (getD' rows n .none), H) := by
  show getX2 i n .none H = _
  unfold getX2
  rw [t.get]; dsimp only; rw [if_pos ⟨ho, h1⟩, h2]; rfl
theorem addX_ok {H : List PO} {i l : Nat} {rows : List (Str × Str)} {n v : Str} (t : Tab H i l rows) (ho : rowsOk rows = true) (h1 : n.length ≤ 400) (h2 : v.length ≤ 400) (h3 : hasN n = false) (h4 : hasV v = false) :
    ∃ X, addX3 [.ref i, .str n, .str v] [] H = some (.ok .none, (H ++ X).set l (PO.list ((rows ++ [(n, v)]).map row))) ∧ Tab ((H ++ X).set l (PO.list ((rows ++ [(n, v)]).map row))) i l (rows ++ [(n, v)]) := by
  refine ⟨[PO.dct []] ++ [PO.list [PV.str v]], ?_, ?_⟩
  · show (match getTab H i with | some (l, rows) => _ | none => none) = _
    rw [t.get]; dsimp only
    rw [if_pos ⟨ho, by lia, by lia, h3, h4⟩, List.append_assoc]
  · obtain ⟨k, e1, e2, e3⟩ := t.ex
    refine ⟨k, ?_, ?_, ?_⟩
    · exact get_set (get_app e1) (fun z => by subst z; rw [e1] at e3; cases e3)
    · exact get_set (get_app e2) (fun z => by subst z; rw [e2] at e3; cases e3)
    · have := lt_of_get e3
      rw [List.getElem?_set_self (by rw [List.length_append]; lia)]
theorem app_set {H X : List PO} {l : Nat} (h : H.length ≤ l) (o : PO) : (H ++ X).set l o = H ++ X.set (l - H.length) o := List.set_append_right _ _ h
end

section
open PySem PySem.W PyProof.Rows PySem.Spec PySem.SeqAt PySem.Calls
set_option autoImplicit false
set_option linter.unusedVariables false
set_option linter.unusedSectionVars false
set_option maxRecDepth 100000
set_option maxHeartbeats 4000000
set_option tactic.hygienic false
theorem PW.nxR2 {a b : Nat} {σ : PS} {Q : NX → PS → Prop} (ha : a < 2 ^ 62) (hb : b < 2 ^ 62) (h : Q (nxRange (a : Int) ((b : Int) - (a : Int))) σ) : PW (pnxRange [natP a, natP b]) σ Q := PW.guard ⟨by lia, by lia⟩ (PW.pure h)
theorem name_fine0 : ∀ k < 10, nameLen (lt k) = true ∧ hasN (Txt.lower (lt k)) = false := by decide +kernel
noncomputable def WaysOk (H : List PO) (wt l : Nat) (rows : List (Str × Str)) (ks : List Nat) : Prop := Tab H wt l rows ∧ rowsOk rows = true ∧ (∀ k < 10, getD' rows (lt k) .none = .str (lt (ks.getD (k % 5) 0))) ∧ ks.length = 5 ∧ (∀ k ∈ ks, k < 10)
theorem WaysOk.app {H X : List PO} {wt l : Nat} {rows : List (Str × Str)} {ks : List Nat} (w : WaysOk H wt l rows ks) : WaysOk (H ++ X) wt l rows ks := ⟨w.1.app, w.2⟩
noncomputable def MailedLaw (sp : FSpec) : Prop := ∀ (H : List PO) (wt l : Nat) (rows : List (Str × Str)) (ks : List Nat) (s J T : Nat), WaysOk H wt l rows ks → s < 5 → Walk ks s J T →
  ∃ X, sp [.ref wt, .str (lt s)] [] H = some (.ok (.tup [.str (textOf (rowsT ks s T)), natP (T - J)]), H ++ X)
section
variable {W : Wd} {P : Params} (hK : W.K = hd.heap_1 P) (hC : W.C = 184) (hCl : ClsOk W) (hP : PatsOk W PT)
include hK hC hCl hP
theorem d_mailed (hcls : FHolds W 4 (.ref 184) (clsSpec initSpec)) (hadd : FHolds W 3 (.ref 181) addX3) (hget : FHolds W 3 (.ref 131) getX) (hstr0 : FHolds W 1 (.ref 160) strSpec) (hsent : FHolds W 5 (.ref 215) sentSpec) : ∃ sp, CHolds W 7 (.ref 222) sp ∧ MailedLaw sp := by
  refine own_mk' (c_own (d := 6) (fd := ?fd) (body := ?body) (ns := ["ways", "box"]) (p := ?p) ?D (bind_pos ?B) (fun _ _ _ _ _ h => pb0_names h) fun L => ?S) ?law
  case D => (refine ⟨⟨?_, ?h1, ?h2⟩, ?h3, ?h4, ?h5, ?h6, ?h7, ?h8, ?h9, ?h10, ?h11, ?h12, ?h13⟩; (case h1 => rw [‹Wd.K _ = hd.heap_1 _›]; rfl); (case h2 => rfl); (case h3 => rfl); (case h4 => rw [‹Wd.K _ = hd.heap_1 _›]; rfl); (case h5 => rfl); (case h6 => rfl); (case h7 => rfl); (case h8 => rfl); (case h9 => rfl); (case h10 => rfl); (case h11 => exact names_ok (by decide +kernel)); (case h12 => decide +kernel); (case h13 => decide +kernel))
  case B => exact bp2 fun a b => by with_unfolding_all rfl
  case S => 
    refine' sb_as ?hT ?hE
    case hT => exact (b_cons (st_assign (s_kcall (f_more hcls (by decide)) rfl (by rw [hK]; rfl) (by rw [hK]; rfl) (sa_pos (ss_cons (s_list ss_nil) ss_nil rfl) rfl) (by decide +kernel) (fun _ => rfl)) (a_name (.inl rfl)) rfl rfl rfl) (b_cons (st_for (100) (si_range rfl (by rw [hK]; rfl) (ss_cons e_int ss_nil rfl) rfl) (a_name (.inl rfl)) (b_cons (st_for (100) (si_range rfl (by rw [hK]; rfl) (ss_cons e_int (ss_cons (s_add (e_name (by decide +kernel) (by decide +kernel)) e_int) ss_nil rfl) rfl) rfl) (a_name (.inl rfl)) (b_one (st_if (t_ne (s_icall (e_name (by decide +kernel) (by decide +kernel)) (f_more hget (by decide)) (by rw [hK, hC]; rfl) (by rw [hK]; rfl) (by rw [hK]; rfl) (sa_pos (ss_cons (s_add (s_mul e_str (e_name (by decide +kernel) (by decide +kernel))) (e_name (by decide +kernel) (by decide +kernel))) (ss_cons e_str ss_nil rfl) rfl) rfl) (fun _ => rfl) rfl rfl rfl) e_str rfl) (b_one (st_ret (s_tuple (ss_cons (b_strB rfl (by rw [hK]; rfl) (ss_cons (e_name (by decide +kernel) (by decide +kernel)) ss_nil rfl) rfl (by rw [hK, hC]; rfl) (by rw [hK]; rfl) (f_more hstr0 (by decide)) (by decide +kernel)) (ss_cons (s_sub (e_name (by decide +kernel) (by decide +kernel)) e_int) ss_nil rfl) rfl)))) b_nil)) (fun _ => rfl)) (b_cons (st_assign (s_icall (e_name (by decide +kernel) (by decide +kernel)) (f_more hget (by decide)) (by rw [hK, hC]; rfl) (by rw [hK]; rfl) (by rw [hK]; rfl) (sa_pos (ss_cons (e_name (by decide +kernel) (by decide +kernel)) ss_nil rfl) rfl) (fun _ => rfl) rfl rfl rfl) (a_name (.inl rfl)) rfl rfl rfl) (b_cons (st_expr (s_icall (e_name (by decide +kernel) (by decide +kernel)) (f_more hadd (by decide)) (by rw [hK, hC]; rfl) (by rw [hK]; rfl) (by rw [hK]; rfl) (sa_pos (ss_cons (s_add e_str (e_name (by decide +kernel) (by decide +kernel))) (ss_cons (m_strip (e_name (by decide +kernel) (by decide +kernel)) (ss_cons e_str ss_nil rfl) rfl (fun _ => rfl) rfl rfl) ss_nil rfl) rfl) rfl) (fun _ => rfl) rfl rfl rfl) rfl rfl) (b_cons (st_assign (s_kcall (f_more hsent (by decide)) rfl (by rw [hK]; rfl) (by rw [hK]; rfl) (sa_pos (ss_cons (e_name (by decide +kernel) (by decide +kernel)) (ss_cons (s_lits3 (s_mod (e_name (by decide +kernel) (by decide +kernel)) e_int) (fun _ => (fun _ => rfl))) ss_nil rfl) rfl) rfl) (by decide +kernel) (fun _ => rfl)) (a_name (.inl rfl)) rfl rfl rfl) (b_one (st_assign (e_name (by decide +kernel) (by decide +kernel)) (a_name (.inl rfl)) rfl rfl rfl)))))) (fun _ => rfl)) (b_one (st_ret (s_tuple (ss_cons e_str (ss_cons e_int ss_nil rfl) rfl))))))
    case hE => exact rfl
  case law =>
    intro H wt l rows ks s J T wo hs wk
    obtain ⟨tab, ho, hget, hl, hk⟩ := wo
    have hT := wk.le
    have hJ := wk.lt
    have hsl := sizeLine_eq
    refine tup_shape (PW.fspecE (pb := pbOf (pb0 ["ways", "box"])) (l := [("ways", .ref wt), ("box", .str (lt s))]) (H₁ := H) rfl ?_)
    walk_at "p"
    refine PW.guard (Nat.zero_le _) ?_
    walk_at "p"
    obtain ⟨X0, hX0, t0⟩ := class_ok (H := H ++ [PO.list []]) (l := H.length) (rows := []) (by simp) rfl (by simp)
    refine PW.call hX0 ?_
    walk_at "p"
    refine PW.nxR (by decide) ?_
    refine PW.mono (PW.forRange (Q := fun f σ => f = .ret (.tup [.str (textOf (rowsT ks s T)), natP (T - J)]) ∧ ∃ X, σ.H = H ++ X)
      (fun j σ => j ≤ T ∧ ∃ X ti l', σ.H = H ++ X ∧ Tab σ.H ti l' (rowsT ks s j) ∧ H.length ≤ l' ∧ σ.loc.lookup "head" = some (.ref ti) ∧ σ.loc.lookup "ways" = some (.ref wt) ∧ σ.loc.lookup "box" = some (.str (lt (nmC ks s j)))) ?step ?fin 100 0 _ (by decide) (by decide) ?h0) ?rest
    case h0 => exact ⟨Nat.zero_le _, [.list []] ++ X0, _, _, by simp, t0, Nat.le_refl _, lset_self, lset_ne (by decide) rfl, lset_ne (by decide) rfl⟩
    case fin => rintro j σ hj ⟨h, _⟩; exfalso; lia
    case rest =>
      rintro f σ ⟨rfl, X, hX⟩
      exact ⟨_, rfl, rfl, X, hX⟩
    case step =>
      rintro j σ hj6 ⟨hjT, X, ti, l', hH, ht, hl', l1, l2, l3⟩
      rw [show (PV.int (0 + (j : Int))) = natP j by simp [natP]]
      have hro : rowsOk (rowsT ks s j) = true := (rows_fine hl hk hs (by lia)).ok
      walk_at "p"
      refine PW.addN (n := j) (m := 2) ?_
      walk_at "p"
      refine PW.nxR2 (a := 2) (b := j + 2) (by lia) (by lia) ?_
      rw [show ((j + 2 : Nat) : Int) - ((2 : Nat) : Int) = (j : Int) by lia]
      refine PW.mono (PW.forRange (Q := fun f τ => (f = .next ∧ j < T ∧ τ.H = σ.H ∧ τ.loc.lookup "head" = some (.ref ti) ∧ τ.loc.lookup "ways" = some (.ref wt) ∧ τ.loc.lookup "box" = some (.str (lt (nmC ks s j))) ∧ τ.loc.lookup "step" = some (natP j)) ∨ (f = .ret (.tup [.str (textOf (rowsT ks s T)), natP (T - J)]) ∧ ∃ X, τ.H = H ++ X))
        (fun i τ => i ≤ j ∧ (j = T → i + J + 1 ≤ T) ∧ τ.H = σ.H ∧ τ.loc.lookup "head" = some (.ref ti) ∧ τ.loc.lookup "ways" = some (.ref wt) ∧ τ.loc.lookup "box" = some (.str (lt (nmC ks s j))) ∧ τ.loc.lookup "step" = some (natP j)) ?istep ?ifin 100 0 _ (by decide) (by lia) ?ih0) ?irest
      case ih0 => exact ⟨Nat.zero_le _, fun h => by lia, rfl, lset_ne (by decide) l1, lset_ne (by decide) l2, lset_ne (by decide) l3, lset_self⟩
      case ifin =>
        rintro i τ hi ⟨h1, h2, h3⟩
        refine .inl ⟨rfl, ?_, h3⟩
        by_cases h : j = T
        · have := h2 h; lia
        · lia
      case istep =>
        rintro i τ hi ⟨h1, h2, h3, k1, k2, k3, k4⟩
        rw [show (PV.int (((2 : Nat) : Int) + (i : Int))) = natP (2 + i) by simp [natP]]
        have ht2 : Tab τ.H ti l' (rowsT ks s j) := by rw [h3]; exact ht
        obtain ⟨k, e1, e2, e3⟩ := ht2.ex
        walk_at "p"
        refine PW.inst e1 e2 (PW.guard rfl ?_)
        walk_at "p"
        refine PW.mulD (by lia) ?_
        walk_at "p"
        refine PW.addS (by rw [dots_len, lt_len]; lia) ?_
        walk_at "p"
        obtain ⟨n1, n2⟩ := name_fine (2 + i) (by lia) _ (nmC_lt hl hk hs j)
        refine PW.call (getX_ok ht2 hro n1 n2) ?_
        walk_at "p"
        have hbt : ∀ t, t < T → t ≠ J → bx ks s t ≠ bx ks s T := by
          intro t h1 h2 h3
          rw [wk.back] at h3
          rcases Nat.lt_or_gt_of_ne h2 with h | h
          · exact wk.new t J h hJ h3
          · exact wk.new J t h h1 h3.symm
        by_cases h : bx ks s (j + 1 - (2 + i)) = bx ks s j
        · have hf : getD' (rowsT ks s j) (dotsN (2 + i) ++ lt (nmC ks s j)) (.str (Str.ofString "-")) = .str (sv (nmC ks s (j + 1 - (2 + i) + 1))) := by
            unfold getD'; rw [find_rows hl hk hs (by lia) (by lia) (by lia), if_pos h]; rfl
          rw [hf]
          refine PW.neS ?_
          rw [(sv_fine _ (nmC_lt hl hk hs _)).2.2]
          walk_at "p"
          have hjT2 : j = T := by
            rcases Nat.lt_or_ge j T with h0 | h0
            · exact absurd h (wk.new _ _ (by lia) h0)
            · lia
          have htJ : j + 1 - (2 + i) = J := by
            rcases Nat.decEq (j + 1 - (2 + i)) J with h0 | h0
            · exact absurd (by rw [h, hjT2]) (hbt _ (by lia) h0)
            · exact h0
          refine PW.strTab ht2 (rows_fine hl hk hs (by lia)) fun X1 => ?_
          walk_at "p"
          refine PW.subN (n := 2 + i) (m := 1) (by lia) ?_
          walk_at "p"
          refine PW.guard ⟨by rw [hsl]; simp, rfl⟩ ?_
          walk_at "p"
          refine .inr ⟨?_, X ++ X1, by show τ.H ++ X1 = _; rw [h3, hH, List.append_assoc]⟩
          rw [hjT2, show 2 + i - 1 = T - J by lia]
        · have hf : getD' (rowsT ks s j) (dotsN (2 + i) ++ lt (nmC ks s j)) (.str (Str.ofString "-")) = .str (Str.ofString "-") := by
            unfold getD'; rw [find_rows hl hk hs (by lia) (by lia) (by lia), if_neg h]
          rw [hf]
          refine PW.neS ?_
          rw [show (Str.ofString "-" != Str.ofString "-") = false by decide +kernel]
          walk_at "p"
          refine ⟨by lia, fun h0 => ?_, h3, lset_ne (by decide) k1, lset_ne (by decide) k2, lset_ne (by decide) k3, lset_ne (by decide) k4⟩
          have := h2 h0
          rcases Nat.lt_or_ge (i + J + 1) T with h5 | h5
          · lia
          · exact absurd (by rw [h0, show T + 1 - (2 + i) = J by lia, wk.back]) h
      case irest =>
        rintro f τ (⟨rfl, hjT2, h3, k1, k2, k3, k4⟩ | ⟨rfl, X1, hX1⟩)
        · dsimp only
          have wo2 : WaysOk τ.H wt l rows ks := by rw [h3, hH]; exact WaysOk.app ⟨tab, ho, hget, hl, hk⟩
          obtain ⟨kw, w1, w2, w3⟩ := wo2.1.ex
          have ht2 : Tab τ.H ti l' (rowsT ks s j) := by rw [h3]; exact ht
          obtain ⟨k, e1, e2, e3⟩ := ht2.ex
          walk_at "p"
          refine PW.inst w1 w2 (PW.guard rfl ?_)
          walk_at "p"
          obtain ⟨n1, n2⟩ := name_fine0 _ (nmC_lt hl hk hs j)
          refine PW.call (getX_ok1 wo2.1 ho n1 n2) ?_
          rw [hget _ (nmC_lt hl hk hs j), show ks.getD (nmC ks s j % 5) 0 = nmC ks s (j + 1) from rfl, dot_one]
          walk_at "p"
          refine PW.inst e1 e2 (PW.guard rfl ?_)
          walk_at "p"
          refine PW.addS (by rw [lt_len, dots_len]; lia) ?_
          walk_at "p"
          refine PW.strip (by rw [lt_len]; lia) ?_
          rw [strip_lt _ (nmC_lt hl hk hs _)]
          walk_at "p"
          obtain ⟨f1, f2, f3⟩ := row_fine 1 (by lia) _ (nmC_lt hl hk hs j)
          obtain ⟨g1, g2, _⟩ := sv_fine _ (nmC_lt hl hk hs (j + 1))
          obtain ⟨X2, hX2, t2⟩ := addX_ok ht2 hro f3 g2 f1 g1
          refine PW.call hX2 ?_
          have hEq : ∀ o, (τ.H ++ X2).set l' o = H ++ (X ++ X2).set (l' - H.length) o := fun o => by rw [h3, hH, List.append_assoc, app_set hl']
          rw [hEq] at t2 ⊢
          walk_at "p"
          refine PW.modN (m := 3) (by decide) ?_
          walk_at "p"
          obtain ⟨e, he, hE⟩ := ends3 j
          refine PW.itemN (j := j % 3) (by rw [List.getElem?_append_right (Nat.le_refl _), Nat.sub_self]; rfl) he (by lia) ?_
          walk_at "p"
          obtain ⟨ti', l2', Y, hY, hTY, hlY⟩ := sent_ok (t2.app (X := [PO.list [PV.lit (Str.ofString "\n"), PV.lit (Str.ofString "\x0d"), PV.lit (Str.ofString "\x0d\n")]])) (rows_fine1 hl hk hs (by lia)) hE
          refine PW.call hY ?_
          rw [rows_sentT hl hk hs] at hTY
          walk_at "p"
          refine ⟨by lia, (X ++ X2).set (l' - H.length) (PO.list (List.map row (rowsT ks s j ++ [(dotsN 1 ++ lt (nmC ks s j), sv (nmC ks s (j + 1)))]))) ++ [PO.list [PV.lit (Str.ofString "\n"), PV.lit (Str.ofString "\x0d"), PV.lit (Str.ofString "\x0d\n")]] ++ Y, ti', l2', by simp only [List.append_assoc], hTY, by simp only [List.length_append] at hlY; lia, lset_ne (by decide) lset_self, lset_ne (by decide) (lset_ne (by decide) (lset_ne (by decide) k2)), lset_self⟩
        · dsimp only; exact ⟨rfl, X1, hX1⟩
end
end

section
open PySem PySem.W PyProof.Rows PySem.Spec PySem.SeqAt PySem.Calls
set_option autoImplicit false
set_option linter.unusedVariables false
set_option linter.unusedSectionVars false
set_option maxRecDepth 100000
set_option maxHeartbeats 4000000
set_option tactic.hygienic false
theorem lower_lt : ∀ k < 10, Txt.lower (lt k) = lt (k % 5) := by decide +kernel
theorem lt_inj : ∀ a < 10, ∀ b < 10, (lt a == lt b) = (a == b) := by decide +kernel
theorem lt_fine : ∀ k < 10, hasN (lt k) = false ∧ hasV (lt k) = false ∧ (lt k).length = 1 := by decide +kernel
noncomputable def lrow (p : Nat × Nat) : Str × Str := (lt p.1, lt p.2)
theorem lower_eq {a k : Nat} (ha : a < 10) (hk : k < 10) : (Txt.lower (lt a) == Txt.lower (lt k)) = (a % 5 == k % 5) := by
  rw [lower_lt a ha, lower_lt k hk]
  exact lt_inj _ (by lia) _ (by lia)
theorem find_congr {α : Type} {p q : α → Bool} : ∀ {l : List α}, (∀ x ∈ l, p x = q x) → l.find? p = l.find? q
  | [], _ => rfl
  | a :: r, h => by rw [List.find?_cons, List.find?_cons, h a (List.mem_cons_self ..), find_congr fun x hx => h x (List.mem_cons_of_mem _ hx)]
theorem get_codes {ps : List (Nat × Nat)} (hp : ∀ p ∈ ps, p.1 < 10) {k v : Nat} (hk : k < 10) (h : (ps.find? fun p => p.1 % 5 == k % 5).map (·.2) = some v) : getD' (ps.map lrow) (lt k) .none = .str (lt v) := by
  obtain ⟨p, e, rfl⟩ := Option.map_eq_some_iff.1 h
  unfold getD' findRow
  have e2 : ps.find? ((fun r => Txt.lower r.1 == Txt.lower (lt k)) ∘ lrow) = ps.find? (fun p => p.1 % 5 == k % 5) := find_congr fun x hx => lower_eq (hp x hx) hk
  rw [List.find?_map, e2, e]; rfl
noncomputable def w0 (x w : Nat → Nat) : List (Nat × Nat) := (List.range 5).map fun b => (b + x b % 2 * 5, w b)
theorem w0_lt {x w : Nat → Nat} : ∀ p ∈ w0 x w, p.1 < 10 := by
  intro p hp
  obtain ⟨b, hb, rfl⟩ := List.mem_map.1 hp
  have := List.mem_range.1 hb
  show b + _ < 10
  lia
theorem w0_find {x w : Nat → Nat} {m : Nat} (hm : m < 5) {q : Nat × Nat → Bool} (hq : q (m + x m % 2 * 5, w m) = true) : (w0 x w).find? (fun p => q p && (p.1 % 5 == m)) = some (m + x m % 2 * 5, w m) := by
  unfold w0
  rw [List.find?_map, (List.find?_range_eq_some (i := m)).2 ⟨?_, ?_, ?_⟩]
  · rfl
  · show (q _ && ((m + x m % 2 * 5) % 5 == m)) = true
    rw [hq]; simp; lia
  · simpa using hm
  · intro t ht
    show (!(q _ && ((t + x t % 2 * 5) % 5 == m))) = true
    have : ¬ (t % 5 = m) := by lia
    simp [this]
theorem map_append_fin {ps : List (Nat × Nat)} (p : Nat × Nat) : ps.map lrow ++ [lrow p] = (ps ++ [p]).map lrow := by simp
theorem get_added {x w : Nat → Nat} {b v k : Nat} (hb : b < 5) (hk : k < 10) : getD' ((w0 x w).map lrow ++ [(lt (b + 5), lt v)]) (lt k) .none = .str (lt (w (k % 5))) := by
  show getD' ((w0 x w).map lrow ++ [lrow (b + 5, v)]) (lt k) .none = _
  rw [map_append_fin]
  refine get_codes (fun p hp => ?_) hk ?_
  · rcases List.mem_append.1 hp with hp | hp
    · exact w0_lt p hp
    · cases List.mem_singleton.1 hp; show b + 5 < 10; lia
  · have := w0_find (x := x) (w := w) (m := k % 5) (by lia) (q := fun _ => true) rfl
    simp only [Bool.true_and] at this
    rw [List.find?_append, this]; rfl
theorem kept_codes {ps : List (Nat × Nat)} (hp : ∀ p ∈ ps, p.1 < 10) {b : Nat} (hb : b < 10) : kept (ps.map lrow) (lt b) = (ps.filter fun p => p.1 % 5 != b % 5).map lrow := by
  unfold kept
  rw [List.filter_map]
  congr 1
  apply List.filter_congr
  intro p h
  show (!(Txt.lower (lt p.1) == Txt.lower (lt b))) = !(p.1 % 5 == b % 5)
  rw [lower_eq (hp p h) hb]
theorem get_stored {x w : Nat → Nat} {b v k : Nat} (hb : b < 5) (hk : k < 10) : getD' (kept ((w0 x w).map lrow) (lt (b + 5)) ++ [(lt (b + 5), lt v)]) (lt k) .none = .str (lt (if k % 5 = b then v else w (k % 5))) := by
  show getD' (_ ++ [lrow (b + 5, v)]) (lt k) .none = _
  rw [kept_codes w0_lt (by lia), map_append_fin]
  refine get_codes (fun p hp => ?_) hk ?_
  · rcases List.mem_append.1 hp with hp | hp
    · exact w0_lt p (List.mem_filter.1 hp).1
    · cases List.mem_singleton.1 hp; show b + 5 < 10; lia
  · have e3 : ((w0 x w).filter fun p => p.1 % 5 != (b + 5) % 5).find? (fun p => p.1 % 5 == k % 5) = (w0 x w).find? (fun p => (p.1 % 5 != (b + 5) % 5) && (p.1 % 5 == k % 5)) := by
      rw [List.find?_filter]
      refine find_congr fun p _ => ?_
      cases h1 : (p.1 % 5 != (b + 5) % 5) <;> cases h2 : (p.1 % 5 == k % 5) <;> rfl
    rw [List.find?_append, e3]
    by_cases h : k % 5 = b
    · rw [if_pos h, List.find?_eq_none.2 ?_]
      · have : ((b + 5) % 5 == k % 5) = true := by rw [beq_iff_eq]; lia
        show Option.map _ (Option.or none (match ((b + 5) % 5 == k % 5) with | true => some (b + 5, v) | false => none)) = _
        rw [this]; rfl
      · intro p _ z
        have z := Bool.and_eq_true _ _ ▸ z
        have z1 := bne_iff_ne.1 z.1
        have z2 := beq_iff_eq.1 z.2
        lia
    · rw [if_neg h]
      have := w0_find (x := x) (w := w) (m := k % 5) (by lia) (q := fun p => p.1 % 5 != (b + 5) % 5) (by
        show ((k % 5 + x (k % 5) % 2 * 5) % 5 != (b + 5) % 5) = true
        rw [bne_iff_ne]; lia)
      rw [this]; rfl
end

section
open PySem PySem.W PyProof.Rows PySem.Spec PySem.SeqAt PySem.Calls
set_option autoImplicit false
set_option linter.unusedVariables false
set_option linter.unusedSectionVars false
set_option maxRecDepth 100000
set_option maxHeartbeats 4000000
set_option tactic.hygienic false
theorem PW.compPre {σ : PS} {capt : List String} {p : PM NX} {asg : PV → PM Unit} {test : PM Bool} {elt : PM PV} {N : Nat} {Q : PV → PS → Prop} (h : PW p σ fun nx τ => PW (pcomp capt (PM.pure nx) asg test elt N) τ Q) : PW (pcomp capt p asg test elt N) σ Q := by
  obtain ⟨nx, τ, e, a, σ', e2, q⟩ := h
  refine ⟨a, σ', ?_, q⟩
  rw [← e2]
  unfold pcomp PM.bind pnoexc
  rw [e]; rfl
theorem PW.divN {n m : Nat} {σ : PS} {Q : PV → PS → Prop} (hm : m ≠ 0 ∧ m < 1000) (h : Q (natP (n / m)) σ) : PW (pDiv (natP n) (natP m)) σ Q := PW.guard (by lia) (by rw [show (n : Int).fdiv (m : Int) = ((n / m : Nat) : Int) from (Int.ofNat_fdiv n m).symm]; exact PW.pure h)
theorem ten_at : ∀ k < 10, (seqIndex? ((k : Nat) : Int) (Str.ofString "abcdeABCDE").length).bind ((Str.ofString "abcdeABCDE").cps[·]?) = some (if k < 5 then 97 + k else 60 + k) := by decide +kernel
theorem big_at : ∀ b < 5, (seqIndex? ((b : Nat) : Int) (Str.ofString "ABCDE").length).bind ((Str.ofString "ABCDE").cps[·]?) = some (if b + 5 < 5 then 97 + (b + 5) else 60 + (b + 5)) := by decide +kernel
theorem storeX_ok {H : List PO} {i l : Nat} {rows : List (Str × Str)} {n v : Str} (t : Tab H i l rows) (ho : rowsOk rows = true) (h1 : nameLen n = true) (h2 : hasN (Txt.lower n) = false) (h3 : v.length ≤ 10000) (h4 : hasN n = false) (h5 : hasV v = false) (hok : rowsOk (kept rows n) = true) :
    ∃ X, storeX [.ref i, .str n, .str v] [] H = some (.ok .none, (H ++ X).set l (PO.list ((kept rows n ++ [(n, v)]).map row))) ∧ Tab ((H ++ X).set l (PO.list ((kept rows n ++ [(n, v)]).map row))) i l (kept rows n ++ [(n, v)]) := by
  obtain ⟨k, e1, e2, e3⟩ := t.ex
  have hk1 : i ≠ l := fun z => by subst z; rw [e1] at e3; cases e3
  have hk2 : k ≠ l := fun z => by subst z; rw [e2] at e3; cases e3
  have hlt := lt_of_get e3
  have tabs : ∀ (X : List PO) (rs : List (Str × Str)), Tab ((H ++ X).set l (PO.list (rs.map row))) i l rs := fun X rs => ⟨k, get_set (get_app e1) hk1, get_set (get_app e2) hk2, by rw [List.getElem?_set_self (by rw [List.length_append]; lia)]⟩
  refine ⟨[PO.list ((kept rows n).map row)], ?_, tabs _ _⟩
  have e4 : delX2 i n H = some (.ok .none, (H ++ [PO.list ((kept rows n).map row)]).set l (.list ((kept rows n).map row))) := by
    unfold delX2
    rw [t.get]; dsimp only
    rw [if_pos ⟨ho, h1⟩, h2]; rfl
  show (match delX2 i n H with
    | some (.ok _, H₁) => (match getTab H₁ i with
      | some (l, rows) => if v.length ≤ 10000 ∧ rowsOk rows = true then (if hasN n = true ∨ hasV v = true then some (Res.exc, H₁) else some (Res.ok PV.none, H₁.set l (PO.list ((rows ++ [(n, v)]).map row)))) else none
      | none => none)
    | some (.exc, H₁) => some (.exc, H₁)
    | none => none) = _
  rw [e4]; dsimp only
  rw [(tabs _ _).get]; dsimp only
  rw [if_pos ⟨h3, hok⟩, if_neg (by rw [h4, h5]; simp), List.set_set]
theorem ppick_n {α : Type} (l : List α) {n : Nat} (h : n ≤ l.length) : ppick l none (some (n : Int)) none = l.take n := by
  unfold ppick
  have e : sliceBounds none (some (n : Int)) none l.length = (0, (n : Int), 1) := by
    unfold sliceBounds
    simp only [Option.getD_none]
    rw [if_pos (by decide), if_pos (by decide), if_neg (by lia)]
    congr 2
    lia
  rw [e]
  dsimp only
  rw [sliceRange_one, range_take l _ h]
theorem PW.cutN {σ : PS} {i n : Nat} {l : List PV} {Q : PV → PS → Prop} (e : σ.H[i]? = some (.list l)) (hs : l.length ≤ sizeLine) (h2 : n ≤ l.length) (h : Q (.ref σ.H.length) { σ with H := σ.H ++ [.list (l.take n)] }) : PW (pcut (.ref i) .none (natP n) .none) σ Q := by
  show PW (pguard ((none : Option Int) ≠ some 0) (Mine.plist i fun l => pguard (l.length ≤ sizeLine) (palloc (.list (ppick l none (some (n : Int)) none))))) σ Q
  refine PW.guard (by decide) (PW.plist e (PW.guard hs ?_))
  rw [ppick_n l h2]
  exact PW.alloc h
theorem PW.setL {σ : PS} {spec : FSpec} {i k : Nat} {l : List PV} {v : PV} {Q : Unit → PS → Prop} (e : σ.H[i]? = some (.list l)) (hk : k < l.length) (hl : l.length ≤ 1000) (h : Q () { σ with H := σ.H.set i (.list (l.set k v)) }) : PW (psetAny spec (.ref i) (natP k) v) σ Q := by
  refine ⟨(), _, ?_, h⟩
  show (match σ.H[i]? with
    | some (.list l) => (match natP k with
      | .int k => if 0 ≤ k ∧ k < l.length ∧ l.length ≤ 1000 then some (Res.ok (), { σ with H := σ.H.set i (.list (l.set k.toNat v)) }) else none
      | _ => none)
    | _ => psetI spec (.ref i) (natP k) v σ) = _
  rw [e]; dsimp only
  show (if 0 ≤ (k : Int) ∧ (k : Int) < l.length ∧ l.length ≤ 1000 then _ else _) = _
  rw [if_pos ⟨by lia, by lia, hl⟩]; rfl
theorem PW.setO {σ : PS} {spec : FSpec} {i k : Nat} {fs : List (String × PV)} {b v r : PV} {H' : List PO} {Q : Unit → PS → Prop} (e : σ.H[i]? = some (.inst k)) (e2 : σ.H[k]? = some (.dct fs)) (e3 : spec [.ref i, b, v] [] σ.H = some (.ok r, H')) (h : Q () { σ with H := H' }) : PW (psetAny spec (.ref i) b v) σ Q := by
  have z : PW (psetI spec (.ref i) b v) σ Q := PW.inst e e2 (PW.bind (PW.call e3 (PW.pure h)))
  obtain ⟨a, σ', e4, q⟩ := z
  refine ⟨a, σ', ?_, q⟩
  show (match σ.H[i]? with
    | some (.list l) => _
    | _ => psetI spec (.ref i) b v σ) = _
  rw [e]; exact e4
theorem Tab.set_other {H : List PO} {i l x : Nat} {rows : List (Str × Str)} {L : List PV} {o : PO} (t : Tab H i l rows) (hx : H[x]? = some (.list L)) (hne : x ≠ l) : Tab (H.set x o) i l rows := by
  obtain ⟨k, e1, e2, e3⟩ := t.ex
  exact ⟨k, get_set e1 (fun z => by subst z; rw [e1] at hx; cases hx), get_set e2 (fun z => by subst z; rw [e2] at hx; cases hx), get_set e3 (Ne.symm hne)⟩
theorem lrow_ok : ∀ a < 10, ∀ b < 10, rowOk (lrow (a, b)) = true := by decide +kernel
theorem codes_ok {ps : List (Nat × Nat)} (h : ∀ p ∈ ps, p.1 < 10 ∧ p.2 < 10) (hl : ps.length ≤ 20) : rowsOk (ps.map lrow) = true ∧ ∀ r ∈ ps.map lrow, hasN r.1 = false ∧ hasV r.2 = false := by
  constructor
  · unfold rowsOk
    rw [Bool.and_eq_true, decide_eq_true_eq, List.length_map, List.all_eq_true]
    refine ⟨by lia, fun r hr => ?_⟩
    obtain ⟨p, hp, rfl⟩ := List.mem_map.1 hr
    obtain ⟨a, b⟩ := h p hp
    exact lrow_ok _ a _ b
  · intro r hr
    obtain ⟨p, hp, rfl⟩ := List.mem_map.1 hr
    obtain ⟨a, b⟩ := h p hp
    exact ⟨(lt_fine _ a).1, (lt_fine _ b).2.1⟩
theorem ways_shape {B : List PO → Nat → Nat → Prop} {r : Option (Res PV × List PO)} {H : List PO} (h : ∃ v H', r = some (.ok v, H') ∧ ∃ wt wl X, v = .tup [.ref wt, .ref wl] ∧ H' = H ++ X ∧ B H' wt wl) : ∃ wt wl X, r = some (.ok (.tup [.ref wt, .ref wl]), H ++ X) ∧ B (H ++ X) wt wl := by
  obtain ⟨v, H', e, wt, wl, X, rfl, rfl, h⟩ := h
  exact ⟨wt, wl, X, e, h⟩
noncomputable def WaysLaw (sp : FSpec) : Prop := ∀ (H : List PO) (ci : Nat) (cs : List Nat), H[ci]? = some (.list (cs.map natP)) → cs.length = 6 → (∀ c ∈ cs, c < 1000000) →
  ∃ wt wl X, sp [.ref ci] [] H = some (.ok (.tup [.ref wt, .ref wl]), H ++ X) ∧ ∃ l rows ks, WaysOk (H ++ X) wt l rows ks ∧ (H ++ X)[wl]? = some (.list (ks.map fun k => .str (lt k)))
section
variable {W : Wd} {P : Params} (hK : W.K = hd.heap_1 P) (hC : W.C = 184) (hCl : ClsOk W) (hP : PatsOk W PT)
include hK hC hCl hP
theorem d_ways (hcls : FHolds W 4 (.ref 184) (clsSpec initSpec)) (hset : FHolds W 4 (.ref 97) storeX) (hadd : FHolds W 3 (.ref 181) addX3) : ∃ sp, CHolds W 6 (.ref 210) sp ∧ WaysLaw sp := by
  refine own_mk' (c_own (d := 5) (fd := ?fd) (body := ?body) (ns := ["cells"]) (p := ?p) ?D (bind_pos ?B) (fun _ _ _ _ _ h => pb0_names h) fun L => ?S) ?law
  case D => (refine ⟨⟨?_, ?h1, ?h2⟩, ?h3, ?h4, ?h5, ?h6, ?h7, ?h8, ?h9, ?h10, ?h11, ?h12, ?h13⟩; (case h1 => rw [‹Wd.K _ = hd.heap_1 _›]; rfl); (case h2 => rfl); (case h3 => rfl); (case h4 => rw [‹Wd.K _ = hd.heap_1 _›]; rfl); (case h5 => rfl); (case h6 => rfl); (case h7 => rfl); (case h8 => rfl); (case h9 => rfl); (case h10 => rfl); (case h11 => exact names_ok (by decide +kernel)); (case h12 => decide +kernel); (case h13 => decide +kernel))
  case B => exact bp1 fun a => by with_unfolding_all rfl
  case S => 
    refine' sb_as ?hT ?hE
    case hT => exact (b_cons (st_assign (s_comp0 (100) rfl (si_list (s_cut (e_name (by decide +kernel) (by decide +kernel)) sp_none (sp_some e_int) sp_none)) (a_name (.inl rfl)) tests_nil (s_item e_str (s_mod (e_name (by decide +kernel) (by decide +kernel)) e_int) (fun _ => (fun _ => rfl))) (fun C => (a_name (.inl rfl))) (fun C => tests_nil) (fun C => (s_item e_str (s_mod (e_name (by decide +kernel) (by decide +kernel)) e_int) (fun _ => (fun _ => rfl)))) (fun _ => rfl) (by decide +kernel) rfl (by decide +kernel) ⟨.nil, by decide +kernel⟩) (a_name (.inr ⟨rfl, _, rfl⟩)) rfl rfl rfl) (b_cons (st_assign (s_kcall (f_more hcls (by decide)) rfl (by rw [hK]; rfl) (by rw [hK]; rfl) (sa_pos (ss_cons (s_comp0 (100) rfl (si_range rfl (by rw [hK]; rfl) (ss_cons e_int ss_nil rfl) rfl) (a_name (.inl rfl)) tests_nil (s_tuple (ss_cons (s_item e_str (s_add (e_name (by decide +kernel) (by decide +kernel)) (s_mul (s_mod (s_div (s_item (e_name (by decide +kernel) (by decide +kernel)) (e_name (by decide +kernel) (by decide +kernel)) (fun _ => (fun _ => rfl))) e_int) e_int) e_int)) (fun _ => (fun _ => rfl))) (ss_cons (s_item (e_name (by decide +kernel) (by decide +kernel)) (e_name (by decide +kernel) (by decide +kernel)) (fun _ => (fun _ => rfl))) ss_nil rfl) rfl)) (fun C => (a_name (.inl rfl))) (fun C => tests_nil) (fun C => (s_tuple (ss_cons (s_item e_str (s_add (e_name (by decide +kernel) (by decide +kernel)) (s_mul (s_mod (s_div (s_item (e_name (by decide +kernel) (by decide +kernel)) (e_name (by decide +kernel) (by decide +kernel)) (fun _ => (fun _ => rfl))) e_int) e_int) e_int)) (fun _ => (fun _ => rfl))) (ss_cons (s_item (e_name (by decide +kernel) (by decide +kernel)) (e_name (by decide +kernel) (by decide +kernel)) (fun _ => (fun _ => rfl))) ss_nil rfl) rfl))) (fun _ => rfl) (by decide +kernel) rfl (by decide +kernel) ⟨(.cons ⟨rfl, rfl, rfl, .inl rfl⟩ (.cons ⟨rfl, rfl, rfl, .inl rfl⟩ .nil)), by decide +kernel⟩) ss_nil rfl) rfl) (by decide +kernel) (fun _ => rfl)) (a_name (.inl rfl)) rfl rfl rfl) (b_cons (st_swap2 rfl rfl (s_tuple (ss_cons (s_mod (s_item (e_name (by decide +kernel) (by decide +kernel)) e_int (fun _ => (fun _ => rfl))) e_int) (ss_cons (s_item e_str (s_mod (s_div (s_item (e_name (by decide +kernel) (by decide +kernel)) e_int (fun _ => (fun _ => rfl))) e_int) e_int) (fun _ => (fun _ => rfl))) ss_nil rfl) rfl)) (.inl rfl) (.inl rfl)) (b_cons (st_if (t_plain (s_mod (s_div (s_item (e_name (by decide +kernel) (by decide +kernel)) e_int (fun _ => (fun _ => rfl))) e_int) e_int) rfl) (b_cons (st_assign (e_name (by decide +kernel) (by decide +kernel)) (a_setAny hCl (f_more hset (by decide)) (by rw [hK, hC]; rfl) (by rw [hK]; rfl) (e_name (by decide +kernel) (by decide +kernel)) (s_item e_str (e_name (by decide +kernel) (by decide +kernel)) (fun _ => (fun _ => rfl)))) rfl rfl rfl) (b_one (st_assign (e_name (by decide +kernel) (by decide +kernel)) (a_setAny hCl (f_more hset (by decide)) (by rw [hK, hC]; rfl) (by rw [hK]; rfl) (e_name (by decide +kernel) (by decide +kernel)) (e_name (by decide +kernel) (by decide +kernel))) rfl rfl rfl))) (b_one (st_expr (s_icall (e_name (by decide +kernel) (by decide +kernel)) (f_more hadd (by decide)) (by rw [hK, hC]; rfl) (by rw [hK]; rfl) (by rw [hK]; rfl) (sa_pos (ss_cons (s_item e_str (e_name (by decide +kernel) (by decide +kernel)) (fun _ => (fun _ => rfl))) (ss_cons (e_name (by decide +kernel) (by decide +kernel)) ss_nil rfl) rfl) rfl) (fun _ => rfl) rfl rfl rfl) rfl rfl))) (b_one (st_ret (s_tuple (ss_cons (e_name (by decide +kernel) (by decide +kernel)) (ss_cons (e_name (by decide +kernel) (by decide +kernel)) ss_nil rfl) rfl))))))))
    case hE => exact rfl
  case law =>
    intro H ci cs hc hl hlt
    have hsl := sizeLine_eq
    have hc5 : (cs.take 5).length = 5 := by simp; lia
    refine ways_shape (B := fun H wt wl => ∃ l rows ks, WaysOk H wt l rows ks ∧ H[wl]? = some (.list (ks.map fun k => .str (lt k)))) (PW.fspecE (pb := pbOf (pb0 ["cells"])) (l := [("cells", .ref ci)]) (H₁ := H) rfl ?_)
    walk_at "p"
    refine PW.compPre (PW.bind (PW.noexc ?_))
    walk_at "p"
    refine PW.cutN (n := 5) hc (by rw [hsl, List.length_map]; lia) (by rw [List.length_map]; lia) ?_
    walk_at "p"
    refine PW.plist (by rw [List.getElem?_append_right (Nat.le_refl _), Nat.sub_self]; rfl) (PW.pure ?_)
    rw [← List.map_take]
    refine PW.mapL (l := (cs.take 5).map natP) (fun p => match p with | .int z => .str (lt (z.toNat % 10)) | p => p) (fun _ => True) (PW.pure ⟨rfl, rfl⟩) (by simp) (by rw [List.length_map, hc5]; lia) trivial ?wstep ?wfin
    case wstep =>
      intro x τ hx _ _
      obtain ⟨y, hy, rfl⟩ := List.mem_map.1 hx
      walk_at "p"
      refine PW.modN (m := 10) (by decide) ?_
      walk_at "p"
      refine PW.itemS (k := ((y % 10 : Nat) : Int)) (ten_at _ (Nat.mod_lt _ (by decide))) (by lia) ?_
      exact ⟨rfl, trivial, rfl⟩
    case wfin =>
      intro loc' _
      refine ⟨[("cells", .ref ci)], rfl, ?_⟩
      walk_at "p"
      have eW : (List.map natP (cs.take 5)).map (fun p => match p with | PV.int z => PV.str (lt (z.toNat % 10)) | p => p) = ((cs.take 5).map (· % 10)).map fun k => PV.str (lt k) := by
        rw [List.map_map, List.map_map]; exact List.map_congr_left fun x _ => rfl
      rw [eW]
      obtain ⟨X1, hX1⟩ : ∃ X1, H ++ [PO.list (List.map natP (cs.take 5))] ++ [PO.list (((cs.take 5).map (· % 10)).map fun k => PV.str (lt k))] = H ++ X1 := ⟨_, List.append_assoc _ _ _⟩
      have hw : (H ++ X1)[(H ++ [PO.list (List.map natP (cs.take 5))]).length]? = some (.list (((cs.take 5).map (· % 10)).map fun k => PV.str (lt k))) := by
        rw [← hX1, List.getElem?_append_right (Nat.le_refl _), Nat.sub_self]; rfl
      have hwl : H.length < (H ++ [PO.list (List.map natP (cs.take 5))]).length := by simp
      rw [hX1]
      generalize (H ++ [PO.list (List.map natP (cs.take 5))]).length = wl at hw hwl
      have hc1 : (H ++ X1)[ci]? = some (.list (cs.map natP)) := get_app hc
      have hws : ((cs.take 5).map (· % 10)).length = 5 := by rw [List.length_map, hc5]
      have hws10 : ∀ k ∈ (cs.take 5).map (· % 10), k < 10 := fun k h => by
        obtain ⟨c, _, rfl⟩ := List.mem_map.1 h
        exact Nat.mod_lt _ (by decide)
      generalize (cs.take 5).map (· % 10) = ws at hw hws hws10
      refine PW.mapR (n := 5) (fun b => row (lrow (b + cs.getD b 0 / 10 % 2 * 5, ws.getD b 0))) (fun loc => loc.lookup "words" = some (.ref wl) ∧ loc.lookup "cells" = some (.ref ci)) ?rp (by lia) ⟨rfl, rfl⟩ ?rstep ?rfin
      case rp =>
        refine PW.bind (PW.noexc ?_)
        walk_at "p"
        refine PW.nxR (by decide) ?_
        exact ⟨rfl, rfl⟩
      case rstep =>
        rintro b τ hb ⟨hJ1, hJ2⟩ ⟨L, hL⟩
        dsimp only at hL
        have g1 : τ.H[ci]? = some (.list (cs.map natP)) := by rw [hL]; exact get_app hc1
        have g2 : τ.H[wl]? = some (.list (ws.map fun k => PV.str (lt k))) := by rw [hL]; exact get_app hw
        have e1 : (cs.map natP)[b]? = some (natP (cs.getD b 0)) := get_natP (by lia)
        have e2 : (ws.map fun k => PV.str (lt k))[b]? = some (.str (lt (ws.getD b 0))) := by
          rw [List.getElem?_map, List.getElem?_eq_getElem (by lia)]
          simp [List.getD, List.getElem?_eq_getElem (show b < ws.length by lia)]
        walk_at "p"
        refine PW.itemN g1 e1 (by lia) ?_
        walk_at "p"
        refine PW.divN (m := 10) (by lia) ?_
        walk_at "p"
        refine PW.modN (m := 2) (by decide) ?_
        walk_at "p"
        refine PW.mulN (m := 5) (by lia) ?_
        walk_at "p"
        refine PW.addN ?_
        walk_at "p"
        refine PW.itemS (k := ((b + cs.getD b 0 / 10 % 2 * 5 : Nat) : Int)) (ten_at _ (by lia)) (by lia) ?_
        walk_at "p"
        refine PW.itemN g2 e2 (by lia) ?_
        walk_at "p"
        refine PW.guard ⟨by rw [hsl]; simp, rfl⟩ ?_
        walk_at "p"
        exact ⟨rfl, ⟨lset_ne (by decide) hJ1, lset_ne (by decide) hJ2⟩, rfl⟩
      case rfin =>
        rintro loc' ⟨hJ1, hJ2⟩
        refine ⟨[("cells", .ref ci), ("words", .ref wl)], by simp [pback, hJ1, hJ2]; rfl, ?_⟩
        walk_at "p"
        have eR : (List.range 5).map (fun b => row (lrow (b + cs.getD b 0 / 10 % 2 * 5, ws.getD b 0))) = ((w0 (fun b => cs.getD b 0 / 10) (fun b => ws.getD b 0)).map lrow).map row := by
          unfold w0; rw [List.map_map, List.map_map]; rfl
        rw [eR]
        have hwD : ∀ b, ws.getD b 0 < 10 := fun b => by
          by_cases h : b < ws.length
          · exact getD_lt hws10 h
          · simp [List.getD, List.getElem?_eq_none (show ws.length ≤ b by lia)]
        have hW10 : ∀ p ∈ w0 (fun b => cs.getD b 0 / 10) (fun b => ws.getD b 0), p.1 < 10 ∧ p.2 < 10 := by
          intro p hp
          refine ⟨w0_lt p hp, ?_⟩
          obtain ⟨b, _, rfl⟩ := List.mem_map.1 hp
          exact hwD b
        have hlen0 : (w0 (fun b => cs.getD b 0 / 10) (fun b => ws.getD b 0)).length = 5 := by simp [w0]
        have hx0 : ∀ b v k, b < 5 → k < 10 → _ := fun b v k hb hk => get_added (x := fun b => cs.getD b 0 / 10) (w := fun b => ws.getD b 0) (v := v) hb hk
        have hx1 : ∀ b v k, b < 5 → k < 10 → _ := fun b v k hb hk => get_stored (x := fun b => cs.getD b 0 / 10) (w := fun b => ws.getD b 0) (v := v) hb hk
        generalize w0 (fun b => cs.getD b 0 / 10) (fun b => ws.getD b 0) = ps at hW10 hlen0 hx0 hx1
        have hrok := codes_ok hW10 (by lia)
        obtain ⟨X2, hX2, t2⟩ := class_ok (H := H ++ X1 ++ [PO.list ((ps.map lrow).map row)]) (l := (H ++ X1).length) (rows := ps.map lrow) (by rw [List.getElem?_append_right (Nat.le_refl _), Nat.sub_self]; rfl) hrok.1 hrok.2
        refine PW.call hX2 ?_
        obtain ⟨X3, hX3⟩ : ∃ X3, H ++ X1 ++ [PO.list ((ps.map lrow).map row)] ++ X2 = H ++ X1 ++ X3 := ⟨_, List.append_assoc _ _ _⟩
        have htl : H.length ≤ (H ++ X1).length := by simp
        rw [hX3] at t2 ⊢
        generalize (H ++ X1 ++ [PO.list ((ps.map lrow).map row)]).length + 1 = wt at t2 ⊢
        have hwll : wl < (H ++ X1).length := lt_of_get hw
        generalize (H ++ X1).length = l at t2 htl hwll
        have hc3 : (H ++ X1 ++ X3)[ci]? = some (.list (cs.map natP)) := get_app hc1
        have hw3 : (H ++ X1 ++ X3)[wl]? = some (.list (ws.map fun k => PV.str (lt k))) := get_app hw
        have e5 : (cs.map natP)[5]? = some (natP (cs.getD 5 0)) := get_natP (by lia)
        have hk5 := getD_lt hlt (show 5 < cs.length by lia)
        generalize cs.getD 5 0 = c5 at e5 hk5
        have hv := Nat.mod_lt (c5 / 5) (show 0 < 10 by decide)
        have hb := Nat.mod_lt c5 (show 0 < 5 by decide)
        walk_at "p"
        refine PW.itemN (j := 5) hc3 e5 (by lia) ?_
        walk_at "p"
        refine PW.modN (m := 5) (by decide) ?_
        walk_at "p"
        refine PW.itemN (j := 5) hc3 e5 (by lia) ?_
        walk_at "p"
        refine PW.divN (m := 5) (by lia) ?_
        walk_at "p"
        refine PW.modN (m := 10) (by decide) ?_
        walk_at "p"
        refine PW.itemS (k := ((c5 / 5 % 10 : Nat) : Int)) (ten_at _ (Nat.mod_lt _ (by decide))) (by lia) ?_
        rw [show (PV.str ⟨#[if c5 / 5 % 10 < 5 then 97 + c5 / 5 % 10 else 60 + c5 / 5 % 10]⟩) = .str (lt (c5 / 5 % 10)) from rfl]
        walk_at "p"
        refine PW.guard ⟨by rw [hsl]; simp, rfl⟩ ?_
        walk_at "p"
        refine PW.swap2 ?_
        walk_at "p"
        refine PW.itemN (j := 5) hc3 e5 (by lia) ?_
        walk_at "p"
        refine PW.divN (m := 50) (by lia) ?_
        walk_at "p"
        refine PW.modN (m := 2) (by decide) ?_
        walk_at "p"
        refine PW.truthN ?_
        generalize hv0 : c5 / 5 % 10 = v at hv
        generalize hb0 : c5 % 5 = b at hb
        obtain ⟨kk, g1, g2, g3⟩ := t2.ex
        obtain ⟨n1, n2⟩ := name_fine0 (b + 5) (by lia)
        obtain ⟨f1, f2, f3⟩ := lt_fine (b + 5) (by lia)
        obtain ⟨f4, f5, f6⟩ := lt_fine v hv
        have app3 : ∀ Y, H ++ X1 ++ X3 ++ Y = H ++ (X1 ++ X3 ++ Y) := fun Y => by rw [List.append_assoc, List.append_assoc, List.append_assoc]
        by_cases hset : c5 / 50 % 2 = 0
        · rw [hset, if_neg (by decide)]
          walk_at "p"
          refine PW.inst g1 g2 (PW.guard rfl ?_)
          walk_at "p"
          refine PW.itemS (k := ((b : Nat) : Int)) (big_at _ hb) (by lia) ?_
          rw [show (PV.str ⟨#[if b + 5 < 5 then 97 + (b + 5) else 60 + (b + 5)]⟩) = .str (lt (b + 5)) from rfl]
          walk_at "p"
          obtain ⟨X4, hX4, t4⟩ := addX_ok t2 hrok.1 (by lia) (by lia) f1 f5
          refine PW.call hX4 ?_
          walk_at "p"
          refine PW.guard ⟨by rw [hsl]; simp, rfl⟩ ?_
          walk_at "p"
          refine ⟨_, rfl, wt, wl, _, rfl, by rw [app3, app_set htl], l, _, ws, ⟨t4, ?_, ?_, hws, hws10⟩, ?_⟩
          · rw [show [(lt (b + 5), lt v)] = [lrow (b + 5, v)] from rfl, map_append_fin]
            exact (codes_ok (fun p hp => by
              rcases List.mem_append.1 hp with hp | hp
              · exact hW10 p hp
              · cases List.mem_singleton.1 hp; exact ⟨by show b + 5 < 10; lia, hv⟩) (by simp; lia)).1
          · intro k hk; exact hx0 b v k hb hk
          · exact get_set (get_app hw3) (by lia)
        · rw [nbeq hset, if_pos rfl]
          walk_at "p"
          refine PW.itemS (k := ((b : Nat) : Int)) (big_at _ hb) (by lia) ?_
          rw [show (PV.str ⟨#[if b + 5 < 5 then 97 + (b + 5) else 60 + (b + 5)]⟩) = .str (lt (b + 5)) from rfl]
          walk_at "p"
          have hkc := kept_codes (ps := ps) (fun p hp => (hW10 p hp).1) (b := b + 5) (by lia)
          have hkf : ∀ p ∈ ps.filter (fun p => p.1 % 5 != (b + 5) % 5), p.1 < 10 ∧ p.2 < 10 := fun p hp => hW10 p (List.mem_filter.1 hp).1
          have hkl : (ps.filter (fun p => p.1 % 5 != (b + 5) % 5)).length ≤ 5 := by rw [← hlen0]; exact List.length_filter_le _ _
          obtain ⟨X4, hX4, t4⟩ := storeX_ok t2 hrok.1 n1 n2 (by lia) f1 f5 (by rw [hkc]; exact (codes_ok hkf (by lia)).1)
          refine PW.setO g1 g2 hX4 ?_
          walk_at "p"
          have hw4 := get_set (y := l) (o' := PO.list ((kept (ps.map lrow) (lt (b + 5)) ++ [(lt (b + 5), lt v)]).map row)) (get_app (X := X4) hw3) (by lia)
          refine PW.setL hw4 (by rw [List.length_map]; lia) (by rw [List.length_map]; lia) ?_
          walk_at "p"
          refine PW.guard ⟨by rw [hsl]; simp, rfl⟩ ?_
          walk_at "p"
          refine ⟨_, rfl, wt, wl, _, rfl, by rw [app3, app_set htl, app_set (by lia)], l, _, ws.set b v, ⟨t4.set_other hw4 (by lia), ?_, ?_, by rw [List.length_set]; exact hws, ?_⟩, ?_⟩
          · rw [hkc, show [(lt (b + 5), lt v)] = [lrow (b + 5, v)] from rfl, map_append_fin]
            exact (codes_ok (fun p hp => by
              rcases List.mem_append.1 hp with hp | hp
              · exact hkf p hp
              · cases List.mem_singleton.1 hp; exact ⟨by show b + 5 < 10; lia, hv⟩) (by rw [List.length_append]; show _ + 1 ≤ 20; lia)).1
          · intro k hk
            rw [hx1 b v k hb hk]
            congr 2
            by_cases h : k % 5 = b
            · rw [if_pos h]; simp [List.getD, h, hws, hb]
            · rw [if_neg h]; simp [List.getD, List.getElem?_set_ne (Ne.symm h)]
          · intro k hk
            rcases List.mem_or_eq_of_mem_set hk with h | h
            · exact hws10 k h
            · rw [h]; exact hv
          · rw [List.getElem?_set_self (lt_of_get hw4), List.map_set]
end
end

section
open PySem PySem.W PyProof.Rows PySem.Spec PySem.SeqAt PySem.Calls
set_option autoImplicit false
set_option linter.unusedVariables false
set_option linter.unusedSectionVars false
set_option maxRecDepth 100000
set_option maxHeartbeats 4000000
set_option tactic.hygienic false
theorem c_ownG {W : Wd} {d : Nat} {fa : Addr} {fd : FuncData} {body : List Stmt} {ns : List String} {pb : List PV → List (String × PV) → List PO → Option (List (String × PV) × List PO)} {p : PM PF} (D : DefOk W fa fd body ns) (hb : BindOk W fd pb) (hns : ∀ a kw H l H', pb a kw H = some (l, H') → l.map (·.1) = ns)
    (hS : ∀ L, SBf W d (fenv fd L fa) body p) : CHolds W (d + 1) (.ref fa) (fspecX pb p) := c_defG D hb hns fun L => ⟨p, hS L, fun _ _ _ _ h => h⟩
noncomputable def RefusedLaw (sp : FSpec) : Prop := ∀ (H : List PO) (wt l : Nat) (rows : List (Str × Str)) (n : Str), Tab H wt l rows → rowsOk rows = true → nameLen n = true → hasN (Txt.lower n) = true →
  sp [.ref wt, .str n] [] H = some (.ok (.bool true), H)
theorem getX_exc {H : List PO} {i l : Nat} {rows : List (Str × Str)} {n : Str} (t : Tab H i l rows) (ho : rowsOk rows = true) (h1 : nameLen n = true) (h2 : hasN (Txt.lower n) = true) : getX [.ref i, .str n] [] H = some (.exc, H) := by
  show getX2 i n .none H = _
  unfold getX2
  rw [t.get]; dsimp only; rw [if_pos ⟨ho, h1⟩, h2]; rfl
section
variable {W : Wd} {P : Params} (hK : W.K = hd.heap_1 P) (hC : W.C = 184) (hCl : ClsOk W) (hP : PatsOk W PT)
include hK hC hCl hP
theorem d_refused (hget : FHolds W 3 (.ref 131) getX) : ∃ sp, CHolds W 5 (.ref 229) sp ∧ RefusedLaw sp := by
  refine own_mk' (c_ownG (d := 4) (fd := ?fd) (body := ?body) (ns := ["ways", "name"]) (p := ?p) ?D (bind_pos ?B) (fun _ _ _ _ _ h => pb0_names h) fun L => ?S) ?law
  case D => (refine ⟨⟨?_, ?h1, ?h2⟩, ?h3, ?h4, ?h5, ?h6, ?h7, ?h8, ?h9, ?h10, ?h11, ?h12, ?h13⟩; (case h1 => rw [‹Wd.K _ = hd.heap_1 _›]; rfl); (case h2 => rfl); (case h3 => rfl); (case h4 => rw [‹Wd.K _ = hd.heap_1 _›]; rfl); (case h5 => rfl); (case h6 => rfl); (case h7 => rfl); (case h8 => rfl); (case h9 => rfl); (case h10 => rfl); (case h11 => exact names_ok (by decide +kernel)); (case h12 => decide +kernel); (case h13 => decide +kernel))
  case B => exact bp2 fun a b => by with_unfolding_all rfl
  case S =>
    refine' try_body ?h1 ?h2 ?h3 try_true ?hb ?hr
    case h1 => rfl
    case h2 => rfl
    case h3 => (rw [‹Wd.K _ = hd.heap_1 _›]; rfl)
    case hb => exact (b_one (st_expr (s_icall (e_name (by decide +kernel) (by decide +kernel)) (f_more hget (by decide)) (by rw [hK, hC]; rfl) (by rw [hK]; rfl) (by rw [hK]; rfl) (sa_pos (ss_cons (e_name (by decide +kernel) (by decide +kernel)) ss_nil rfl) rfl) (fun _ => rfl) rfl rfl rfl) rfl rfl))
    case hr => exact (b_one (st_ret e_bool))
  case law =>
    intro H wt l rows n t ho h1 h2
    obtain ⟨k, e1, e2, e3⟩ := t.ex
    refine PWE.fspecX (pb := pbOf (pb0 ["ways", "name"])) (l := [("ways", .ref wt), ("name", .str n)]) (H₁ := H) rfl (PWE.of (PW.tryb ?_))
    refine PWE.bind (PWE.bind (PWE.of (PW.get rfl ?_)))
    refine PWE.inst e1 e2 (PWE.guard rfl ?_)
    refine PWE.bind (PWE.bind (PWE.bind (PWE.of (PW.get rfl (PWE.bind (PWE.pure (PWE.pure (PWE.pure (PWE.call (getX_exc t ho h1 h2) (.inl ⟨_, rfl, rfl⟩)))))))))) 
end
end

section
open PySem PySem.W PyProof.Rows PySem.Spec PySem.SeqAt PySem.Calls
set_option autoImplicit false
set_option linter.unusedVariables false
set_option linter.unusedSectionVars false
set_option maxRecDepth 100000
set_option maxHeartbeats 4000000
set_option tactic.hygienic false
theorem newEnv_one {M : Model} {A : Around} {E : Value → Shared → Prop} {s : Shared} {scope : Scope} {globals : Addr} {n : Str} {v : Value} {qual : Str} {func : Option Addr} {code : Value} {builtins : Addr} {Q : Env → Shared → Prop}
    (hk : scope.kind = .function) (hl : scope.names.lookup n = some .local)
    (hQ : ∀ env, env = newEnv scope s.heap.objs.size globals (cellsFrom (s.heap.objs.size + 1) scope.names []) qual func code none builtins →
      ∀ s', 0 < s'.toks → InCallC s env.locals (fun y => if y = n then some v else none) env.cells (fun _ => none) s' → Q env s') :
    wpAny M A (newFunctionEnv scope globals [] [(n, v)] qual func code none builtins) Q E s := by
  simp only [newFunctionEnv, Option.isSome_none, Bool.false_eq_true, if_false]
  refine wpAny_bind (wpAny_alloc ?_)
  refine wpAny_bind (wpAny_layCells _ (fun name kind cells => by cases hkc : kind == NameKind.cell <;> simp [hkc]) _ _ _ _ ?_)
  have ok := cellsFrom_ok scope.names (s.heap.push { cls := .type "frame", data := .dict #[] }) (s.heap.objs.size + 1) [] ⟨fun _ _ hm => (nomatch hm), List.Pairwise.nil⟩ (by rw [Heap.size_push]; exact Nat.le_refl _)
  rw [Heap.size_push] at ok
  rw [show ({ s with heap := s.heap.push { cls := .type "frame", data := .dict #[] } } : Shared).heap.objs.size = s.heap.objs.size + 1 from Heap.size_push ..]
  have x : InCallC s (newEnv scope s.heap.objs.size globals (cellsFrom (s.heap.objs.size + 1) scope.names []) qual func code none builtins).locals (fun _ => none) (newEnv scope s.heap.objs.size globals (cellsFrom (s.heap.objs.size + 1) scope.names []) qual func code none builtins).cells (fun _ => none) { s with heap := pushCells (s.heap.push { cls := .type "frame", data := .dict #[] }) scope.names } :=
    ⟨⟨⟨_, _, rfl⟩, (Heap.Ns.new s.heap (.type "frame")).keeps (pushCells_keeps _ _), fun b o e => pushCells_keeps _ _ b o (Heap.get?_push_of_some _ e), Nat.le_refl _⟩,
      fun n c hc => (ok.empty n c (mem_of_lookup hc)).1, ok.apart, fun n c hm => (ok.empty n c hm).2⟩
  have hQ := hQ _ rfl
  have hkd : (newEnv scope s.heap.objs.size globals (cellsFrom (s.heap.objs.size + 1) scope.names []) qual func code none builtins).kindOf n = some .local := hl
  have hkk : (newEnv scope s.heap.objs.size globals (cellsFrom (s.heap.objs.size + 1) scope.names []) qual func code none builtins).scope.kind = .function := hk
  rw [List.forIn_cons]
  refine wpAny_bind (wpAny_bind (wpAny_bind (wpAny_storeName_local hkd x.toInCall.ns (fun h' hn' hs' => ?_) (by show (scope.kind == _ || (scope.kind == _ && _)) = false; rw [hk]; rfl))))
  refine wpAny_pure ?_
  dsimp only
  rw [List.forIn_nil]
  refine wpAny_pure (wpAny_pure (hQ _ (Nat.succ_pos _) ⟨⟨?_, hn', fun b o e => ?_, x.toInCall.fresh⟩, fun k c hc => ?_, x.apart, x.above⟩))
  · exact ⟨h', _, rfl⟩
  · exact hs'.extBut b o (Nat.ne_of_lt (Nat.lt_of_lt_of_le (Heap.lt_size e) x.toInCall.fresh)) (x.toInCall.keep b o e)
  · exact (x.cell k c hc).sameBut hs' (Nat.ne_of_gt (x.above k c (mem_of_lookup hc)))
theorem c_top2 {W : Wd} {d : Nat} {fa : Addr} {fd : FuncData} {body : List Stmt} {n : String} {p : PM PF} (D : DefOk W fa fd body [n]) (hloc : fd.scope.names.lookup (Str.ofString n) = some .local)
    (hbind : ∀ v : Value, bindArgs fd ⟨[v], []⟩ = pure [(Str.ofString n, v)]) (hbody : ∀ L, SB W d (fenv fd L fa) body p)
    {A : Around} (hdep : A.depth + 2 * (d + 1) + 2 < recursionLimit) (hun : A.units + 100 * (d + 1) + 100 < cLine) (hha : A.handled = none) (hfr : A.frames = some [])
    {s : Shared} (hs : s.heap = W.h₀) {a : Addr} {R : Result → Shared → Prop}
    (hrun : ∃ v H', fspec (pbOf (pb0 [n])) p [.glob a] [] [] = some (.ok v, H') ∧ v = .bool true)
    (h : ∀ h' tk, Keeps W.h₀ h' → R (.ok (.ret (.bool true))) { s with heap := h', toks := tk }) : codeAny (model W.prog W.w) A (.call (.ref fa) ⟨[.ref a], []⟩) R s := by
  obtain ⟨o, ho, hd⟩ := D.obj
  have hK : W.K.In s.heap := by rw [hs]; exact W.X
  have hof := hK _ _ ho
  have hlim : s.heap.NoLimit := by rw [hs]; exact W.nolimit
  refine codeAny_call_function (by lia) hof hd D.co D.gen D.body (codeRec_of hK D.code) ?_
  rw [hbind]
  refine wpAny_pure ?_
  rw [D.clo]
  refine newEnv_one D.kind hloc fun env he s' hpos x => ?_
  have hE : env = fenv fd s.heap.objs.size fa := he
  refine ⟨hlim.keeps x.toInCall.keep, codeAny_func ?_⟩
  obtain ⟨h₂, tk₂, es', hk₂⟩ := x.done
  have hk₂' : Keeps s.heap h₂ := hk₂
  have hns₂ := x.toInCall.ns
  have hcell := x.cell
  have habove := x.above
  have hap := x.apart
  rw [es'] at hns₂ hcell
  have hL : env.locals = s.heap.objs.size := by rw [hE]; rfl
  have hkd : env.kindOf (Str.ofString n) = some .local := by rw [hE]; exact hloc
  have fresh : ∀ a, s.heap.objs.size ≤ a → s.heap.get? a = none := fun a q => by
    cases e : s.heap.get? a with
    | none => rfl
    | some o' => exact absurd (Heap.lt_size e) (Nat.not_lt.mpr q)
  have hfp : ∀ a ∈ fp env, s.heap.get? a = none := fun a q => by
    rcases List.mem_cons.mp q with rfl | q
    · exact fresh _ (by rw [hL]; exact Nat.le_refl _)
    · obtain ⟨y, hy, rfl⟩ := List.mem_map.mp q
      exact fresh _ (Nat.le_of_lt (by rw [← hL]; exact habove y.1 y.2 hy))
  have cellIn : ∀ y ∈ env.cells, ∃ v, h₂.IsCell y.2 v := fun y hy => by
    have : ∃ n, env.cells.lookup n = some y.2 := by
      rw [hE] at hy ⊢
      exact ⟨y.1, lookup_of_mem_nodup (cellsFrom_names fd.scope.names 0 (s.heap.objs.size + 1) [] [] rfl ▸ D.cnd) hy⟩
    obtain ⟨n, e⟩ := this
    exact ⟨_, hcell n y.2 e⟩
  have hcs : Cells W h₂ ⟨[], 0⟩ [] := ⟨fun b o e => hk₂' b o (by rw [hs]; exact e), rfl, fun i x o e _ => by simp at e, fun i j x e _ => by simp at e, fun x hx => by cases hx⟩
  have R1 : Rel W env h₂ ⟨[], 0⟩ ⟨[(n, .glob a)], []⟩ := by
    refine ⟨⟨by rw [hE]; exact D.kind, by rw [hE]; exact D.glob, by rw [hE]; exact D.blt⟩, hcs, ⟨_, hns₂, fun m q hl => ?_⟩, fun a q => ⟨?_, fun z => by cases z⟩, fun y hy e => ?_, hap, cellIn⟩
    · rw [List.lookup_cons] at hl
      by_cases hm : m = n
      · subst hm
        simp at hl; subst hl
        exact ⟨.ref a, rfl, .inl ⟨hkd, by simp⟩⟩
      · have : (m == n) = false := by simpa using hm
        rw [this] at hl; cases hl
    · rw [← hs]; exact hfp a q
    · exact Nat.ne_of_gt (habove y.1 y.2 hy) e
  have hA : AOk W d (A.deeper env) s' ⟨[], 0⟩ := by
    refine ⟨by show A.depth + 1 + 2 * d + 2 < recursionLimit; lia, by show A.units + 3 + 100 * d + 100 < cLine; lia, hha, ⟨[env], Around.frames_deeper hfr, ⟨?_, fun _ _ q => by cases q⟩⟩, Nat.zero_le _, hpos⟩
    rw [es']
    exact Heap.FunFrames.cons (by rw [hE]; show fd.scope.kind ≠ _; rw [D.kind]; decide) (L := env.locals) (by rw [hE]; rfl) hns₂ (R1.fpn _ (.head _)).1 trivial
  have hbb : SB W d env body p := by rw [hE]; exact hbody _
  obtain ⟨v, H', hrun, rfl⟩ := hrun
  have hl : pbOf (pb0 [n]) [.glob a] [] [] = some ([(n, .glob a)], []) := rfl
  unfold fspec at hrun
  rw [hl] at hrun
  dsimp only at hrun
  have hxs : s' = { s with heap := h₂, toks := tk₂ } := es'
  refine hbb GG.tt (A.deeper env) s' ⟨[], 0⟩ ⟨[(n, .glob a)], []⟩ _ _ hA (by rw [hxs]; exact R1) trivial ?_
  generalize p ⟨[(n, .glob a)], []⟩ = r at hrun ⊢
  match r, hrun with
  | some (.ok (.ret v), σ), hrun =>
    cases hrun
    intro f h' ρ' tk r1 e1 lt q
    rcases RepF.inv q with ⟨_, q2⟩ | ⟨_, q2⟩ | ⟨_, q2⟩ | ⟨v', q', rfl, q2, rv⟩
    · cases q2
    · cases q2
    · cases q2
    · cases q2
      have : v' = .bool true := rv
      subst this
      rw [hxs]
      exact h h' tk fun b o e => r1.cells.base b o e
end

section
open PySem PySem.W PyProof.Rows PySem.Spec PySem.SeqAt PySem.Calls
set_option autoImplicit false
set_option linter.unusedVariables false
set_option linter.unusedSectionVars false
set_option maxRecDepth 100000
set_option tactic.hygienic false
theorem pig : ∀ (n : Nat) (f : Nat → Nat), (∀ i ≤ n, f i < n) → ∃ i j, i < j ∧ j ≤ n ∧ f i = f j
  | 0, f, h => absurd (h 0 (Nat.le_refl _)) (Nat.not_lt_zero _)
  | n + 1, f, h => by
    by_cases c : ∃ i, i ≤ n ∧ f i = f (n + 1)
    · obtain ⟨i, hi, e⟩ := c
      exact ⟨i, n + 1, by lia, Nat.le_refl _, e⟩
    · have c : ∀ i ≤ n, f i ≠ f (n + 1) := fun i hi e => c ⟨i, hi, e⟩
      obtain ⟨i, j, h1, h2, e⟩ := pig n (fun i => if f i = n then f (n + 1) else f i) (fun i hi => by
        have a := h i (by lia); have b := h (n + 1) (Nat.le_refl _); have d := c i hi
        split <;> lia)
      refine ⟨i, j, h1, by lia, ?_⟩
      have a := c i (by lia); have b := c j h2
      by_cases c1 : f i = n <;> by_cases c2 : f j = n
      · rw [c1, c2]
      · rw [if_pos c1, if_neg c2] at e; exact absurd e.symm b
      · rw [if_neg c1, if_pos c2] at e; exact absurd e a
      · rw [if_neg c1, if_neg c2] at e; exact e
theorem least {P : Nat → Prop} : ∀ n, P n → ∃ m, m ≤ n ∧ P m ∧ ∀ k < m, ¬ P k := by
  intro n
  induction n using Nat.strongRecOn with
  | ind n ih =>
    intro h
    by_cases c : ∃ m, m < n ∧ P m
    · obtain ⟨m, hm, hp⟩ := c
      obtain ⟨k, hk, r⟩ := ih m hm hp
      exact ⟨k, by lia, r⟩
    · exact ⟨n, Nat.le_refl _, h, fun k hk hp => c ⟨k, hk, hp⟩⟩
theorem walk_ex (ks : List Nat) (s : Nat) : ∃ p : Nat × Nat, Walk ks s p.1 p.2 := by
  obtain ⟨i, j, h1, h2, e⟩ := pig 5 (bx ks s) fun i _ => bx_lt _ _ _
  obtain ⟨T, hT, ⟨J, hJ, eJ⟩, hn⟩ := least (P := fun j => ∃ i, i < j ∧ bx ks s i = bx ks s j) j ⟨i, h1, e⟩
  exact ⟨(J, T), hJ, by show T ≤ 5; lia, eJ.symm, fun a b hab hb e => hn b hb ⟨a, hab, e⟩⟩
section
variable {ks : List Nat} {s J T : Nat}
theorem bx_shift (hl : ks.length = 5) {a b : Nat} (h : bx ks s a = bx ks s b) : ∀ m, bx ks s (a + m) = bx ks s (b + m)
  | 0 => h
  | m + 1 => by rw [← Nat.add_assoc, ← Nat.add_assoc, bx_succ hl, bx_succ hl, bx_shift hl h m]
theorem Walk.per (w : Walk ks s J T) (hl : ks.length = 5) (m : Nat) : bx ks s (J + ((T - J) + m)) = bx ks s (J + m) := by
  have := w.lt
  rw [show J + ((T - J) + m) = T + m by lia]
  exact bx_shift hl w.back m
theorem Walk.perk (w : Walk ks s J T) (hl : ks.length = 5) : ∀ k m, bx ks s (J + ((T - J) * k + m)) = bx ks s (J + m)
  | 0, m => by rw [Nat.mul_zero, Nat.zero_add]
  | k + 1, m => by rw [Nat.mul_succ, Nat.add_assoc, w.perk hl k, w.per hl]
theorem Walk.jl (w : Walk ks s J T) : T - (T - J) = J := by
  have := w.lt
  lia
theorem Walk.pos (w : Walk ks s J T) : 0 < T - J := by
  have := w.lt
  lia
theorem Walk.far (w : Walk ks s J T) (hl : ks.length = 5) {n : Nat} (h : T ≤ n) : bx ks s n = bx ks s (T - (T - J) + (n - T) % (T - J)) := by
  have hh := w.lt
  rw [w.jl]
  have e : n = J + ((T - J) + (n - T)) := by lia
  have e2 := w.per hl (n - T)
  rw [← e] at e2
  rw [e2, ← w.perk hl ((n - T) / (T - J)) ((n - T) % (T - J)), Nat.div_add_mod]
theorem Walk.far_lt (w : Walk ks s J T) {n : Nat} : T - (T - J) + n % (T - J) < T := by
  have hh := w.lt
  have := Nat.mod_lt n w.pos
  lia
theorem itN_bx (hl : ks.length = 5) : ∀ n m, itN (fun x => (ks.map (· % 5)).getD x 0) n (bx ks s m) = bx ks s (m + n)
  | 0, m => rfl
  | n + 1, m => by rw [itN_step, ← bx_succ hl, itN_bx hl n (m + 1), show m + 1 + n = m + (n + 1) by lia]
theorem bx_start (hl : ks.length = 5) {a b m : Nat} (h : bx ks a 0 = bx ks b m) : ∀ t, bx ks a t = bx ks b (m + t)
  | 0 => h
  | t + 1 => by rw [← Nat.add_assoc, bx_succ hl, bx_succ hl, bx_start hl h t]
noncomputable def cyc (ks : List Nat) (s J T : Nat) : List Nat := (List.range (T - J)).map fun i => bx ks s (J + i)
noncomputable def Lp (ks : List Nat) (s J T : Nat) : List Str := sortF ((cyc ks s J T).map lt)
theorem Walk.cyc_mem (w : Walk ks s J T) (hl : ks.length = 5) (y : Nat) : y ∈ cyc ks s J T ↔ ∀ N, ∃ t, N ≤ t ∧ bx ks s t = y := by
  unfold cyc
  rw [List.mem_map]
  constructor
  · rintro ⟨i, hi, rfl⟩ N
    refine ⟨J + ((T - J) * N + i), ?_, w.perk hl N i⟩
    have := Nat.le_mul_of_pos_left N w.pos
    lia
  · intro h
    obtain ⟨t, ht, rfl⟩ := h J
    refine ⟨(t - J) % (T - J), List.mem_range.2 (Nat.mod_lt _ w.pos), ?_⟩
    rw [← w.perk hl ((t - J) / (T - J)) ((t - J) % (T - J)), Nat.div_add_mod, show J + (t - J) = t by lia]
theorem Walk.cyc_nodup (w : Walk ks s J T) : (cyc ks s J T).Nodup := by
  unfold cyc
  refine List.pairwise_map.2 (List.Pairwise.imp_of_mem ?_ List.pairwise_lt_range)
  intro a b _ hb hab
  exact w.new _ _ (by lia) (by have := List.mem_range.1 hb; lia)
theorem cyc_lt {y : Nat} (h : y ∈ cyc ks s J T) : y < 5 := by
  obtain ⟨i, _, rfl⟩ := List.mem_map.1 h
  exact bx_lt _ _ _
end
theorem sortF_eq {l l' : List Str} (h : l.Perm l') : sortF l = sortF l' :=
  List.Perm.eq_of_pairwise (le := leS) (fun a b _ _ h1 h2 => leS_antisymm h1 h2) (sortF_sorted l) (sortF_sorted l') ((sortF_perm l).trans (h.trans (sortF_perm l').symm))
theorem jstep_get {m : List Nat} {b g x : Nat} (hx : x < m.length) : (jstep m b g).getD x 0 = if m.getD x 0 = m.getD g 0 then m.getD b 0 else m.getD x 0 := getD_map (f := fun x => if x = m.getD g 0 then m.getD b 0 else x) hx
section
variable {gs : List Nat} (hl : gs.length = 5) (hg : ∀ x ∈ gs, x < 5)
include hl hg
theorem marks_same {A : Type} {L : Nat → A} (hL : ∀ x < 5, L x = L (gs.getD x 0)) : ∀ n ≤ 5, ∀ x < 5, ∀ y < 5, (marksN gs n).getD x 0 = (marksN gs n).getD y 0 → L x = L y
  | 0, _, x, hx, y, hy, e => by
    have z : ∀ x < 5, ([0, 1, 2, 3, 4] : List Nat).getD x 0 = x := by decide
    have e : ([0, 1, 2, 3, 4] : List Nat).getD x 0 = ([0, 1, 2, 3, 4] : List Nat).getD y 0 := e
    rw [z x hx, z y hy] at e
    rw [e]
  | n + 1, hn, x, hx, y, hy, e => by
    have ih := marks_same hL n (by lia)
    have hgn : gs.getD n 0 < 5 := getD_lt hg (by lia)
    have e : (jstep (marksN gs n) n (gs.getD n 0)).getD x 0 = (jstep (marksN gs n) n (gs.getD n 0)).getD y 0 := e
    rw [jstep_get (by rw [marks_len]; exact hx), jstep_get (by rw [marks_len]; exact hy)] at e
    by_cases c1 : (marksN gs n).getD x 0 = (marksN gs n).getD (gs.getD n 0) 0 <;> by_cases c2 : (marksN gs n).getD y 0 = (marksN gs n).getD (gs.getD n 0) 0
    · exact ih x hx y hy (c1.trans c2.symm)
    · rw [if_pos c1, if_neg c2] at e
      exact (ih x hx _ hgn c1).trans ((hL n (by lia)).symm.trans (ih n (by lia) y hy e))
    · rw [if_neg c1, if_pos c2] at e
      exact (ih x hx n (by lia) e).trans ((hL n (by lia)).trans (ih y hy _ hgn c2).symm)
    · rw [if_neg c1, if_neg c2] at e
      exact ih x hx y hy e
theorem marks_joined : ∀ n ≤ 5, ∀ b < n, (marksN gs n).getD b 0 = (marksN gs n).getD (gs.getD b 0) 0
  | 0, _, b, hb => absurd hb (Nat.not_lt_zero _)
  | n + 1, hn, b, hb => by
    have ih := marks_joined n (by lia)
    have hgb : gs.getD b 0 < 5 := getD_lt hg (by lia)
    show (jstep (marksN gs n) n (gs.getD n 0)).getD b 0 = (jstep (marksN gs n) n (gs.getD n 0)).getD (gs.getD b 0) 0
    rw [jstep_get (by rw [marks_len]; lia), jstep_get (by rw [marks_len]; exact hgb)]
    by_cases c : b = n
    · subst c
      rw [if_pos rfl]
      split <;> rfl
    · rw [ih b (by lia)]
end
section
variable {ks : List Nat} (hl : ks.length = 5)
include hl
theorem gs_lt : ∀ x ∈ ks.map (· % 5), x < 5 := fun x hx => by
  obtain ⟨y, _, rfl⟩ := List.mem_map.1 hx
  exact Nat.mod_lt _ (by decide)
theorem gs_len : (ks.map (· % 5)).length = 5 := by rw [List.length_map]; exact hl
theorem marks_walk {s : Nat} (hs : s < 5) : ∀ t, (marksN (ks.map (· % 5)) 5).getD s 0 = (marksN (ks.map (· % 5)) 5).getD (bx ks s t) 0
  | 0 => by rw [bx_zero hs]
  | t + 1 => by
    rw [marks_walk hs t, bx_succ hl]
    exact marks_joined (gs_len hl) (gs_lt hl) 5 (Nat.le_refl _) _ (bx_lt _ _ _)
theorem joined_iff {w : Nat → Nat × Nat} (hw : ∀ s, Walk ks s (w s).1 (w s).2) {x y : Nat} (hx : x < 5) (hy : y < 5) :
    (marksN (ks.map (· % 5)) 5).getD x 0 = (marksN (ks.map (· % 5)) 5).getD y 0 ↔ Lp ks x (w x).1 (w x).2 = Lp ks y (w y).1 (w y).2 := by
  constructor
  · refine marks_same (gs_len hl) (gs_lt hl) (L := fun x => Lp ks x (w x).1 (w x).2) ?_ 5 (Nat.le_refl _) x hx y hy
    intro x hx
    refine sortF_eq (List.Perm.map _ ((List.perm_ext_iff_of_nodup (hw _).cyc_nodup (hw _).cyc_nodup).2 fun a => ?_))
    rw [(hw _).cyc_mem hl, (hw _).cyc_mem hl]
    have hgx : (ks.map (· % 5)).getD x 0 < 5 := getD_lt (gs_lt hl) (by rw [gs_len hl]; exact hx)
    have st := bx_start hl (a := (ks.map (· % 5)).getD x 0) (b := x) (m := 1) (by rw [bx_zero hgx, bx_succ hl, bx_zero hx])
    constructor
    · intro h N
      obtain ⟨t, ht, e⟩ := h (N + 1)
      exact ⟨t - 1, by lia, by rw [st, show 1 + (t - 1) = t by lia, e]⟩
    · intro h N
      obtain ⟨t, ht, e⟩ := h N
      exact ⟨1 + t, by lia, by rw [← st, e]⟩
  · intro h
    have m1 : bx ks x (w x).1 ∈ cyc ks x (w x).1 (w x).2 := List.mem_map.2 ⟨0, List.mem_range.2 (hw x).pos, rfl⟩
    have m2 : lt (bx ks x (w x).1) ∈ Lp ks y (w y).1 (w y).2 := by
      rw [← h]
      exact (sortF_perm _).mem_iff.2 (List.mem_map.2 ⟨_, m1, rfl⟩)
    obtain ⟨z, hz, e⟩ := List.mem_map.1 ((sortF_perm _).mem_iff.1 m2)
    have hz5 := cyc_lt hz
    have ez : z = bx ks x (w x).1 := by
      have := lt_inj z (by lia) (bx ks x (w x).1) (by have := bx_lt ks x (w x).1; lia)
      rw [e, beq_self_eq_true] at this
      exact eq_of_beq this.symm
    obtain ⟨t, _, et⟩ := ((hw y).cyc_mem hl z).1 hz 0
    rw [marks_walk hl hx (w x).1, marks_walk hl hy t, et, ez]
end
end

section
open PySem PySem.W PyProof.Rows PySem.Spec PySem.SeqAt PySem.Calls
set_option autoImplicit false
set_option linter.unusedVariables false
set_option linter.unusedSectionVars false
set_option maxRecDepth 100000
set_option tactic.hygienic false
theorem text_len {rows : List (Str × Str)} (h : RowsS rows) : (textOf rows).length ≤ 42 * 805 := by
  rw [← cp_len, cp_text]
  have := cat_small h (e := [13, 10]) (by simp) (f := id) fun p => Nat.le_succ _
  rwa [List.map_id] at this
theorem split_text {rows : List (Str × Str)} (h : RowsS rows) : Txt.split (textOf rows) crlf = rows.map lineOf ++ [ofl [], ofl []] := by
  rw [split_parts (c := 13) (t := [10]) crlf_cp (by decide +kernel) (fun p hp => (parts_no h p hp).1) (parts_ne rows) (by rw [cp_text, crlf_cp])]
  unfold partsOf
  rw [List.map_append, List.map_map]
  rfl
open Builtin.Str in
theorem PW.splitText {σ : PS} {rows : List (Str × Str)} {Q : PV → PS → Prop} (h : RowsS rows) (k : Q (.ref σ.H.length) { σ with H := σ.H ++ [.list ((rows.map lineOf ++ [ofl [], ofl []]).map .str)] }) : PW (mSplit (textOf rows) [.str crlf]) σ Q := by
  have h1 := text_len h
  have sl := sizeLine_eq
  refine PW.split (by decide +kernel) (by lia) ?_ (by rw [split_text h]; exact k)
  have := congrArg List.length (occ_parts (x := textOf rows) (y := crlf) (c := 13) (t := [10]) (parts := partsOf rows) crlf_cp (fun p hp => (parts_no h p hp).1) (parts_ne rows) (by rw [cp_text, crlf_cp]))
  rw [List.length_map] at this
  have hr := h.len
  have e : (partsOf rows).length = rows.length + 2 := by unfold partsOf; simp
  lia
theorem line_box : ∀ d ≤ 6, ∀ k < 10, ∀ j < 10, (seqIndex? 0 (Txt.stripChars (lineOf (dotsN d ++ lt k, sv j)) (Str.ofString ".")).length).bind ((Txt.stripChars (lineOf (dotsN d ++ lt k, sv j)) (Str.ofString ".")).cps[·]?) = some (if k < 5 then 97 + k else 60 + k) ∧ (lineOf (dotsN d ++ lt k, sv j)).length ≤ 20 := by decide +kernel
theorem ppick_end {α : Type} (l : List α) {n : Nat} (h0 : 0 < n) (h : n ≤ l.length) : ppick l (some (-(n : Int))) none none = l.drop (l.length - n) := by
  unfold ppick
  have e : sliceBounds (some (-(n : Int))) none none l.length = (((l.length - n : Nat) : Int), (l.length : Int), 1) := by
    unfold sliceBounds
    simp only [Option.getD_none]
    rw [if_pos (by lia)]
    repeat rw [if_pos (show (1 : Int) > 0 by decide)]
    congr 1
    lia
  rw [e]
  dsimp only
  have e2 : ∀ a b : Nat, a ≤ b → sliceRange (a : Int) (b : Int) 1 = (List.range (b - a)).map (a + ·) := by
    intro a b hab
    unfold sliceRange
    rw [if_pos (by decide)]
    dsimp only
    have h1 : (if (a : Int) < (b : Int) then ((b : Int) - a + 1 - 1) / 1 else 0).toNat = b - a := by
      split
      · rw [Int.ediv_one]; lia
      · lia
    rw [h1]
    refine List.map_congr_left fun k _ => ?_
    lia
  rw [e2 _ _ (by lia), List.filterMap_map]
  have e3 : l.length - (l.length - n) = (l.drop (l.length - n)).length := by rw [List.length_drop]
  rw [e3]
  have e4 : ((fun x => l[x]?) ∘ fun x => l.length - n + x) = ((l.drop (l.length - n))[·]?) := by
    funext k
    show l[l.length - n + k]? = _
    rw [List.getElem?_drop]
  rw [e4, range_take _ _ (Nat.le_refl _), List.take_length]
theorem PW.cutE {σ : PS} {i n : Nat} {l : List PV} {Q : PV → PS → Prop} (e : σ.H[i]? = some (.list l)) (hs : l.length ≤ sizeLine) (h0 : 0 < n) (h2 : n ≤ l.length) (h : Q (.ref σ.H.length) { σ with H := σ.H ++ [.list (l.drop (l.length - n))] }) : PW (pcut (.ref i) (.int (-(n : Int))) .none .none) σ Q := by
  show PW (pguard ((none : Option Int) ≠ some 0) (Mine.plist i fun l => pguard (l.length ≤ sizeLine) (palloc (.list (ppick l (some (-(n : Int))) none none))))) σ Q
  refine PW.guard (by decide) (PW.plist e (PW.guard hs ?_))
  rw [ppick_end l h0 h2]
  exact PW.alloc h
theorem eqvAll_strs : ∀ xs ys : List Str, PyData.eqvAll (xs.map PyData.str) (ys.map PyData.str) = decide (xs = ys)
  | [], [] => rfl
  | [], y :: ys => rfl
  | x :: xs, [] => rfl
  | x :: xs, y :: ys => by
    rw [List.map_cons, List.map_cons]
    show (PyData.eqv (.str x) (.str y) && PyData.eqvAll (xs.map PyData.str) (ys.map PyData.str)) = _
    rw [eqvAll_strs xs ys]
    show ((x == y) && _) = _
    by_cases h : x = y
    · subst h
      rw [beq_self_eq_true, Bool.true_and]
      exact decide_eq_decide.2 ⟨fun h => by rw [h], fun h => (List.cons.inj h).2⟩
    · rw [beq_eq_false_iff_ne.2 h, Bool.false_and]
      exact (decide_eq_false fun e => h (List.cons.inj e).1).symm
theorem strs_shaped (xs : List Str) (ok : ∀ x ∈ xs, ∀ c ∈ cp x, c < 200) : shaped (.list (xs.map PyData.str)) = true := by
  unfold shaped
  rw [show (PyData.list (xs.map PyData.str)).canLay0 = true from strs_lay xs ok, Bool.true_and]
  refine decide_eq_true ?_
  unfold PyData.depth
  rw [strs_depth]; lia
theorem pdata_strs {H : List PO} {i : Nat} {xs : List Str} (e : H[i]? = some (.list (xs.map PV.str))) : pdata H 4 (.ref i) = some (.list (xs.map PyData.str)) := by
  show (match H[i]? with | some (.list l) => (pall (pdata H 3) l).map PyData.list | _ => none) = _
  rw [e]
  dsimp only
  rw [pall_strs]; rfl
theorem PW.eqR {σ : PS} {i j : Nat} {x y : PyData} {Q : PV → PS → Prop} (d1 : pdata σ.H 4 (.ref i) = some x) (d2 : pdata σ.H 4 (.ref j) = some y) (s1 : shaped x = true) (s2 : shaped y = true) (h : Q (.bool (PyData.eqv x y)) σ) : PW (pEq (.ref i) (.ref j)) σ Q := by
  refine ⟨.bool (PyData.eqv x y), σ, ?_, h⟩
  show pdat2 (.ref i) (.ref j) (fun x y => pguard (shaped x = true ∧ shaped y = true) (PM.pure (.bool (PyData.eqv x y)))) σ = _
  unfold pdat2
  rw [d1, d2]
  dsimp only
  unfold pguard
  rw [if_pos ⟨s1, s2⟩]
  rfl
theorem PW.neR {σ : PS} {i j : Nat} {x y : PyData} {Q : PV → PS → Prop} (d1 : pdata σ.H 4 (.ref i) = some x) (d2 : pdata σ.H 4 (.ref j) = some y) (s1 : shaped x = true) (s2 : shaped y = true) (h : Q (.bool (!PyData.eqv x y)) σ) : PW (pNe (.ref i) (.ref j)) σ Q := by
  refine ⟨.bool (!PyData.eqv x y), σ, ?_, h⟩
  show pdat2 (.ref i) (.ref j) (fun x y => pguard (shaped x = true ∧ shaped y = true) (PM.pure (.bool (!PyData.eqv x y)))) σ = _
  unfold pdat2
  rw [d1, d2]
  dsimp only
  unfold pguard
  rw [if_pos ⟨s1, s2⟩]
  rfl
theorem PW.eqLL {σ : PS} {i j : Nat} {xs ys : List Str} {Q : PV → PS → Prop} (e1 : σ.H[i]? = some (.list (xs.map PV.str))) (e2 : σ.H[j]? = some (.list (ys.map PV.str))) (o1 : ∀ x ∈ xs, ∀ c ∈ cp x, c < 200) (o2 : ∀ x ∈ ys, ∀ c ∈ cp x, c < 200) (h : Q (.bool (decide (xs = ys))) σ) : PW (pEq (.ref i) (.ref j)) σ Q :=
  PW.eqR (pdata_strs e1) (pdata_strs e2) (strs_shaped xs o1) (strs_shaped ys o2) (by
    rw [show PyData.eqv (.list (xs.map PyData.str)) (.list (ys.map PyData.str)) = decide (xs = ys) from eqvAll_strs xs ys]; exact h)
noncomputable def rowD (f : Nat → Nat → Bool) (i : Nat) : PyData := .list ((List.range 5).map fun j => .bool (f i j))
theorem pall_map {α : Type} {f : PV → Option PyData} {g : α → PV} {o : α → PyData} : ∀ l : List α, (∀ x ∈ l, f (g x) = some (o x)) → pall f (l.map g) = some (l.map o)
  | [], _ => rfl
  | x :: l, h => by
    show (match f (g x), pall f (l.map g) with
      | some d, some ds => some (d :: ds)
      | _, _ => none) = _
    rw [h x List.mem_cons_self, pall_map l fun y hy => h y (List.mem_cons_of_mem _ hy)]; rfl
theorem pdata_list {H : List PO} {i n : Nat} {l : List PV} (e : H[i]? = some (.list l)) : pdata H (n + 1) (.ref i) = (pall (pdata H n) l).map PyData.list := by
  show (match H[i]? with | some (.list l) => (pall (pdata H n) l).map PyData.list | _ => none) = _
  rw [e]
theorem Square.data {H : List PO} {k : Nat} {f : Nat → Nat → Bool} (q : Square H k f) : pdata H 4 (.ref k) = some (.list ((List.range 5).map (rowD f))) := by
  obtain ⟨rs, e, hl, h⟩ := q
  rw [pdata_list e]
  have er : rs = (List.range 5).map fun i => rs.getD i 0 := by
    have := range_map_get rs 0
    rw [hl] at this
    exact this.symm
  have e2 : rs.map PV.ref = (List.range 5).map fun i => PV.ref (rs.getD i 0) := by
    have := congrArg (List.map PV.ref) er
    rw [List.map_map] at this
    exact this
  rw [e2, pall_map (o := rowD f) _ fun i hi => ?_]
  · rfl
  · rw [pdata_list (h i (List.mem_range.1 hi)), pall_map (o := fun j => PyData.bool (f i j)) _ fun j _ => ?_]
    · rfl
    · rfl
theorem square_shaped (f : Nat → Nat → Bool) : shaped (.list ((List.range 5).map (rowD f))) = true := rfl
theorem Square.congr {H : List PO} {k : Nat} {f g : Nat → Nat → Bool} (q : Square H k f) (h : ∀ i < 5, ∀ j < 5, f i j = g i j) : Square H k g := by
  obtain ⟨rs, e, hl, h2⟩ := q
  refine ⟨rs, e, hl, fun i hi => ?_⟩
  rw [h2 i hi]
  exact congrArg (fun l => some (PO.list l)) (List.map_congr_left fun j hj => by rw [h i hi j (List.mem_range.1 hj)])
theorem PW.neSq {σ : PS} {i j : Nat} {f : Nat → Nat → Bool} {Q : PV → PS → Prop} (q1 : Square σ.H i f) (q2 : Square σ.H j f) (h : Q (.bool false) σ) : PW (pNe (.ref i) (.ref j)) σ Q := by
  refine PW.neR q1.data q2.data (square_shaped f) (square_shaped f) ?_
  rw [eqv_refl _ (canLay_of_shaped (square_shaped f))]
  exact h
noncomputable def mailP (p : Str × Nat) : PV := .tup [.str p.1, natP p.2]
noncomputable def mailD (p : Str × Nat) : PyData := .tuple [.str p.1, .int (p.2 : Int)]
theorem mails_lay : ∀ l : List (Str × Nat), (∀ p ∈ l, ∀ c ∈ cp p.1, c < 200) → PyData.canLayAll0 (l.map mailD) = true
  | [], _ => rfl
  | p :: l, h => by
    have h1 := strs_lay [p.1] fun x hx c hc => h p List.mem_cons_self c (by rw [List.mem_singleton.1 hx] at hc; exact hc)
    show (PyData.canLayAll0 [.str p.1, .int _] && PyData.canLayAll0 (l.map mailD)) = true
    rw [mails_lay l fun q hq => h q (List.mem_cons_of_mem _ hq), Bool.and_true]
    have h1 : ((PyData.str p.1).canLay0 && true) = true := h1
    show ((PyData.str p.1).canLay0 && true) = true
    exact h1
theorem mails_depth : ∀ l : List (Str × Nat), PyData.depthAll (l.map mailD) ≤ 1
  | [] => Nat.zero_le _
  | p :: l => by
    show max (PyData.depth (mailD p)) (PyData.depthAll (l.map mailD)) ≤ 1
    exact Nat.max_le.2 ⟨Nat.le_refl 1, mails_depth l⟩
theorem PW.eqMails {σ : PS} {i j : Nat} {l : List (Str × Nat)} {Q : PV → PS → Prop} (e1 : σ.H[i]? = some (.list (l.map mailP))) (e2 : σ.H[j]? = some (.list (l.map mailP))) (ok : ∀ p ∈ l, ∀ c ∈ cp p.1, c < 200) (h : Q (.bool true) σ) : PW (pEq (.ref i) (.ref j)) σ Q := by
  have d : ∀ i, σ.H[i]? = some (.list (l.map mailP)) → pdata σ.H 4 (.ref i) = some (.list (l.map mailD)) := by
    intro i e
    rw [pdata_list e, pall_map (o := mailD) _ fun p _ => rfl]
    rfl
  have s : shaped (.list (l.map mailD)) = true := by
    unfold shaped
    rw [show (PyData.list (l.map mailD)).canLay0 = true from mails_lay l ok, Bool.true_and]
    refine decide_eq_true ?_
    have := mails_depth l
    unfold PyData.depth
    lia
  refine PW.eqR (d i e1) (d j e2) s s ?_
  rw [eqv_refl _ (canLay_of_shaped s)]
  exact h
theorem lt_small (k : Nat) (h : k < 10) : ∀ c ∈ cp (lt k), c < 200 := by
  intro c hc
  have hc : c ∈ [if k < 5 then 97 + k else 60 + k] := hc
  rw [List.mem_singleton.1 hc]
  split <;> lia
theorem rw_small : ∀ d ≤ 6, ∀ k < 10, ∀ j < 10, (lineL (dotsN d ++ lt k, sv j)).all (· < 200) = true := by decide +kernel
theorem text_small {ks : List Nat} (hl : ks.length = 5) (hk : ∀ k ∈ ks, k < 10) {s T : Nat} (hs : s < 5) (hT : T ≤ 5) : ∀ c ∈ cp (textOf (rowsT ks s T)), c < 200 := by
  intro c hc
  rw [cp_textF] at hc
  rcases List.mem_append.1 hc with h | h
  · obtain ⟨x, hx, hcx⟩ := List.mem_flatten.1 h
    obtain ⟨r, hr, rfl⟩ := List.mem_map.1 hx
    obtain ⟨t, ht, rfl⟩ := List.mem_map.1 hr
    have := rw_small (T + 1 - t) (by lia) (nmC ks s t) (nmC_lt hl hk hs t) (nmC ks s (t + 1)) (nmC_lt hl hk hs _)
    exact of_decide_eq_true (List.all_eq_true.1 this c hcx)
  · rcases List.mem_cons.1 h with rfl | h
    · lia
    · rw [List.mem_singleton.1 h]; lia
theorem bad_name : ∀ b < 5, ∀ s < 33, nameLen (lt b ++ ⟨#[s + s / 32 * 95]⟩) = true ∧ hasN (Txt.lower (lt b ++ ⟨#[s + s / 32 * 95]⟩)) = true := by decide +kernel
theorem index_lt : ∀ k < 10, Builtin.Str.occurrences (Str.ofString "abcde") (lt (k % 5)) 0 (Str.ofString "abcde").length 1 = [k % 5] := by decide +kernel
end

section
open PySem PySem.W PyProof.Rows PySem.Spec PySem.SeqAt PySem.Calls
set_option autoImplicit false
set_option linter.unusedVariables false
set_option linter.unusedSectionVars false
set_option maxRecDepth 100000
set_option tactic.hygienic false
theorem ppick_min {α : Type} (l : List α) (n : Nat) : ppick l none (some (n : Int)) none = l.take n := by
  unfold ppick
  have e : sliceBounds none (some (n : Int)) none l.length = (0, ((min n l.length : Nat) : Int), 1) := by
    unfold sliceBounds
    simp only [Option.getD_none]
    rw [if_neg (show ¬ ((n : Int) < 0) by lia)]
    repeat rw [if_pos (show (1 : Int) > 0 by decide)]
    congr 2
    lia
  rw [e]
  dsimp only
  rw [sliceRange_one, range_take l _ (by lia)]
  by_cases h : n ≤ l.length
  · rw [Nat.min_eq_left h]
  · rw [Nat.min_eq_right (by lia), List.take_of_length_le (Nat.le_refl _), List.take_of_length_le (by lia)]
section
variable {σ : PS}
theorem PW.cutgN {ad : Addr} {l : List PV} {n : Nat} {Q : PV → PS → Prop} (hs : l.length ≤ sizeLine) (h : Q (.ref σ.H.length) { σ with H := σ.H ++ [.list (l.take n)] }) : PW (pcutg ad l (.glob ad) .none (natP n) .none) σ Q := by
  show PW (pguard (ad = ad) (pguard ((none : Option Int) ≠ some 0) (pguard (l.length ≤ sizeLine) (palloc (.list (ppick l none (some (n : Int)) none)))))) σ Q
  refine PW.guard rfl (PW.guard (by decide) (PW.guard hs ?_))
  rw [ppick_min l n]
  exact PW.alloc h
theorem PW.put3 {n m k : String} {v w x : PV} {Q : Unit → PS → Prop} (h : Q () { σ with loc := lset k x (lset m w (lset n v σ.loc)) }) : PW (passign [pput n, pput m, pput k] [v, w, x]) σ Q := PW.bind (PW.put (PW.bind (PW.put (PW.bind (PW.put (PW.pure h))))))
theorem PW.idx {x y : Str} {i : Nat} {Q : PV → PS → Prop} (e : Builtin.Str.occurrences x y 0 x.length 1 = [i]) (h : Q (natP i) σ) : PW (mIndex x [.str y]) σ Q := by
  refine ⟨natP i, σ, ?_, h⟩
  show (match Builtin.Str.occurrences x y 0 x.length 1 with
    | i :: _ => PM.pure (PV.int (i : Nat))
    | [] => pfail) σ = _
  rw [e]; rfl
theorem PW.geN {n m : Nat} {Q : PV → PS → Prop} (h : Q (.bool (decide (m ≤ n))) σ) : PW (pGe (natP n) (natP m)) σ Q := PW.pure (by
  have : decide ((m : Int) ≤ (n : Int)) = decide (m ≤ n) := decide_eq_decide.2 (by lia)
  rw [this]; exact h)
theorem PW.not {p : PM Bool} {Q : Bool → PS → Prop} (h : PW p σ fun b τ => Q (!b) τ) : PW (pnot p) σ Q := PW.bind (h.mono fun _ _ z => PW.pure z)
theorem PW.negN {n : Nat} {Q : PV → PS → Prop} (h : Q (.int (-(n : Int))) σ) : PW (pNeg (natP n)) σ Q := PW.pure h
theorem PW.sorted {i : Nat} {xs : List Str} {Q : PV → PS → Prop} (e : σ.H[i]? = some (.list (xs.map .str))) (hl : xs.length < 64) (h : Q (.ref σ.H.length) { σ with H := σ.H ++ [.list ((sortF xs).map .str)] }) : PW (fSorted [.ref i]) σ Q := PW.plist e (PW.opt (pstrs_map xs) (PW.guard hl (PW.alloc h)))
theorem PW.chr {n : Nat} {Q : PV → PS → Prop} (hn : n ≤ 1000) (h : Q (.str ⟨#[n]⟩) σ) : PW (fChr [natP n]) σ Q := PW.guard (by lia) (PW.pure h)
theorem PW.mapA {capt : List String} {p : PM NX} {asg : PV → PM Unit} {elt : PM PV} {Q : PV → PS → Prop} (len : Nat) (src out : Nat → PV) (J : List (String × PV) → Prop)
    (hp : PW p σ fun nx τ => τ = σ ∧ ∀ j X, nx j (σ.H ++ X) = some (if j < len then some (src j) else none)) (hlen : len ≤ 99)
    (h0 : J (pinner capt σ).loc)
    (step : ∀ j τ, j < len → J τ.loc → (∃ X, τ.H = σ.H ++ X) → PW (asg (src j)) τ fun _ τ₁ => PW elt τ₁ fun v τ₂ => v = out j ∧ J τ₂.loc ∧ ∃ X, τ₂.H = τ.H ++ X)
    (fin : ∀ loc' X, J loc' → ∃ loc, pback capt loc' σ.loc = some loc ∧ Q (.ref σ.H.length) ⟨loc, σ.H ++ (.list ((List.range len).map out) :: X)⟩) : PW (pcomp capt p asg (PM.pure true) elt 100) σ Q := by
  refine PW.comp (hp.mono fun nx τ h => ?_)
  obtain ⟨rfl, hnx⟩ := h
  refine PW.compL (fun j o τ' => (∃ X, τ'.H = τ.H ++ (.list o :: X)) ∧ J τ'.loc ∧ o = (List.range j).map out) len src ?_ ?_ ?_ ?_ (by lia) ?_ 100 0 [] _ (by lia) (Nat.zero_le _) ⟨⟨[], rfl⟩, h0, rfl⟩
  · rintro j o τ' ⟨⟨X, hH⟩, _⟩; rw [hH]; exact hnx j _
  · rintro j o τ' ⟨⟨X, hH⟩, _⟩; rw [hH, List.getElem?_append_right (Nat.le_refl _)]; simp
  · rintro j o τ' hj ⟨⟨X, hH⟩, hJ, ho⟩
    refine (step j τ' hj hJ ⟨_, hH⟩).mono fun _ τ₁ h₁ => PW.pure ?_
    rw [if_pos rfl]
    refine h₁.mono fun v τ₂ ⟨hv, hJ₂, Y, hH₂⟩ => ?_
    rw [hH, List.append_assoc, List.cons_append] at hH₂
    refine ⟨by rw [hH₂, List.getElem?_append_right (Nat.le_refl _)]; simp, ⟨X ++ Y, ?_⟩, hJ₂, ?_⟩
    · show τ₂.H.set τ.H.length _ = _
      rw [hH₂, List.set_append_right _ _ (Nat.le_refl _)]; simp
    · rw [List.range_succ, List.map_append, ho, hv]; rfl
  · rintro j o τ' ⟨_, _, rfl⟩; rw [List.length_map, List.length_range]; exact Nat.le_refl _
  · rintro o τ' ⟨⟨X, hH⟩, hJ, rfl⟩
    obtain ⟨loc, e, q⟩ := fin _ X hJ
    refine ⟨loc, e, ?_⟩
    rw [hH]; exact q
end
theorem Square.app {H X : List PO} {k : Nat} {f : Nat → Nat → Bool} (q : Square H k f) : Square (H ++ X) k f := by
  obtain ⟨rs, e, hl, h⟩ := q
  exact ⟨rs, get_app e, hl, fun i hi => get_app (h i hi)⟩
theorem WaysOk.ext {H H' : List PO} {wt l : Nat} {rows : List (Str × Str)} {ks : List Nat} (w : WaysOk H wt l rows ks) (h : ∀ (x : Nat) (o : PO), H[x]? = some o → H'[x]? = some o) : WaysOk H' wt l rows ks := by
  obtain ⟨⟨k, a, b, c⟩, r⟩ := w
  exact ⟨⟨k, h _ _ a, h _ _ b, h _ _ c⟩, r⟩
noncomputable def mailOf (ks : List Nat) (w : Nat → Nat × Nat) (s : Nat) : Str × Nat := (textOf (rowsT ks s (w s).2), (w s).2 - (w s).1)
structure LawInv (ks : List Nat) (w : Nat → Nat × Nat) (H₀ : List PO) (li mi fi : Nat) (F : PO) (j : Nat) (H : List PO) : Prop where
  ext : ∀ (x : Nat) (o : PO), H₀[x]? = some o → H[x]? = some o
  far : H[fi]? = some F
  lp : ∃ rs : List Nat, H[li]? = some (.list (rs.map .ref)) ∧ rs.length = j ∧ ∀ i < j, rs.getD i 0 ≠ li ∧ rs.getD i 0 ≠ mi ∧ H[rs.getD i 0]? = some (.list ((Lp ks i (w i).1 (w i).2).map .str))
  ml : H[mi]? = some (.list (((List.range j).map (mailOf ks w)).map mailP))
section
variable {ks : List Nat} {w : Nat → Nat × Nat} {H₀ : List PO} {li mi fi : Nat} {F : PO} {j : Nat}
theorem LawInv.app {H X : List PO} (v : LawInv ks w H₀ li mi fi F j H) : LawInv ks w H₀ li mi fi F j (H ++ X) := by
  obtain ⟨rs, e, hl, h⟩ := v.lp
  exact ⟨fun x o e => get_app (v.ext x o e), get_app v.far, ⟨rs, get_app e, hl, fun i hi => ⟨(h i hi).1, (h i hi).2.1, get_app (h i hi).2.2⟩⟩, get_app v.ml⟩
theorem LawInv.push {H : List PO} (v : LawInv ks w H₀ li mi fi F j H) {rs : List Nat} (e : H[li]? = some (.list (rs.map .ref))) {k : Nat} (hk : H[k]? = some (.list ((Lp ks j (w j).1 (w j).2).map .str))) (k1 : k ≠ li) (k2 : k ≠ mi) (hm : li ≠ mi) (h1 : H₀.length ≤ li) (h2 : H₀.length ≤ mi) (f1 : fi ≠ li) (f2 : fi ≠ mi) :
    LawInv ks w H₀ li mi fi F (j + 1) ((H.set li (.list (rs.map .ref ++ [.ref k]))).set mi (.list (((List.range j).map (mailOf ks w)).map mailP ++ [mailP (mailOf ks w j)]))) := by
  obtain ⟨rs', e', hl, h⟩ := v.lp
  have er : rs' = rs := by
    rw [e] at e'
    injection e' with e'
    injection e' with e'
    exact (List.map_inj_right (f := PV.ref) fun _ _ h => by injection h).1 e'.symm
  subst er
  have hli := lt_of_get e
  have hmi := lt_of_get v.ml
  refine ⟨fun x o ex => ?_, get_set (get_set v.far f1) f2, ⟨rs' ++ [k], ?_, by simp [hl], fun i hi => ?_⟩, ?_⟩
  · have := lt_of_get ex
    exact get_set (get_set (v.ext x o ex) (by lia)) (by lia)
  · rw [List.getElem?_set_ne (Ne.symm hm), List.getElem?_set_self hli]; simp
  · by_cases c : i < j
    · have e1 : (rs' ++ [k]).getD i 0 = rs'.getD i 0 := by simp [List.getD, List.getElem?_append_left (show i < rs'.length by lia)]
      rw [e1]
      obtain ⟨a, b, d⟩ := h i c
      exact ⟨a, b, get_set (get_set d a) b⟩
    · have : i = j := by lia
      subst this
      have e1 : (rs' ++ [k]).getD i 0 = k := by rw [← hl]; simp [List.getD]
      rw [e1]
      exact ⟨k1, k2, get_set (get_set hk k1) k2⟩
  · rw [List.getElem?_set_self (by rw [List.length_set]; exact hmi), List.range_succ]; simp
end
theorem mul_cells (zs : List Int) : (((zs.take 6).map fz ++ [6, 12, 1, 18, 5, 69]).take 6).length = 6 := by
  rw [List.length_take, List.length_append]; simp only [List.length_cons, List.length_nil]; lia
theorem fz_lt (z : Int) : fz z < 1000000 := by
  unfold fz
  have := Int.fmod_eq_emod_of_nonneg z (b := 1000000) (by decide)
  lia
theorem cells_lt (zs : List Int) : ∀ c ∈ ((zs.take 6).map fz ++ [6, 12, 1, 18, 5, 69]).take 6, c < 1000000 := by
  intro c hc
  rcases List.mem_append.1 (List.mem_of_mem_take hc) with h | h
  · obtain ⟨z, _, rfl⟩ := List.mem_map.1 h
    exact fz_lt z
  · have : ∀ c ∈ ([6, 12, 1, 18, 5, 69] : List Nat), c < 1000000 := by decide
    exact this c h
theorem getD_mapV {α : Type} {l : List α} {f : α → PV} {d : α} {i : Nat} (h : i < l.length) : (l.map f).getD i .none = f (l.getD i d) := by
  simp [List.getD, List.getElem?_eq_getElem h]
theorem PW.intI {σ : PS} {z : Int} {Q : PV → PS → Prop} (h : Q (.int z) σ) : PW (fInt [.int z]) σ Q := PW.pure h
theorem goals_list {ks : List Nat} (hl : ks.length = 5) : (List.range 5).map (fun j => natP (ks.getD j 0 % 5)) = (ks.map (· % 5)).map natP := by
  have := congrArg (List.map fun k => natP (k % 5)) (range_map_get ks 0)
  rw [List.map_map, hl] at this
  rw [List.map_map]
  exact this
theorem take_lines (xs : List Str) (a b : Str) : ((xs ++ [a, b]).map PV.str).take (((xs ++ [a, b]).map PV.str).length - 2) = xs.map PV.str := by
  rw [List.map_append, List.length_append]
  simp
theorem line_at {ks : List Nat} {s T i : Nat} (h : i < T) : (((rowsT ks s T).map lineOf).map PV.str).getD i .none = .str (lineOf (rw_ ks s T i)) := by
  unfold rowsT
  simp [List.getD, h]
theorem drop_boxes {ks : List Nat} {s J T : Nat} (h : J < T) : ((List.range T).map fun i => PV.str (lt (bx ks s i))).drop (((List.range T).map fun i => PV.str (lt (bx ks s i))).length - (T - J)) = ((cyc ks s J T).map lt).map PV.str := by
  unfold cyc
  rw [List.length_map, List.length_range, show T - (T - J) = J by lia, List.map_map, List.map_map]
  apply List.ext_getElem
  · simp
  · intro i h1 h2
    simp
theorem ltS {x : Nat} (h : x < 5) : (⟨#[97 + x]⟩ : Str) = lt x := by
  unfold lt
  rw [if_pos h]
theorem Lp_small {ks : List Nat} {s J T : Nat} : ∀ x ∈ Lp ks s J T, ∀ c ∈ cp x, c < 200 := by
  intro x hx
  obtain ⟨y, hy, rfl⟩ := List.mem_map.1 ((sortF_perm _).mem_iff.1 hx)
  exact lt_small y (by have := cyc_lt hy; lia)
theorem cyc_len {ks : List Nat} {s J T : Nat} : (cyc ks s J T).length = T - J := by simp [cyc]
structure LawSt (ks : List Nat) (w : Nat → Nat × Nat) (H₀ : List PO) (li mi fi : Nat) (F : PO) (n wt wl gi : Nat) (j : Nat) (σ : PS) : Prop where
  inv : LawInv ks w H₀ li mi fi F j σ.H
  ways : σ.loc.lookup "ways" = some (.ref wt)
  words : σ.loc.lookup "words" = some (.ref wl)
  goals : σ.loc.lookup "goals" = some (.ref gi)
  turns : σ.loc.lookup "turns" = some (natP n)
  loops : σ.loc.lookup "loops" = some (.ref li)
  mails : σ.loc.lookup "mails" = some (.ref mi)
  far : σ.loc.lookup "far" = some (.ref fi)
  sign : σ.loc.lookup "sign" = some (natP (n % 33))
theorem len_ne {H : List PO} {o : PO} {i : Nat} (h : i < H.length) : (H ++ [o]).length ≠ i := by
  rw [List.length_append]
  simp only [List.length_cons, List.length_nil]
  lia
theorem nxRange5 (j : Nat) (X : List PO) : nxRange 0 5 j X = some (if j < 5 then some (natP j) else none) := by
  unfold nxRange natP
  by_cases h : j < 5
  · rw [if_pos h, if_pos (by lia), Int.zero_add]
  · rw [if_neg h, if_neg (by lia)]
end

section
open PySem PySem.W PyProof.Rows PySem.Spec PySem.SeqAt PySem.Calls
set_option autoImplicit false
set_option linter.unusedVariables false
set_option linter.unusedSectionVars false
set_option maxRecDepth 100000
set_option maxHeartbeats 4000000
set_option tactic.hygienic false
section
variable {W : Wd} {P : Params} (hK : W.K = hd.heap_1 P) (hC : W.C = 184) (hCl : ClsOk W) (hP : PatsOk W PT)
include hK hC hCl hP
theorem d_law {spA spB spC spD spE spF : FSpec} {ad : Addr} {zs : List Int} (hL : ListAt W ad (zs.map .int)) (hz : zs.length ≤ 1000) (hways : FHolds W 6 (.ref 210) spA) (hmailed : FHolds W 7 (.ref 222) spB) (href : FHolds W 5 (.ref 229) spC) (htold : FHolds W 2 (.ref 236) spD) (hfar : FHolds W 2 (.ref 241) spE) (hjoined : FHolds W 2 (.ref 246) spF)
    (lA : WaysLaw spA) (lB : MailedLaw spB) (lC : RefusedLaw spC) (lD : ToldLaw spD) (lE : FarLaw spE) (lF : JoinedLaw spF)
    {A : Around} (hdep : A.depth + 2 * (8 + 1) + 2 < recursionLimit) (hun : A.units + 100 * (8 + 1) + 100 < cLine) (hha : A.handled = none) (hfr : A.frames = some [])
    {s : Shared} (hs : s.heap = W.h₀) {R : Result → Shared → Prop}
    (h : ∀ h' tk, Keeps W.h₀ h' → R (.ok (.ret (.bool true))) { s with heap := h', toks := tk }) : codeAny (model W.prog W.w) A (.call (.ref 251) ⟨[.ref ad], []⟩) R s := by
  refine' c_top2 (d := 8) (fd := ?fd) (body := ?body) (n := "script") (p := ?p) ?D ?loc ?B (fun L => ?S) hdep hun hha hfr hs ?hrun h
  case D => (refine ⟨⟨?_, ?h1, ?h2⟩, ?h3, ?h4, ?h5, ?h6, ?h7, ?h8, ?h9, ?h10, ?h11, ?h12, ?h13⟩; (case h1 => rw [‹Wd.K _ = hd.heap_1 _›]; rfl); (case h2 => rfl); (case h3 => rfl); (case h4 => rw [‹Wd.K _ = hd.heap_1 _›]; rfl); (case h5 => rfl); (case h6 => rfl); (case h7 => rfl); (case h8 => rfl); (case h9 => rfl); (case h10 => rfl); (case h11 => exact names_ok (by decide +kernel)); (case h12 => decide +kernel); (case h13 => decide +kernel))
  case S => 
    refine' sb_as ?hT ?hE
    case hT => exact (b_cons (st_assign (s_cut (s_add (s_comp0 (100) rfl (si_list (s_cutg hL (e_name (by decide +kernel) (by decide +kernel)) sp_none (sp_some e_int) sp_none)) (a_name (.inl rfl)) tests_nil (s_mod (b_int rfl (by rw [hK]; rfl) (ss_cons (e_name (by decide +kernel) (by decide +kernel)) ss_nil rfl) rfl) (s_pow e_int e_int)) (fun C => (a_name (.inl rfl))) (fun C => tests_nil) (fun C => (s_mod (b_int rfl (by rw [hK]; rfl) (ss_cons (e_name (by decide +kernel) (by decide +kernel)) ss_nil rfl) rfl) (s_pow e_int e_int))) (fun _ => rfl) (by decide +kernel) rfl (by decide +kernel) ⟨.nil, by decide +kernel⟩) (s_list (ss_cons e_int (ss_cons e_int (ss_cons e_int (ss_cons e_int (ss_cons e_int (ss_cons e_int ss_nil rfl) rfl) rfl) rfl) rfl) rfl))) sp_none (sp_some e_int) sp_none) (a_name (.inl rfl)) rfl rfl rfl) (b_cons (st_assign (s_kcall (f_more hways (by decide)) rfl (by rw [hK]; rfl) (by rw [hK]; rfl) (sa_pos (ss_cons (e_name (by decide +kernel) (by decide +kernel)) ss_nil rfl) rfl) (by decide +kernel) (fun _ => rfl)) (a_tuple (.cons (a_name (.inl rfl)) (.cons (a_name (.inr ⟨rfl, _, rfl⟩)) .nil)) rfl) rfl rfl rfl) (b_cons (st_assign (s_comp0 (100) rfl (si_list (e_name (by decide +kernel) (by decide +kernel))) (a_name (.inl rfl)) tests_nil (m_index e_str (ss_cons (m_lower (e_name (by decide +kernel) (by decide +kernel)) ss_nil rfl (fun _ => rfl) rfl rfl) ss_nil rfl) rfl (fun _ => rfl) rfl rfl) (fun C => (a_name (.inl rfl))) (fun C => tests_nil) (fun C => (m_index e_str (ss_cons (m_lower (e_name (by decide +kernel) (by decide +kernel)) ss_nil rfl (fun _ => rfl) rfl rfl) ss_nil rfl) rfl (fun _ => rfl) rfl rfl)) (fun _ => rfl) (by decide +kernel) rfl (by decide +kernel) ⟨.nil, by decide +kernel⟩) (a_name (.inr ⟨rfl, _, rfl⟩)) rfl rfl rfl) (b_cons (st_assign (s_tuple (ss_cons (b_sum rfl (by rw [hK]; rfl) (ss_cons (e_name (by decide +kernel) (by decide +kernel)) ss_nil rfl) rfl) (ss_cons (s_list ss_nil) (ss_cons (s_list ss_nil) ss_nil rfl) rfl) rfl)) (a_tuple (.cons (a_name (.inl rfl)) (.cons (a_name (.inr ⟨rfl, _, rfl⟩)) (.cons (a_name (.inl rfl)) .nil))) rfl) rfl rfl rfl) (b_cons (st_swap2 rfl rfl (s_tuple (ss_cons (s_kcall (f_more hfar (by decide)) rfl (by rw [hK]; rfl) (by rw [hK]; rfl) (sa_pos (ss_cons (e_name (by decide +kernel) (by decide +kernel)) (ss_cons (e_name (by decide +kernel) (by decide +kernel)) ss_nil rfl) rfl) rfl) (by decide +kernel) (fun _ => rfl)) (ss_cons (s_mod (e_name (by decide +kernel) (by decide +kernel)) e_int) ss_nil rfl) rfl)) (.inl rfl) (.inl rfl)) (b_cons (st_for (100) (si_range rfl (by rw [hK]; rfl) (ss_cons e_int ss_nil rfl) rfl) (a_name (.inl rfl)) (b_cons (st_assign (s_kcall (f_more hmailed (by decide)) rfl (by rw [hK]; rfl) (by rw [hK]; rfl) (sa_pos (ss_cons (e_name (by decide +kernel) (by decide +kernel)) (ss_cons (s_item e_str (e_name (by decide +kernel) (by decide +kernel)) (fun _ => (fun _ => rfl))) ss_nil rfl) rfl) rfl) (by decide +kernel) (fun _ => rfl)) (a_tuple (.cons (a_name (.inl rfl)) (.cons (a_name (.inl rfl)) .nil)) rfl) rfl rfl rfl) (b_cons (st_if (t_not (t_plain (e_name (by decide +kernel) (by decide +kernel)) rfl)) (b_one (st_ret e_bool)) b_nil) (b_cons (st_compS (100) rfl rfl (si_list (s_cut (m_split (e_name (by decide +kernel) (by decide +kernel)) (ss_cons e_str ss_nil rfl) rfl (fun _ => rfl) rfl rfl) sp_none (sp_some (s_neg e_int)) sp_none)) (a_name (.inl rfl)) tests_nil (m_lower (s_item (m_strip (e_name (by decide +kernel) (by decide +kernel)) (ss_cons e_str ss_nil rfl) rfl (fun _ => rfl) rfl rfl) e_int (fun _ => (fun _ => rfl))) ss_nil rfl (fun _ => rfl) rfl rfl) (fun C => (a_name (.inl rfl))) (fun C => tests_nil) (fun C => (m_lower (s_item (m_strip (e_name (by decide +kernel) (by decide +kernel)) (ss_cons e_str ss_nil rfl) rfl (fun _ => rfl) rfl rfl) e_int (fun _ => (fun _ => rfl))) ss_nil rfl (fun _ => rfl) rfl rfl)) (fun _ => rfl) (by decide +kernel) rfl (by decide +kernel) ⟨.nil, by decide +kernel⟩ (.inl rfl)) (b_cons (st_assign (e_name (by decide +kernel) (by decide +kernel)) (a_name (.inl rfl)) rfl rfl rfl) (b_cons (st_if (t_ge (e_name (by decide +kernel) (by decide +kernel)) (b_len rfl (by rw [hK]; rfl) (ss_cons (e_name (by decide +kernel) (by decide +kernel)) ss_nil rfl) rfl) rfl) (b_one (st_assign (s_add (s_sub (b_len rfl (by rw [hK]; rfl) (ss_cons (e_name (by decide +kernel) (by decide +kernel)) ss_nil rfl) rfl) (e_name (by decide +kernel) (by decide +kernel))) (s_mod (s_sub (e_name (by decide +kernel) (by decide +kernel)) (b_len rfl (by rw [hK]; rfl) (ss_cons (e_name (by decide +kernel) (by decide +kernel)) ss_nil rfl) rfl)) (e_name (by decide +kernel) (by decide +kernel)))) (a_name (.inl rfl)) rfl rfl rfl)) b_nil) (b_cons (st_if (t_ne (s_item (e_name (by decide +kernel) (by decide +kernel)) (e_name (by decide +kernel) (by decide +kernel)) (fun _ => (fun _ => rfl))) (s_item e_str (s_item (e_name (by decide +kernel) (by decide +kernel)) (e_name (by decide +kernel) (by decide +kernel)) (fun _ => (fun _ => rfl))) (fun _ => (fun _ => rfl))) rfl) (b_one (st_ret e_bool)) b_nil) (b_cons (st_expr (ml_append (e_name (by decide +kernel) (by decide +kernel)) (ss_cons (b_sorted rfl (by rw [hK]; rfl) (ss_cons (s_cut (e_name (by decide +kernel) (by decide +kernel)) (sp_some (s_neg (e_name (by decide +kernel) (by decide +kernel)))) sp_none sp_none) ss_nil rfl) rfl) ss_nil rfl) rfl (fun _ => rfl) rfl rfl) rfl rfl) (b_one (st_expr (ml_append (e_name (by decide +kernel) (by decide +kernel)) (ss_cons (s_tuple (ss_cons (e_name (by decide +kernel) (by decide +kernel)) (ss_cons (e_name (by decide +kernel) (by decide +kernel)) ss_nil rfl) rfl)) ss_nil rfl) rfl (fun _ => rfl) rfl rfl) rfl rfl))))))))) (fun _ => rfl)) (b_cons (st_if (t_ne (s_compK0 (100) rfl (fun _ => rfl) (si_list (e_name (by decide +kernel) (by decide +kernel))) (a_name (.inr ⟨rfl, _, rfl⟩)) tests_nil (s_comp0 (100) rfl (si_list (e_name (by decide +kernel) (by decide +kernel))) (a_name (.inl rfl)) tests_nil (s_eq (e_name (by decide +kernel) (by decide +kernel)) (e_name (by decide +kernel) (by decide +kernel)) rfl) (fun C => (a_name (.inl rfl))) (fun C => tests_nil) (fun C => (s_eq (e_name (by decide +kernel) (by decide +kernel)) (e_name (by decide +kernel) (by decide +kernel)) rfl)) (fun _ => rfl) (by decide +kernel) rfl (by decide +kernel) ⟨(.cons ⟨rfl, rfl, rfl, .inl rfl⟩ .nil), by decide +kernel⟩) (fun C => (a_name (.inr ⟨rfl, _, rfl⟩))) (fun C => tests_nil) (fun C => (s_comp0 (100) rfl (si_list (e_name (by decide +kernel) (by decide +kernel))) (a_name (.inl rfl)) tests_nil (s_eq (e_name (by decide +kernel) (by decide +kernel)) (e_name (by decide +kernel) (by decide +kernel)) rfl) (fun C => (a_name (.inl rfl))) (fun C => tests_nil) (fun C => (s_eq (e_name (by decide +kernel) (by decide +kernel)) (e_name (by decide +kernel) (by decide +kernel)) rfl)) (fun _ => rfl) (by decide +kernel) rfl (by decide +kernel) ⟨(.cons ⟨rfl, rfl, rfl, .inl rfl⟩ .nil), by decide +kernel⟩)) (fun _ => rfl) (fun _ => rfl) rfl (by decide +kernel) ⟨(.cons ⟨rfl, rfl, rfl, .inl rfl⟩ .nil), by decide +kernel⟩ (by decide +kernel)) (s_kcall (f_more hjoined (by decide)) rfl (by rw [hK]; rfl) (by rw [hK]; rfl) (sa_pos (ss_cons (e_name (by decide +kernel) (by decide +kernel)) ss_nil rfl) rfl) (by decide +kernel) (fun _ => rfl)) rfl) (b_one (st_ret e_bool)) b_nil) (b_cons (st_if (t_not (t_plain (s_kcall (f_more href (by decide)) rfl (by rw [hK]; rfl) (by rw [hK]; rfl) (sa_pos (ss_cons (e_name (by decide +kernel) (by decide +kernel)) (ss_cons (s_add (s_item e_str (s_mod (e_name (by decide +kernel) (by decide +kernel)) e_int) (fun _ => (fun _ => rfl))) (b_chr rfl (by rw [hK]; rfl) (ss_cons (s_add (e_name (by decide +kernel) (by decide +kernel)) (s_mul (s_div (e_name (by decide +kernel) (by decide +kernel)) e_int) e_int)) ss_nil rfl) rfl)) ss_nil rfl) rfl) rfl) (by decide +kernel) (fun _ => rfl)) rfl)) (b_one (st_ret e_bool)) b_nil) (b_one (st_ret (s_eq (e_name (by decide +kernel) (by decide +kernel)) (s_comp0 (100) rfl (si_range rfl (by rw [hK]; rfl) (ss_cons e_int ss_nil rfl) rfl) (a_name (.inl rfl)) tests_nil (s_kcall (f_more htold (by decide)) rfl (by rw [hK]; rfl) (by rw [hK]; rfl) (sa_pos (ss_cons (e_name (by decide +kernel) (by decide +kernel)) (ss_cons (e_name (by decide +kernel) (by decide +kernel)) (ss_cons (e_name (by decide +kernel) (by decide +kernel)) ss_nil rfl) rfl) rfl) rfl) (by decide +kernel) (fun _ => rfl)) (fun C => (a_name (.inl rfl))) (fun C => tests_nil) (fun C => (s_kcall (f_more htold (by decide)) rfl (by rw [hK]; rfl) (by rw [hK]; rfl) (sa_pos (ss_cons (e_name (by decide +kernel) (by decide +kernel)) (ss_cons (e_name (by decide +kernel) (by decide +kernel)) (ss_cons (e_name (by decide +kernel) (by decide +kernel)) ss_nil rfl) rfl) rfl) rfl) (by decide +kernel) (fun _ => rfl))) (fun _ => rfl) (by decide +kernel) rfl (by decide +kernel) ⟨(.cons ⟨rfl, rfl, rfl, .inl rfl⟩ (.cons ⟨rfl, rfl, rfl, .inl rfl⟩ .nil)), by decide +kernel⟩) rfl)))))))))))
    case hE => exact rfl
  case loc => rfl
  case B => exact fun _ => by with_unfolding_all rfl
  case hrun =>
    clear h hs hfr hha hun hdep hjoined hfar htold href hmailed hways hL hP hCl hC hK
    have hsl := sizeLine_eq
    have hzl : (zs.map PV.int).length ≤ sizeLine := by rw [List.length_map, hsl]; exact Nat.le_trans hz (by decide)
    clear hz
    obtain ⟨cs, hcs⟩ : ∃ cs, cs = ((zs.take 6).map fz ++ [6, 12, 1, 18, 5, 69]).take 6 := ⟨_, rfl⟩
    have hc6 : cs.length = 6 := by rw [hcs]; exact mul_cells zs
    have hcl : ∀ c ∈ cs, c < 1000000 := by rw [hcs]; exact cells_lt zs
    refine PW.fspecE (pb := pbOf (pb0 ["script"])) (l := [("script", .glob ad)]) (H₁ := []) (R := fun v _ => v = .bool true) rfl ?_
    refine PW.seq ?_
    refine PW.mono (Q := fun f σ' => f = .next ∧ ∃ c, σ'.loc.lookup "cells" = some (.ref c) ∧ σ'.H[c]? = some (.list (cs.map natP))) ?s1 ?s2
    case s1 =>
      walk_at "p"
      refine PW.compPre (PW.bind (PW.noexc ?_))
      walk_at "p"
      refine PW.cutgN (n := 6) hzl ?_
      refine PW.plist (by rw [List.getElem?_append_right (Nat.le_refl _), Nat.sub_self]; rfl) (PW.pure ?_)
      rw [← List.map_take]
      refine PW.mapL (l := (zs.take 6).map PV.int) (fun p => match p with | .int z => natP (fz z) | p => p) (fun _ => True) (PW.pure ⟨rfl, rfl⟩) (by simp) (by rw [List.length_map, List.length_take]; lia) trivial ?wstep ?wfin
      case wstep =>
        intro x τ hx _ _
        obtain ⟨z, _, rfl⟩ := List.mem_map.1 hx
        walk_at "p"
        refine PW.intI ?_
        walk_at "p"
        refine PW.pow106 ?_
        refine PW.modZ ?_
        exact ⟨rfl, trivial, rfl⟩
      case wfin =>
        intro loc' _
        refine ⟨[("script", .glob ad)], rfl, ?_⟩
        walk_at "p"
        have eW : (List.map PV.int (zs.take 6)).map (fun p => match p with | PV.int z => natP (fz z) | p => p) = ((zs.take 6).map fz).map natP := by
          rw [List.map_map, List.map_map]; exact List.map_congr_left fun x _ => rfl
        rw [eW]
        refine PW.guard (by rw [hsl]; decide) ?_
        walk_at "p"
        refine PW.addL (l := ((zs.take 6).map fz).map natP) (k := [6, 12, 1, 18, 5, 69].map natP) (get_app (by rw [List.getElem?_append_right (Nat.le_refl _), Nat.sub_self]; rfl)) (by rw [List.getElem?_append_right (Nat.le_refl _), Nat.sub_self]; rfl) (by rw [hsl, List.length_map, List.length_map, List.length_map, List.length_take]; simp only [List.length_cons, List.length_nil]; lia) ?_
        walk_at "p"
        refine PW.cutN (n := 6) (by rw [List.getElem?_append_right (Nat.le_refl _), Nat.sub_self]; rfl) (by rw [hsl, List.length_append, List.length_map, List.length_map, List.length_map, List.length_take]; simp only [List.length_cons, List.length_nil]; lia) (by rw [List.length_append, List.length_map, List.length_map, List.length_map, List.length_take]; simp only [List.length_cons, List.length_nil]; lia) ?_
        walk_at "p"
        refine ⟨rfl, _, lset_self, ?_⟩
        rw [List.getElem?_append_right (Nat.le_refl _), Nat.sub_self, hcs, ← List.map_append, ← List.map_take]; rfl
    case s2 =>
      rintro f σ ⟨rfl, ci, l1, e1⟩
      dsimp only
      clear hzl hcs
      walk_at "p"
      obtain ⟨wt, wl, X, hX, l, rows, ks, wo, hwl⟩ := lA σ.H ci cs e1 hc6 hcl
      refine PW.call hX ?_
      walk_at "p"
      refine PW.guard rfl ?_
      walk_at "p"
      have hl5 : ks.length = 5 := wo.2.2.2.1
      have hk10 : ∀ k ∈ ks, k < 10 := wo.2.2.2.2
      refine PW.mapG 5 (fun j => (ks.map fun k => PV.str (lt k)).getD j .none) (fun j => natP (ks.getD j 0 % 5)) (fun _ => True) ?gp (by decide) trivial ?gstep ?gfin
      case gp =>
        walk_at "p"
        refine PW.nxL hwl ⟨rfl, fun j L => ?_⟩
        have := nxListG hwl j [.list L]
        rw [this, List.length_map, hl5]
      case gstep =>
        intro j τ hj _ hH
        have hkj : ks.getD j 0 < 10 := getD_lt hk10 (by lia)
        rw [getD_mapV (d := 0) (by lia)]
        walk_at "p"
        refine PW.lower (by rw [lt_len]; decide) ?_
        rw [lower_lt _ hkj]
        walk_at "p"
        refine PW.idx (index_lt _ hkj) ?_
        exact ⟨rfl, trivial, rfl⟩
      case gfin =>
        intro loc' _
        refine ⟨_, rfl, ?_⟩
        rw [goals_list hl5]
        walk_at "p"
        have hsum : cs.sum < 2 ^ 60 := by
          have := sum_le (l := cs) (b := 1000000) fun x hx => Nat.le_of_lt (hcl x hx)
          rw [hc6] at this
          exact Nat.lt_of_le_of_lt this (by decide)
        obtain ⟨H1, hH1⟩ : ∃ H1, H1 = σ.H ++ X ++ [PO.list (((ks.map (· % 5)).map natP))] := ⟨_, rfl⟩
        have hgi : H1[(σ.H ++ X).length]? = some (.list ((ks.map (· % 5)).map natP)) := by rw [hH1, List.getElem?_append_right (Nat.le_refl _), Nat.sub_self]; rfl
        have hci : H1[ci]? = some (.list (cs.map natP)) := by rw [hH1]; exact get_app (get_app e1)
        have hw1 : H1[wl]? = some (.list (ks.map fun k => PV.str (lt k))) := by rw [hH1]; exact get_app hwl
        have wo1 : WaysOk H1 wt l rows ks := by rw [hH1]; exact wo.app
        rw [← hH1]
        generalize (σ.H ++ X).length = gi at hgi ⊢
        clear hH1 hX wo hwl
        refine PW.sumN hci ?_
        clear hci e1 hcl hc6
        generalize cs.sum = n at hsum ⊢
        walk_at "p"
        refine PW.guard (Nat.zero_le _) ?_
        walk_at "p"
        refine PW.guard (Nat.zero_le _) ?_
        walk_at "p"
        refine PW.guard ⟨by rw [hsl]; simp, rfl⟩ ?_
        walk_at "p"
        refine PW.guard rfl (PW.put3 ?_)
        walk_at "p"
        have hli : (H1 ++ [PO.list []] ++ [PO.list []])[H1.length]? = some (.list []) := get_app (by rw [List.getElem?_append_right (Nat.le_refl _), Nat.sub_self]; rfl)
        have hmi : (H1 ++ [PO.list []] ++ [PO.list []])[(H1 ++ [PO.list []]).length]? = some (.list []) := by rw [List.getElem?_append_right (Nat.le_refl _), Nat.sub_self]; rfl
        have hlm : H1.length ≠ (H1 ++ [PO.list []]).length := by simp
        have hml : H1.length ≤ (H1 ++ [PO.list []]).length := by simp
        have hex : ∀ (x : Nat) (o : PO), H1[x]? = some o → (H1 ++ [PO.list []] ++ [PO.list []])[x]? = some o := fun x o e => get_app (get_app e)
        generalize (H1 ++ [PO.list []]).length = mi at hmi hlm hml ⊢
        generalize H1 ++ [PO.list []] ++ [PO.list []] = H2 at hli hmi hex ⊢
        obtain ⟨fi, X2, hX2, hfi⟩ := lE H2 gi (ks.map (· % 5)) n (hex _ _ hgi) (gs_len hl5) (gs_lt hl5) hsum
        refine PW.call hX2 ?_
        walk_at "p"
        refine PW.modN (m := 33) (by decide) ?_
        walk_at "p"
        refine PW.guard ⟨by rw [hsl]; simp, rfl⟩ ?_
        walk_at "p"
        refine PW.swap2 ?_
        walk_at "p"
        have hli := get_app (X := X2) hli
        have hmi := get_app (X := X2) hmi
        have hex : ∀ (x : Nat) (o : PO), H1[x]? = some o → (H2 ++ X2)[x]? = some o := fun x o e => get_app (hex x o e)
        have hfl : fi ≠ H1.length := fun e => by rw [e, hli] at hfi; cases hfi
        have hfm : fi ≠ mi := fun e => by rw [e, hmi] at hfi; cases hfi
        generalize H2 ++ X2 = H3 at hli hmi hex hfi ⊢
        clear hX2 hsum
        obtain ⟨w, hw⟩ : ∃ w : Nat → Nat × Nat, ∀ s, Walk ks s (w s).1 (w s).2 := ⟨fun s => Classical.choose (walk_ex ks s), fun s => Classical.choose_spec (walk_ex ks s)⟩
        obtain ⟨F, hF⟩ : ∃ F : PO, F = (.list ((List.range 5).map fun b => natP (itN (fun x => (ks.map (· % 5)).getD x 0) n b))) := ⟨_, rfl⟩
        rw [← hF] at hfi
        refine PW.nxR (by decide) ?_
        refine PW.mono (PW.forRange (Q := fun f τ => f = .next ∧ LawSt ks w H1 H1.length mi fi F n wt wl gi 5 τ)
          (fun j τ => j ≤ 5 ∧ LawSt ks w H1 H1.length mi fi F n wt wl gi j τ) ?step ?fin 100 0 _ (by decide) (by decide) ?h0) ?rest
        case h0 => exact ⟨Nat.zero_le _, ⟨hex, hfi, ⟨[], hli, rfl, fun i hi => absurd hi (Nat.not_lt_zero i)⟩, hmi⟩, by walk_at "lk", by walk_at "lk", by walk_at "lk", by walk_at "lk", by walk_at "lk", by walk_at "lk", by walk_at "lk", by walk_at "lk"⟩
        case fin =>
          rintro j τ hj ⟨h5, h⟩
          have : j = 5 := by lia
          subst this
          exact ⟨rfl, h⟩
        case step =>
          rintro j τ hj ⟨h5, inv, v1, v2, v3, v4, v5, v6, v7, v8⟩
          have hj5 : j < 5 := by lia
          clear hj h5 l1 lA lC lD lE lF hli hmi hex hfi
          rw [show (PV.int (0 + (j : Int))) = natP j by simp [natP]]
          refine PW.put (PW.mono (Q := fun f τ' => f = .next ∧ LawSt ks w H1 H1.length mi fi F n wt wl gi (j + 1) τ') ?_ fun f τ' => ?fl)
          case fl =>
            rintro ⟨rfl, st⟩
            exact ⟨hj5, st⟩
          walk_at "p"
          refine PW.itemS (k := ((j : Nat) : Int)) (abcde_at j hj5) (by lia) ?_
          rw [ltS hj5]
          walk_at "p"
          obtain ⟨X3, hX3⟩ := lB τ.H wt l rows ks j (w j).1 (w j).2 (wo1.ext inv.ext) hj5 (hw j)
          refine PW.call hX3 ?_
          walk_at "p"
          refine PW.guard rfl ?_
          walk_at "p"
          have hT5 := (hw j).le
          have hJT := (hw j).lt
          refine PW.not ?_
          walk_at "p"
          refine PW.truthN ?_
          rw [nbeq (show (w j).2 - (w j).1 ≠ 0 by lia)]
          walk_at "p"
          have hx : itN (fun x => (ks.map (· % 5)).getD x 0) n j = bx ks j n := by
            have := itN_bx (s := j) hl5 n 0
            rw [bx_zero hj5, Nat.zero_add] at this
            exact this
          have hm := hw j
          have hbox : ∃ pl, pl < (w j).2 ∧ bx ks j n = bx ks j pl ∧ ((¬ (w j).2 ≤ n ∧ pl = n) ∨ ((w j).2 ≤ n ∧ pl = (w j).2 - ((w j).2 - (w j).1) + (n - (w j).2) % ((w j).2 - (w j).1))) := by
            by_cases c : (w j).2 ≤ n
            · exact ⟨_, hm.far_lt, hm.far hl5 c, .inr ⟨c, rfl⟩⟩
            · exact ⟨n, by lia, rfl, .inl ⟨c, rfl⟩⟩
          obtain ⟨pl, hpl, hbx, hpc⟩ := hbox
          have inv := inv.app (X := X3)
          generalize τ.H ++ X3 = H4 at inv ⊢
          clear hX3 lB
          refine PW.compPre (PW.bind (PW.noexc ?_))
          walk_at "p"
          refine PW.splitText (rows_fine hl5 hk10 hj5 (by lia)) ?_
          walk_at "p"
          refine PW.negN (n := 2) ?_
          walk_at "p"
          refine PW.cutL (by rw [List.getElem?_append_right (Nat.le_refl _), Nat.sub_self]; rfl) (by rw [hsl, List.length_map, List.length_append, List.length_map]; unfold rowsT; rw [List.length_map, List.length_range]; simp only [List.length_cons, List.length_nil]; lia) (by rw [List.length_map, List.length_append]; simp) ?_
          rw [take_lines]
          dsimp only
          have hln : (H4 ++ [PO.list (((rowsT ks j (w j).2).map lineOf ++ [ofl [], ofl []]).map PV.str)] ++ [PO.list (((rowsT ks j (w j).2).map lineOf).map PV.str)])[(H4 ++ [PO.list (((rowsT ks j (w j).2).map lineOf ++ [ofl [], ofl []]).map PV.str)]).length]? = some (.list (((rowsT ks j (w j).2).map lineOf).map PV.str)) := by
            rw [List.getElem?_append_right (Nat.le_refl _), Nat.sub_self]; rfl
          have inv := (inv.app (X := [PO.list (((rowsT ks j (w j).2).map lineOf ++ [ofl [], ofl []]).map PV.str)])).app (X := [PO.list (((rowsT ks j (w j).2).map lineOf).map PV.str)])
          generalize (H4 ++ [PO.list (((rowsT ks j (w j).2).map lineOf ++ [ofl [], ofl []]).map PV.str)]).length = k5 at hln ⊢
          generalize H4 ++ [PO.list (((rowsT ks j (w j).2).map lineOf ++ [ofl [], ofl []]).map PV.str)] ++ [PO.list (((rowsT ks j (w j).2).map lineOf).map PV.str)] = H5 at inv hln ⊢
          refine PW.plist hln (PW.pure ?_)
          have hll : (((rowsT ks j (w j).2).map lineOf).map PV.str).length = (w j).2 := by
            unfold rowsT; rw [List.length_map, List.length_map, List.length_map, List.length_range]
          refine PW.mapG (w j).2 (fun i => (((rowsT ks j (w j).2).map lineOf).map PV.str).getD i .none) (fun i => .str (lt (bx ks j i))) (fun _ => True) (PW.pure ⟨rfl, fun i L => ?bnx⟩) (by lia) trivial ?bstep ?bfin
          case bnx =>
            have := nxListG hln i [.list L]
            rw [hll] at this
            exact this
          case bstep =>
            intro i τ2 hi _ _
            rw [line_at hi]
            obtain ⟨b1, b2⟩ := line_box ((w j).2 + 1 - i) (by lia) (nmC ks j i) (nmC_lt hl5 hk10 hj5 i) (nmC ks j (i + 1)) (nmC_lt hl5 hk10 hj5 _)
            walk_at "p"
            refine PW.strip (Nat.le_trans b2 (by rw [hsl]; decide)) ?_
            walk_at "p"
            refine PW.itemS (k := 0) b1 (by decide) ?_
            walk_at "p"
            refine PW.lower (x := lt (nmC ks j i)) (by rw [lt_len]; decide) ?_
            rw [lower_lt _ (nmC_lt hl5 hk10 hj5 i)]
            exact ⟨rfl, trivial, rfl⟩
          case bfin =>
            intro loc2 _
            refine ⟨_, rfl, ?_⟩
            dsimp only
            have hb : (H5 ++ [PO.list ((List.range (w j).2).map fun i => PV.str (lt (bx ks j i)))])[H5.length]? = some (.list ((List.range (w j).2).map fun i => PV.str (lt (bx ks j i)))) := by
              rw [List.getElem?_append_right (Nat.le_refl _), Nat.sub_self]; rfl
            have inv := inv.app (X := [PO.list ((List.range (w j).2).map fun i => PV.str (lt (bx ks j i)))])
            generalize H5.length = bi at hb ⊢
            generalize H5 ++ [PO.list ((List.range (w j).2).map fun i => PV.str (lt (bx ks j i)))] = H6 at inv hb ⊢
            have hbl : ((List.range (w j).2).map fun i => PV.str (lt (bx ks j i))).length = (w j).2 := by rw [List.length_map, List.length_range]
            clear hln hll
            walk_at "p"
            refine PW.lenL hb (by rw [hbl, hsl]; lia) ?_
            rw [hbl]
            walk_at "p"
            refine PW.geN ?_
            walk_at "p"
            have q1 : (lset "boxes" (PV.ref bi) (lset "loop" (natP ((w j).2 - (w j).1)) (lset "text" (PV.str (textOf (rowsT ks j (w j).2))) (lset "start" (natP j) τ.loc)))).lookup "boxes" = some (.ref bi) := by walk_at "lk"
            have q2 : (lset "boxes" (PV.ref bi) (lset "loop" (natP ((w j).2 - (w j).1)) (lset "text" (PV.str (textOf (rowsT ks j (w j).2))) (lset "start" (natP j) τ.loc)))).lookup "loop" = some (natP ((w j).2 - (w j).1)) := by walk_at "lk"
            have q3 : (lset "boxes" (PV.ref bi) (lset "loop" (natP ((w j).2 - (w j).1)) (lset "text" (PV.str (textOf (rowsT ks j (w j).2))) (lset "start" (natP j) τ.loc)))).lookup "text" = some (.str (textOf (rowsT ks j (w j).2))) := by walk_at "lk"
            have q4 : (lset "boxes" (PV.ref bi) (lset "loop" (natP ((w j).2 - (w j).1)) (lset "text" (PV.str (textOf (rowsT ks j (w j).2))) (lset "start" (natP j) τ.loc)))).lookup "start" = some (natP j) := by walk_at "lk"
            have p1 : (lset "boxes" (PV.ref bi) (lset "loop" (natP ((w j).2 - (w j).1)) (lset "text" (PV.str (textOf (rowsT ks j (w j).2))) (lset "start" (natP j) τ.loc)))).lookup "ways" = some (.ref wt) := by walk_at "lk"
            have p2 : (lset "boxes" (PV.ref bi) (lset "loop" (natP ((w j).2 - (w j).1)) (lset "text" (PV.str (textOf (rowsT ks j (w j).2))) (lset "start" (natP j) τ.loc)))).lookup "words" = some (.ref wl) := by walk_at "lk"
            have p3 : (lset "boxes" (PV.ref bi) (lset "loop" (natP ((w j).2 - (w j).1)) (lset "text" (PV.str (textOf (rowsT ks j (w j).2))) (lset "start" (natP j) τ.loc)))).lookup "goals" = some (.ref gi) := by walk_at "lk"
            have p4 : (lset "boxes" (PV.ref bi) (lset "loop" (natP ((w j).2 - (w j).1)) (lset "text" (PV.str (textOf (rowsT ks j (w j).2))) (lset "start" (natP j) τ.loc)))).lookup "turns" = some (natP n) := by walk_at "lk"
            have p5 : (lset "boxes" (PV.ref bi) (lset "loop" (natP ((w j).2 - (w j).1)) (lset "text" (PV.str (textOf (rowsT ks j (w j).2))) (lset "start" (natP j) τ.loc)))).lookup "loops" = some (.ref H1.length) := by walk_at "lk"
            have p6 : (lset "boxes" (PV.ref bi) (lset "loop" (natP ((w j).2 - (w j).1)) (lset "text" (PV.str (textOf (rowsT ks j (w j).2))) (lset "start" (natP j) τ.loc)))).lookup "mails" = some (.ref mi) := by walk_at "lk"
            have p7 : (lset "boxes" (PV.ref bi) (lset "loop" (natP ((w j).2 - (w j).1)) (lset "text" (PV.str (textOf (rowsT ks j (w j).2))) (lset "start" (natP j) τ.loc)))).lookup "far" = some (.ref fi) := by walk_at "lk"
            have p8 : (lset "boxes" (PV.ref bi) (lset "loop" (natP ((w j).2 - (w j).1)) (lset "text" (PV.str (textOf (rowsT ks j (w j).2))) (lset "start" (natP j) τ.loc)))).lookup "sign" = some (natP (n % 33)) := by walk_at "lk"
            generalize lset "boxes" (PV.ref bi) (lset "loop" (natP ((w j).2 - (w j).1)) (lset "text" (PV.str (textOf (rowsT ks j (w j).2))) (lset "start" (natP j) τ.loc))) = L0 at q1 q2 q3 q4 p1 p2 p3 p4 p5 p6 p7 p8 ⊢
            clear v1 v2 v3 v4 v5 v6 v7 v8
            refine PW.mono (Q := fun f τ' => f = .next ∧ τ'.H = H6 ∧ τ'.loc.lookup "place" = some (natP pl) ∧ (τ'.loc.lookup "boxes" = some (.ref bi) ∧ τ'.loc.lookup "loop" = some (natP ((w j).2 - (w j).1)) ∧ τ'.loc.lookup "text" = some (.str (textOf (rowsT ks j (w j).2))) ∧ τ'.loc.lookup "start" = some (natP j)) ∧
              τ'.loc.lookup "ways" = some (.ref wt) ∧ τ'.loc.lookup "words" = some (.ref wl) ∧ τ'.loc.lookup "goals" = some (.ref gi) ∧ τ'.loc.lookup "turns" = some (natP n) ∧ τ'.loc.lookup "loops" = some (.ref H1.length) ∧ τ'.loc.lookup "mails" = some (.ref mi) ∧ τ'.loc.lookup "far" = some (.ref fi) ∧ τ'.loc.lookup "sign" = some (natP (n % 33))) ?pl ?rest2
            case pl =>
              rcases hpc with ⟨c, rfl⟩ | ⟨c, hpe⟩
              · rw [decide_eq_false c]
                walk_at "p"
                exact ⟨rfl, rfl, lset_self, ⟨lset_ne (by decide) q1, lset_ne (by decide) q2, lset_ne (by decide) q3, lset_ne (by decide) q4⟩, lset_ne (by decide) p1, lset_ne (by decide) p2, lset_ne (by decide) p3, lset_ne (by decide) p4, lset_ne (by decide) p5, lset_ne (by decide) p6, lset_ne (by decide) p7, lset_ne (by decide) p8⟩
              · rw [decide_eq_true c]
                walk_at "p"
                refine PW.lenL hb (by rw [hbl, hsl]; lia) ?_
                rw [hbl]
                walk_at "p"
                refine PW.subN (Nat.sub_le _ _) ?_
                walk_at "p"
                refine PW.lenL hb (by rw [hbl, hsl]; lia) ?_
                rw [hbl]
                walk_at "p"
                refine PW.subN c ?_
                walk_at "p"
                refine PW.modN (Nat.ne_of_gt (Nat.sub_pos_of_lt hJT)) ?_
                refine PW.addN ?_
                rw [← hpe]
                walk_at "p"
                exact ⟨rfl, rfl, lset_self, ⟨lset_ne (by decide) (lset_ne (by decide) q1), lset_ne (by decide) (lset_ne (by decide) q2), lset_ne (by decide) (lset_ne (by decide) q3), lset_ne (by decide) (lset_ne (by decide) q4)⟩, lset_ne (by decide) (lset_ne (by decide) p1), lset_ne (by decide) (lset_ne (by decide) p2), lset_ne (by decide) (lset_ne (by decide) p3), lset_ne (by decide) (lset_ne (by decide) p4), lset_ne (by decide) (lset_ne (by decide) p5), lset_ne (by decide) (lset_ne (by decide) p6), lset_ne (by decide) (lset_ne (by decide) p7), lset_ne (by decide) (lset_ne (by decide) p8)⟩
            case rest2 =>
              clear q1 q2 q3 q4 p1 p2 p3 p4 p5 p6 p7 p8 hpc
              rintro f ⟨L1, H'⟩ ⟨rfl, hH, q0, ⟨q1, q2, q3, q4⟩, p1, p2, p3, p4, p5, p6, p7, p8⟩
              dsimp only at hH q0 q1 q2 q3 q4 p1 p2 p3 p4 p5 p6 p7 p8 ⊢
              subst hH
              have hfar : H'[fi]? = some (.list ((List.range 5).map fun b => natP (itN (fun x => (ks.map (· % 5)).getD x 0) n b))) := by rw [← hF]; exact inv.far
              walk_at "p"
              refine PW.itemN (j := pl) (p := .str (lt (bx ks j pl))) hb (by rw [List.getElem?_map, List.getElem?_range hpl]; rfl) (by lia) ?_
              walk_at "p"
              refine PW.itemN (j := j) (p := natP (bx ks j n)) hfar (by rw [List.getElem?_map, List.getElem?_range hj5]; exact congrArg (fun x => some (natP x)) hx) (by lia) ?_
              walk_at "p"
              have hb5 := bx_lt ks j n
              refine PW.itemS (k := ((bx ks j n : Nat) : Int)) (abcde_at _ hb5) (by lia) ?_
              rw [ltS hb5, hbx]
              walk_at "p"
              rw [bne_self_eq_false]
              walk_at "p"
              obtain ⟨rs, hrs, hrl, hri⟩ := inv.lp
              refine PW.plist hrs ?_
              walk_at "p"
              refine PW.negN ?_
              walk_at "p"
              refine PW.cutE hb (by rw [hbl, hsl]; lia) (by lia) (by rw [hbl]; lia) ?_
              rw [drop_boxes hJT]
              walk_at "p"
              refine PW.sorted (xs := (cyc ks j (w j).1 (w j).2).map lt) (by rw [List.getElem?_append_right (Nat.le_refl _), Nat.sub_self]; rfl) (by rw [List.length_map, cyc_len]; lia) ?_
              walk_at "p"
              have hs7 : (H' ++ [PO.list (((cyc ks j (w j).1 (w j).2).map lt).map PV.str)] ++ [PO.list ((Lp ks j (w j).1 (w j).2).map PV.str)])[(H' ++ [PO.list (((cyc ks j (w j).1 (w j).2).map lt).map PV.str)]).length]? = some (.list ((Lp ks j (w j).1 (w j).2).map PV.str)) := by
                rw [List.getElem?_append_right (Nat.le_refl _), Nat.sub_self]; rfl
              have hk1 := len_ne (o := PO.list (((cyc ks j (w j).1 (w j).2).map lt).map PV.str)) (lt_of_get hrs)
              have hk2 := len_ne (o := PO.list (((cyc ks j (w j).1 (w j).2).map lt).map PV.str)) (lt_of_get inv.ml)
              have inv := (inv.app (X := [PO.list (((cyc ks j (w j).1 (w j).2).map lt).map PV.str)])).app (X := [PO.list ((Lp ks j (w j).1 (w j).2).map PV.str)])
              have hrs := get_app (X := [PO.list ((Lp ks j (w j).1 (w j).2).map PV.str)]) (get_app (X := [PO.list (((cyc ks j (w j).1 (w j).2).map lt).map PV.str)]) hrs)
              show PW _ { loc := L1, H := H' ++ [PO.list (((cyc ks j (w j).1 (w j).2).map lt).map PV.str)] ++ [PO.list ((Lp ks j (w j).1 (w j).2).map PV.str)] } _
              generalize (H' ++ [PO.list (((cyc ks j (w j).1 (w j).2).map lt).map PV.str)]).length = k7 at hs7 hk1 hk2 ⊢
              generalize H' ++ [PO.list (((cyc ks j (w j).1 (w j).2).map lt).map PV.str)] ++ [PO.list ((Lp ks j (w j).1 (w j).2).map PV.str)] = H8 at inv hs7 hrs ⊢
              refine PW.append hrs (by rw [List.length_map, hrl, hsl]; lia) ?_
              walk_at "p"
              have hml8 : (H8.set H1.length (.list (rs.map PV.ref ++ [.ref k7])))[mi]? = _ := get_set inv.ml (Ne.symm hlm)
              refine PW.plist hml8 ?_
              walk_at "p"
              refine PW.guard ⟨by rw [hsl]; simp, rfl⟩ ?_
              walk_at "p"
              refine PW.append hml8 (by rw [List.length_map, List.length_map, List.length_range, hsl]; lia) ?_
              walk_at "p"
              exact ⟨rfl, inv.push hrs hs7 hk1 hk2 hlm (Nat.le_refl _) hml hfl hfm, p1, p2, p3, p4, p5, p6, p7, p8⟩
        case rest =>
          rintro f ⟨L1, H'⟩ ⟨rfl, inv, p1, p2, p3, p4, p5, p6, p7, p8⟩
          dsimp only at inv p1 p2 p3 p4 p5 p6 p7 p8 ⊢
          clear hli hmi hex hfi
          obtain ⟨rs, hrs, hrl, hri⟩ := inv.lp
          walk_at "p"
          refine PW.square (l := rs.map .ref) (f := fun i j => (marksN (ks.map (· % 5)) 5).getD i 0 == (marksN (ks.map (· % 5)) 5).getD j 0) p5 hrs (by rw [List.length_map, hrl]) (by decide) ?heq ?hsq
          case heq =>
            intro i j hi hj loc X
            rw [getD_mapV (d := 0) (by lia), getD_mapV (d := 0) (by lia)]
            refine PW.eqLL (get_app (hri i hi).2.2) (get_app (hri j hj).2.2) Lp_small Lp_small ⟨?_, rfl⟩
            refine congrArg PV.bool ?_
            rw [Bool.eq_iff_iff, decide_eq_true_iff, beq_iff_eq]
            exact (joined_iff hl5 hw hi hj).symm
          case hsq =>
            intro X5 k hq
            have inv := inv.app (X := X5)
            dsimp only at hq ⊢
            generalize H' ++ X5 = H9 at inv hq ⊢
            walk_at "p"
            obtain ⟨k2, X6, hX6, hq2⟩ := lF H9 gi (ks.map (· % 5)) (inv.ext _ _ hgi) (gs_len hl5) (gs_lt hl5)
            refine PW.call hX6 ?_
            walk_at "p"
            refine PW.neSq hq.app hq2 ?_
            have inv := inv.app (X := X6)
            generalize H9 ++ X6 = H9 at inv ⊢
            walk_at "p"
            refine PW.not ?_
            walk_at "p"
            have h5 := Nat.mod_lt n (show 0 < 5 by decide)
            have h33 := Nat.mod_lt n (show 0 < 33 by decide)
            obtain ⟨b1, b2⟩ := bad_name (n % 5) h5 (n % 33) h33
            refine PW.modN (m := 5) (by decide) ?_
            walk_at "p"
            refine PW.itemS (k := ((n % 5 : Nat) : Int)) (abcde_at _ h5) (by lia) ?_
            rw [ltS h5]
            walk_at "p"
            generalize n % 33 = s33 at h33 b1 b2 p8 ⊢
            refine PW.divN (m := 32) (by lia) ?_
            walk_at "p"
            refine PW.mulN (m := 95) (by lia) ?_
            walk_at "p"
            refine PW.addN ?_
            walk_at "p"
            refine PW.chr (by lia) ?_
            walk_at "p"
            refine PW.addS (by rw [lt_len, hsl]; show 1 + 1 ≤ _; lia) ?_
            walk_at "p"
            have wo9 := wo1.ext inv.ext
            refine PW.call (lC H9 wt l rows _ wo9.1 wo9.2.1 b1 b2) ?_
            walk_at "p"
            refine PW.mapA 5 (fun b => natP b) (fun b => mailP (mailOf ks w b)) (fun loc => loc.lookup "words" = some (.ref wl) ∧ loc.lookup "goals" = some (.ref gi)) ?mp (by decide) ?m0 ?mstep ?mfin
            case mp =>
              refine PW.bind (PW.noexc ?_)
              walk_at "p"
              exact PW.nxR (by decide) ⟨rfl, nxRange5⟩
            case m0 =>
              have e2 : (lset "loops" (PV.ref H1.length) L1).lookup "words" = some (.ref wl) := lset_ne (by decide) p2
              have e3 : (lset "loops" (PV.ref H1.length) L1).lookup "goals" = some (.ref gi) := lset_ne (by decide) p3
              exact ⟨by unfold pinner; simp [e2, e3], by unfold pinner; simp [e2, e3]; rfl⟩
            case mstep =>
              rintro b τ hb ⟨g2, g3⟩ ⟨X7, hX7⟩
              dsimp only at hX7 ⊢
              walk_at "p"
              have z1 : τ.H[gi]? = some (.list ((ks.map (· % 5)).map natP)) := by rw [hX7]; exact get_app (inv.ext _ _ hgi)
              have z2 : τ.H[wl]? = some (.list (ks.map fun k => PV.str (lt k))) := by rw [hX7]; exact get_app (inv.ext _ _ hw1)
              obtain ⟨X8, hX8⟩ := lD τ.H gi wl ks b (w b).1 (w b).2 z1 z2 hl5 hk10 hb (hw b)
              refine PW.call hX8 ?_
              exact ⟨rfl, ⟨lset_ne (by decide) g2, lset_ne (by decide) g3⟩, X8, rfl⟩
            case mfin =>
              rintro loc3 X7 ⟨g2, g3⟩
              refine ⟨_, by simp [pback, g2, g3]; rfl, ?_⟩
              walk_at "p"
              refine PW.eqMails (l := (List.range 5).map (mailOf ks w)) (get_app inv.ml) (by rw [List.getElem?_append_right (Nat.le_refl _), Nat.sub_self, List.map_map]; rfl) ?_ ?_
              · intro p hp c hc
                obtain ⟨b, hb, rfl⟩ := List.mem_map.1 hp
                exact text_small hl5 hk10 (List.mem_range.1 hb) (hw b).le c hc
              · walk_at "p"
                exact ⟨_, rfl, rfl⟩
end
end

section
open PySem PySem.W PyProof.Rows PySem.Spec PySem.SeqAt PySem.Calls
set_option autoImplicit false
set_option linter.unusedVariables false
set_option linter.unusedSectionVars false
set_option maxRecDepth 100000
set_option maxHeartbeats 4000000
set_option tactic.hygienic false
section
variable {W : Wd} {P : Params} (hK : W.K = hd.heap_1 P) (hC : W.C = 184) (hCl : ClsOk W) (hP : PatsOk W PT)
include hK hC hCl hP
theorem d_all {ad : Addr} {zs : List Int} (hz : zs.length ≤ 1000) (hL : ListAt W ad (zs.map PV.int))
    {A : Around} (hdep : A.depth + 2 * (8 + 1) + 2 < recursionLimit) (hun : A.units + 100 * (8 + 1) + 100 < cLine) (hha : A.handled = none) (hfr : A.frames = some [])
    {s : Shared} (hs : s.heap = W.h₀) {R : Result → Shared → Prop}
    (h : ∀ h' tk, Keeps W.h₀ h' → R (.ok (.ret (.bool true))) { s with heap := h', toks := tk }) : codeAny (model W.prog W.w) A (.call (.ref 251) ⟨[.ref ad], []⟩) R s := by
  have hconv := (d_conv hK hC hCl hP).f
  have hget := (d_get hK hC hCl hP hconv).f
  have hdel := (d_delitem hK hC hCl hP hconv).f
  have hset := (d_setitem hK hC hCl hP hconv hdel).f
  have hadd := (d_add hK hC hCl hP hconv f_none).f
  have hstr := (d_str hK hC hCl hP).f
  have hquo := (d_quoted hK hC hCl hP).f
  have hcls : CHolds W 4 (.ref W.C) (clsSpec initSpec) := c_class hCl (by rw [hK, hC]; rfl) (by rw [hK]; rfl) (d_init hK hC hCl hP hconv)
  rw [hC] at hcls
  have hsent := (d_sent hK hC hCl hP hquo hcls.f hstr).f
  obtain ⟨spA, cA, lA⟩ := d_ways hK hC hCl hP hcls.f hset hadd
  obtain ⟨spB, cB, lB⟩ := d_mailed hK hC hCl hP hcls.f hadd hget hstr hsent
  obtain ⟨spC, cC, lC⟩ := d_refused hK hC hCl hP hget
  obtain ⟨spD, cD, lD⟩ := d_told hK hC hCl hP
  obtain ⟨spE, cE, lE⟩ := d_far hK hC hCl hP
  obtain ⟨spF, cF, lF⟩ := d_joined hK hC hCl hP
  exact d_law hK hC hCl hP hL hz cA.f cB.f cC.f cD.f cE.f cF.f lA lB lC lD lE lF hdep hun hha hfr hs h
end
set_option tactic.hygienic true in
theorem ns_none_of {K : Frag} {h : Heap} {a : Addr} {mc : Str → Option Value} {n : Str} (X : K.In h) (G : h.Ns a mc) (e : nsIn K a n = some none) : mc n = none := by
  obtain ⟨o, es, ep, ho, hd, _, hf⟩ := G
  unfold nsIn at e
  split at e
  · rename_i c d es' n' sl q
    have h1 := X _ _ q
    rw [h1] at ho; cases ho; cases hd
    rw [← hf]
    unfold nsFind findBy
    split at e
    · cases e
    · rename_i hz
      rw [← Array.find?_toList, hz]; rfl
  · cases e
theorem k_pats {W : Wd} {P : Params} (hK : W.K = hd.heap_1 P) : PatsOk W PT := by
  have X := W.X
  rw [hK] at X
  exact ⟨⟨_, _, _, _, _, _, X 48 _ rfl, rfl, rfl, rfl, rfl, rfl, rfl, X _ _ rfl, rfl, by decide +kernel⟩, ⟨_, _, _, _, _, _, X 53 _ rfl, rfl, rfl, rfl, rfl, rfl, rfl, X _ _ rfl, rfl, by decide +kernel⟩, ⟨_, _, _, _, _, _, X 193 _ rfl, rfl, rfl, rfl, rfl, rfl, rfl, X _ _ rfl, rfl, by decide +kernel⟩, ⟨_, _, _, _, _, _, X 198 _ rfl, rfl, rfl, rfl, rfl, rfl, rfl, X _ _ rfl, rfl, by decide +kernel⟩⟩
theorem k_cls {W : Wd} {P : Params} (hK : W.K = hd.heap_1 P) (hC : W.C = 184) : ClsOk W := by
  refine ⟨?_, ?_, ?_, ?_, ?_⟩ <;> rw [hK, hC] <;> rfl
theorem k_ints {W : Wd} {a : Addr} {vs : List Value} {zs : List Int} (hL : W.h₀.IsList a vs.toArray) (hI : IntsAre vs zs) : ListAt W a (zs.map PV.int) := by
  refine ⟨vs, hL, ?_⟩
  clear hL
  induction hI with
  | nil => exact .nil
  | cons n t _ ih => exact .cons (fun _ _ => ⟨t, rfl⟩) ih
theorem join2 {prog : Program} {w : World} {mg mb : Str → Option Value} {s₁ : Shared} {a : Addr} {zs : List Int} {vs : List Value} (KX : (hd.heap_1 w.params).In s₁.heap) (g : s₁.heap.Ns mainGlobals mg) (b : s₁.heap.Ns builtinsNs mb)
    (bi : ∀ x : Str, x ≠ "__name__" → mb x = bootBuiltins x) (nl : s₁.heap.NoLimit) (nd : ∃ mc, s₁.heap.Ns cStatics mc ∧ mc "sys.int_max_str_digits" = none)
    (hL : s₁.heap.IsList a vs.toArray) (hI : IntsAre vs zs) (hz : zs.length ≤ 1000) {R : Result → Shared → Prop}
    (h : ∀ h' tk, Keeps s₁.heap h' → R (.ok (.ret (.bool true))) { s₁ with heap := h', toks := tk }) : codeAny (model prog w) callerA (.call (.ref 251) ⟨[.ref a], []⟩) R s₁ := by
  have nb : NoneBooked s₁.heap := by
    obtain ⟨mc, h1, _⟩ := nd
    exact ⟨mc, h1, ns_none_of KX h1 (by rfl)⟩
  let W : Wd := ⟨prog, w, hd.heap_1 w.params, s₁.heap, 184, mg, mb, KX, g, b, bi, nl, nd, nb, _, rfl, rfl, rfl, rfl⟩
  have hK : W.K = hd.heap_1 w.params := rfl
  have hC : W.C = 184 := rfl
  exact d_all (W := W) hK hC (k_cls hK hC) (k_pats hK) hz (k_ints hL hI) (by decide +kernel) (by decide +kernel) rfl rfl rfl h
end

end Mine
open PySem PySem.W PyProof.Rows
namespace Mine
set_option maxRecDepth 100000 in
set_option maxHeartbeats 8000000 in
theorem look (h : PySem.Challenge.rw_pe0180_03.row.wellSaid = true) : PySem.Challenge.rw_pe0180_03.wellSaid = true := by
  delta OpenLaw.wellSaid
  repeat' with_reducible refine look_both ?_ ?_
  · exact h
  all_goals decide +kernel
end Mine
set_option maxRecDepth 100000 in
set_option maxHeartbeats 8000000 in
theorem PySem.Challenge.cw_pe0180_03_holds : PySem.Challenge.rw_pe0180_03.Holds := by
  have H := hd (by
    k_fill
    intro w s₀ s₁ mg mb G Y fa o pm cd doc dV kV ho hd hcd hD hmg hg args vals as hpre hlay hrd hwl hlo
    have KX := kIn_of Y
    have X := (Ground.X G).1
    have V := (Ground.X G).2
    refine Ground.open G ?_
    intro T B D TE TW
    obtain ⟨_, _, M⟩ := bmod_of_top T
    have TA := at_of_top T
    wrow_args hpre hlay hrd hwl hlo
    all_goals (
      first | refine callC_kw (enter_call ?_) | refine enter_call ?_)
    have hfa : fa = 251 := by
      have e := mg_of KX (Top.g T) (n := "law") (v := .ref 251) (by rfl)
      have e2 : mg "law" = some (.ref fa) := hmg
      rw [e] at e2; cases e2; rfl
    subst hfa
    refine Mine.join2 KX (Top.g T) (Top.b T) (Top.builtins T) (Top.nolimit T) (Top.nodigits T) (by assumption) (by assumption) (by omega) fun h' tk k => ?_
    refine ⟨.inl ⟨_, .bool true, [], rfl, fun _ => rfl, .bool _, ?_, fun _ => ⟨List.nodup_nil, fun _ h => by cases h⟩⟩, .of_keep k, rfl, AllBare.of_eq hg⟩
    wrow_post)
  exact ⟨Mine.look H.1, H⟩
