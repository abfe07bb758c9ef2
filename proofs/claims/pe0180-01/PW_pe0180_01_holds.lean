import PyProof.Rows.All
import Wide.All
import OpenK.AllK
import Wide.FinOn
import KE.KOpsOwn
import KE.KFmtOwn
import PyProof.FactsBase
import PyProof.TableTree
import PyProof.FactsTree
import PyProof.PlainAttrs
import PyProof.ExcFactsAll.ValueError
import KE.KPairComp
import PyProof.StrWalks
import PyProof.EnumMake
import PyProof.Rows.FStr
import Lean
import PySem.Challenge.RW_pe0180_01
open PySem PySem.W PyProof.Rows
set_option Elab.async false
set_option maxRecDepth 100000 in
set_option maxHeartbeats 8000000 in
open_top hd for PySem.Challenge.rw_pe0180_01.row

set_option autoImplicit false
set_option linter.unusedVariables false
set_option linter.unusedSectionVars false
set_option bootstrap.genMatcherCode false
namespace Mine
set_option genInjectivity false
set_option genSizeOf false
set_option compiler.extract_closed false
section
open PySem PySem.W PyProof.Rows
set_option autoImplicit false
set_option tactic.hygienic false
inductive PV where
  | none
  | bool (b : Bool)
  | int (i : Int)
  | str (s : Str)
  | lit (s : Str)
  | typ (n : String)
  | bi (n : String)
  | glob (a : Addr)
  | ref (i : Nat)
  | tup (l : List PV)

inductive PO where
  | list (l : List PV)
  | dct (fs : List (String × PV))
  | inst (k : Nat)

inductive Res (α : Type) where
  | ok (a : α)
  | exc

structure PS where
  loc : List (String × PV)
  H : List PO

noncomputable def PM (α : Type) := PS → Option (Res α × PS)
noncomputable def PM.pure {α : Type} (a : α) : PM α := fun σ => some (.ok a, σ)
noncomputable def PM.bind {α β : Type} (p : PM α) (q : α → PM β) : PM β := fun σ => match p σ with
  | some (.ok a, σ') => q a σ'
  | some (.exc, σ') => some (.exc, σ')
  | none => none

structure Wd where
  prog : Program
  w : World
  K : Frag
  h₀ : Heap
  C : Addr
  mg : Str → Option Value
  mb : Str → Option Value
  X : K.In h₀
  g : h₀.Ns mainGlobals mg
  b : h₀.Ns builtinsNs mb
  bi : ∀ x : Str, x ≠ "__name__" → mb x = bootBuiltins x
  nolimit : h₀.NoLimit
  nodigits : ∃ mc, h₀.Ns cStatics mc ∧ mc "sys.int_max_str_digits" = none
  nobook : NoneBooked h₀
  cd : ClassData
  hcd : clsIn K C = some cd
  hasDict : cd.hasDict = true
  hga : findIn K (.ref C) "__getattribute__" = some (some (.builtin "object.__getattribute__"))
  hgk : findIn K (.ref C) "__getattr__" = some none

inductive All2 {α β : Type} (R : α → β → Prop) : List α → List β → Prop where
  | nil : All2 R [] []
  | cons {a : α} {b : β} {as : List α} {bs : List β} : R a b → All2 R as bs → All2 R (a :: as) (b :: bs)

theorem All2.mono {α β : Type} {R S : α → β → Prop} (h : ∀ a b, R a b → S a b) {as : List α} {bs : List β} (x : All2 R as bs) : All2 S as bs := by
  induction x with
  | nil => exact .nil
  | cons r _ ih => exact .cons (h _ _ r) ih
theorem All2.length {α β : Type} {R : α → β → Prop} {as : List α} {bs : List β} (x : All2 R as bs) : as.length = bs.length := by
  induction x with
  | nil => rfl
  | cons _ _ ih => simp [ih]
theorem All2.append {α β : Type} {R : α → β → Prop} {as as' : List α} {bs bs' : List β} (x : All2 R as bs) (y : All2 R as' bs') : All2 R (as ++ as') (bs ++ bs') := by
  induction x with
  | nil => exact y
  | cons r _ ih => exact .cons r ih
theorem All2.get {α β : Type} {R : α → β → Prop} {as : List α} {bs : List β} (x : All2 R as bs) : ∀ {i : Nat} {b : β}, bs[i]? = some b → ∃ a, as[i]? = some a ∧ R a b := by
  induction x with
  | nil => intro i b h; simp at h
  | cons r _ ih =>
    intro i b h
    cases i with
    | zero => simp at h; subst h; exact ⟨_, rfl, r⟩
    | succ i => simp at h; simpa using ih h
theorem All2.take {α β : Type} {R : α → β → Prop} {as : List α} {bs : List β} (x : All2 R as bs) : ∀ n, All2 R (as.take n) (bs.take n) := by
  induction x with
  | nil => intro n; simp; exact .nil
  | cons r _ ih => intro n; cases n with
    | zero => exact .nil
    | succ n => exact .cons r (ih n)
theorem All2.drop {α β : Type} {R : α → β → Prop} {as : List α} {bs : List β} (x : All2 R as bs) : ∀ n, All2 R (as.drop n) (bs.drop n) := by
  induction x with
  | nil => intro n; simp; exact .nil
  | cons r y ih => intro n; cases n with
    | zero => exact .cons r y
    | succ n => exact ih n
theorem All2.reverse {α β : Type} {R : α → β → Prop} {as : List α} {bs : List β} (x : All2 R as bs) : All2 R as.reverse bs.reverse := by
  induction x with
  | nil => exact .nil
  | cons r _ ih => simp only [List.reverse_cons]; exact ih.append (.cons r .nil)

structure Rh where
  a : List Addr
  t : Nat
noncomputable def Rh.add (ρ : Rh) (x : Addr) : Rh := ⟨ρ.a ++ [x], ρ.t⟩
noncomputable def RepA (ρ : Rh) (v : Value) : PV → Prop
  | .none => v = .none
  | .bool b => v = .bool b
  | .int i => ∃ t, v = .int i t
  | .str s => ∃ t, v = .str s t
  | .lit s => ∃ t, v = .str s t ∧ 0 < t ∧ t < ρ.t
  | .typ n => v = .type n
  | .bi n => v = .builtin n
  | .glob a => v = .ref a
  | .ref i => ∃ a, v = .ref a ∧ ρ.a[i]? = some a
  | .tup _ => False
noncomputable def RepV (h : Heap) (ρ : Rh) (v : Value) : PV → Prop
  | .tup l => ∃ a vs, v = .ref a ∧ IsTup h a vs.toArray ∧ All2 (RepA ρ) vs l
  | p => RepA ρ v p

structure DctOk (W : Wd) (a : Addr) (es : Array DictEntry) (n : Nat) (fs : List (String × PV)) : Prop where
  n : n = fs.length
  sz : es.size = fs.length
  na : a ≠ sysModules
  hash : ∀ e ∈ es, ∃ x t, e.key = .str x t ∧ e.hash = hashStr W.w x
noncomputable def RepO (W : Wd) (h : Heap) (ρ : Rh) (a : Addr) : PO → Prop
  | .list l => ∃ vs n, h.get? a = some ⟨.type "list", none, .seq (List.toArray vs) n, #[]⟩ ∧ All2 (RepV h ρ) vs l
  | .dct fs => ∃ es n m, h.get? a = some ⟨.type "dict", none, .dict es n, #[]⟩ ∧ h.Ns a m ∧ (∀ x : String, (∀ p, fs.lookup x = some p → ∃ v, m (Str.ofString x) = some v ∧ RepV h ρ v p) ∧ (fs.lookup x = none → m (Str.ofString x) = none)) ∧ DctOk W a es n fs
  | .inst k => ∃ d, ρ.a[k]? = some d ∧ h.get? a = some ⟨.ref W.C, some d, .plain, #[]⟩

structure Stb (h : Heap) (ρ : Rh) (h' : Heap) (ρ' : Rh) : Prop where
  pre : ∀ (i : Nat) (a : Addr), ρ.a[i]? = some a → ρ'.a[i]? = some a
  tup : ∀ a its, IsTup h a its → IsTup h' a its
  t : ρ.t ≤ ρ'.t
theorem Stb.refl {h : Heap} {ρ : Rh} : Stb h ρ h ρ := ⟨fun _ _ e => e, fun _ _ e => e, Nat.le_refl _⟩
theorem Stb.trans {h h' h'' : Heap} {ρ ρ' ρ'' : Rh} (x : Stb h ρ h' ρ') (y : Stb h' ρ' h'' ρ'') : Stb h ρ h'' ρ'' :=
  ⟨fun i a e => y.pre i a (x.pre i a e), fun a its e => y.tup a its (x.tup a its e), Nat.le_trans x.t y.t⟩
theorem RepA.stb {ρ ρ' : Rh} (x : ∀ (i : Nat) (a : Addr), ρ.a[i]? = some a → ρ'.a[i]? = some a) (tt : ρ.t ≤ ρ'.t) {v : Value} {p : PV} (r : RepA ρ v p) : RepA ρ' v p := by
  cases p with
  | ref i => obtain ⟨a, e, q⟩ := r; exact ⟨a, e, x i a q⟩
  | lit s => obtain ⟨t, e, h1, h2⟩ := r; exact ⟨t, e, h1, Nat.lt_of_lt_of_le h2 tt⟩
  | _ => exact r
theorem RepV.stb {h h' : Heap} {ρ ρ' : Rh} (x : Stb h ρ h' ρ') {v : Value} {p : PV} (r : RepV h ρ v p) : RepV h' ρ' v p := by
  cases p with
  | tup l => obtain ⟨a, vs, e, q, z⟩ := r; exact ⟨a, vs, e, x.tup _ _ q, z.mono fun _ _ y => RepA.stb x.pre x.t y⟩
  | ref i => exact RepA.stb x.pre x.t (p := .ref i) r
  | lit s => exact RepA.stb x.pre x.t (p := .lit s) r
  | _ => exact r

noncomputable def lset (n : String) (v : PV) : List (String × PV) → List (String × PV)
  | [] => [(n, v)]
  | (m, w) :: r => if m = n then (n, v) :: r else (m, w) :: lset n v r
theorem lset_lookup (n : String) (v : PV) : ∀ (l : List (String × PV)) (x : String), (lset n v l).lookup x = if x = n then some v else l.lookup x
  | [], x => by
    simp only [lset, List.lookup_cons, List.lookup_nil]
    by_cases h : x = n
    · subst h; simp
    · have : (x == n) = false := by simpa using h
      simp [this, h]
  | (m, w) :: r, x => by
    unfold lset
    by_cases hm : m = n
    · subst hm
      simp only [if_true, List.lookup_cons]
      by_cases h : x = m
      · subst h; simp
      · have : (x == m) = false := by simpa using h
        simp [this, h]
    · simp only [hm, if_false, List.lookup_cons, lset_lookup n v r x]
      by_cases h : x = n
      · subst h
        have : (x == m) = false := by simpa using fun e : x = m => hm e.symm
        simp [this]
      · simp [h]

noncomputable def fp (env : Env) : List Addr := env.locals :: env.cells.map (·.2)

noncomputable def NameAt (env : Env) (h : Heap) (m : Str → Option Value) (x : Str) (v : Value) : Prop :=
  (env.kindOf x = some .local ∧ m x = some v) ∨ ((env.kindOf x = some .cell ∨ env.kindOf x = some .free) ∧ ∃ c, env.cells.lookup x = some c ∧ h.IsCell c (some v))

structure Cells (W : Wd) (h : Heap) (ρ : Rh) (H : List PO) : Prop where
  base : ∀ b o, W.h₀.get? b = some o → h.get? b = some o
  len : ρ.a.length = H.length
  cell : ∀ (i : Nat) (a : Addr) (o : PO), ρ.a[i]? = some a → H[i]? = some o → RepO W h ρ a o
  nd : ∀ (i j : Nat) (a : Addr), ρ.a[i]? = some a → ρ.a[j]? = some a → i = j
  new : ∀ a ∈ ρ.a, W.h₀.get? a = none

structure EOk (env : Env) : Prop where
  kind : env.scope.kind = .function
  glob : env.globals = mainGlobals
  blt : env.builtins = builtinsNs

structure Rel (W : Wd) (env : Env) (h : Heap) (ρ : Rh) (σ : PS) : Prop where
  eok : EOk env
  cells : Cells W h ρ σ.H
  lk : ∃ m, h.Ns env.locals m ∧ ∀ n p, σ.loc.lookup n = some p → ∃ v, RepV h ρ v p ∧ NameAt env h m (Str.ofString n) v
  fpn : ∀ a ∈ fp env, W.h₀.get? a = none ∧ a ∉ ρ.a
  fpd : ∀ x ∈ env.cells, x.2 ≠ env.locals
  apart : env.cells.Pairwise fun x y => x.2 ≠ y.2
  isc : ∀ x ∈ env.cells, ∃ v, h.IsCell x.2 v

structure Ext (W : Wd) (X : List Addr) (h : Heap) (ρ : Rh) (h' : Heap) (ρ' : Rh) : Prop where
  pre : ∀ (i : Nat) (a : Addr), ρ.a[i]? = some a → ρ'.a[i]? = some a
  new : ∀ a ∈ ρ'.a, a ∈ ρ.a ∨ h.get? a = none
  there : ∀ b o, h.get? b = some o → ∃ o', h'.get? b = some o'
  kept : ∀ b o, h.get? b = some o → b ∉ ρ.a → b ∉ X → ∃ sl, h'.get? b = some { o with slots := sl } ∧ ((∃ vs, o.data = .fields vs) → sl = o.slots)
  t : ρ.t ≤ ρ'.t
theorem Ext.keep {W : Wd} {X : List Addr} {h h' : Heap} {ρ ρ' : Rh} (x : Ext W X h ρ h' ρ') : ∀ b o, h.get? b = some o → b ∉ ρ.a → b ∉ X → ∃ sl, h'.get? b = some { o with slots := sl } := fun b o e n1 n2 => by
  obtain ⟨sl, e1, _⟩ := x.kept b o e n1 n2; exact ⟨sl, e1⟩
theorem Ext.fields {W : Wd} {X : List Addr} {h h' : Heap} {ρ ρ' : Rh} (x : Ext W X h ρ h' ρ') {b : Addr} {o : Obj} {vs : Array Value} (e : h.get? b = some o) (d : o.data = .fields vs) (n1 : b ∉ ρ.a) (n2 : b ∉ X) : h'.get? b = some o := by
  obtain ⟨sl, e1, e2⟩ := x.kept b o e n1 n2; rw [e1, e2 ⟨vs, d⟩]
theorem Ext.refl {W : Wd} {X : List Addr} {h : Heap} {ρ : Rh} : Ext W X h ρ h ρ := ⟨fun _ _ e => e, fun _ e => .inl e, fun _ o e => ⟨o, e⟩, fun _ o e _ _ => ⟨o.slots, e, fun _ => rfl⟩, Nat.le_refl _⟩
theorem Ext.trans {W : Wd} {X : List Addr} {h h' h'' : Heap} {ρ ρ' ρ'' : Rh} (x : Ext W X h ρ h' ρ') (y : Ext W X h' ρ' h'' ρ'') : Ext W X h ρ h'' ρ'' := by
  refine ⟨fun i a e => y.pre i a (x.pre i a e), fun a e => ?_, fun b o e => ?_, fun b o e n1 n2 => ?_, Nat.le_trans x.t y.t⟩
  · rcases y.new a e with e | e
    · exact x.new a e
    · cases q : h.get? a with
      | none => exact .inr rfl
      | some o => obtain ⟨o', z⟩ := x.there a o q; rw [z] at e; cases e
  · obtain ⟨o', e'⟩ := x.there b o e; exact y.there b o' e'
  · obtain ⟨sl, e', f'⟩ := x.kept b o e n1 n2
    have n3 : b ∉ ρ'.a := fun q => by
      rcases x.new b q with q | q
      · exact n1 q
      · rw [e] at q; cases q
    obtain ⟨sl', e'', f''⟩ := y.kept b _ e' n3 n2
    exact ⟨sl', e'', fun z => (f'' z).trans (f' z)⟩
theorem Ext.mono {W : Wd} {X Y : List Addr} {h h' : Heap} {ρ ρ' : Rh} (x : Ext W X h ρ h' ρ') (s : ∀ a ∈ X, a ∈ Y ∨ h.get? a = none) : Ext W Y h ρ h' ρ' :=
  ⟨x.pre, x.new, x.there, fun b o e n1 n2 => x.kept b o e n1 fun q => (by
    rcases s b q with q | q
    · exact n2 q
    · rw [e] at q; cases q), x.t⟩
structure Ext0 (W : Wd) (X : List Addr) (h : Heap) (ρ : Rh) (h' : Heap) (ρ' : Rh) : Prop extends Ext W X h ρ h' ρ' where
  teq : ρ'.t = ρ.t
theorem Ext0.refl {W : Wd} {X : List Addr} {h : Heap} {ρ : Rh} : Ext0 W X h ρ h ρ := ⟨Ext.refl, rfl⟩
theorem Ext0.trans {W : Wd} {X : List Addr} {h h' h'' : Heap} {ρ ρ' ρ'' : Rh} (x : Ext0 W X h ρ h' ρ') (y : Ext0 W X h' ρ' h'' ρ'') : Ext0 W X h ρ h'' ρ'' := ⟨x.toExt.trans y.toExt, y.teq.trans x.teq⟩
theorem mem_get {α : Type} {l : List α} {a : α} (h : a ∈ l) : ∃ i : Nat, l[i]? = some a := by
  obtain ⟨i, hi, e⟩ := List.mem_iff_getElem.mp h
  exact ⟨i, by rw [List.getElem?_eq_getElem hi, e]⟩
theorem get_mem {α : Type} {l : List α} {a : α} {i : Nat} (h : l[i]? = some a) : a ∈ l := List.mem_of_getElem? h

theorem RepO.noTup {W : Wd} {h : Heap} {ρ : Rh} {a : Addr} {o : PO} (r : RepO W h ρ a o) {its : Array Value} (t : IsTup h a its) : False := by
  obtain ⟨o', e, c, n, d⟩ := t
  cases o with
  | list l => obtain ⟨vs, n, q, _⟩ := r; rw [q] at e; cases e; exact absurd (Value.type.inj c) (by decide)
  | dct fs => obtain ⟨es, n, m, q, _⟩ := r; rw [q] at e; cases e; exact absurd (Value.type.inj c) (by decide)
  | inst k => obtain ⟨d, _, q⟩ := r; rw [q] at e; cases e; cases c
theorem Cells.get {W : Wd} {h : Heap} {ρ : Rh} {H : List PO} (c : Cells W h ρ H) {a : Addr} (m : a ∈ ρ.a) : ∃ (i : Nat) (o : PO), ρ.a[i]? = some a ∧ H[i]? = some o ∧ RepO W h ρ a o := by
  obtain ⟨i, e⟩ := mem_get m
  have hi : i < H.length := by
    have : i < ρ.a.length := by
      rcases Nat.lt_or_ge i ρ.a.length with q | q
      · exact q
      · rw [List.getElem?_eq_none q] at e; cases e
    rw [c.len] at this; exact this
  exact ⟨i, H[i], e, List.getElem?_eq_getElem hi, c.cell i a _ e (List.getElem?_eq_getElem hi)⟩
theorem Cells.at {W : Wd} {h : Heap} {ρ : Rh} {H : List PO} (c : Cells W h ρ H) {i : Nat} {o : PO} (e : H[i]? = some o) : ∃ a, ρ.a[i]? = some a ∧ RepO W h ρ a o := by
  have hi : i < ρ.a.length := by
    rw [c.len]
    rcases Nat.lt_or_ge i H.length with q | q
    · exact q
    · rw [List.getElem?_eq_none q] at e; cases e
  exact ⟨ρ.a[i], List.getElem?_eq_getElem hi, c.cell i _ o (List.getElem?_eq_getElem hi) e⟩
theorem IsTup.slots {h h' : Heap} {a : Addr} {its : Array Value} (t : IsTup h a its) (k : ∀ o, h.get? a = some o → ∃ sl, h'.get? a = some { o with slots := sl }) : IsTup h' a its := by
  obtain ⟨o, e, c, n, d⟩ := t
  obtain ⟨sl, e'⟩ := k o e
  exact ⟨_, e', c, n, d⟩
theorem Rel.stb {W : Wd} {env : Env} {h h' : Heap} {ρ ρ' : Rh} {σ : PS} (R : Rel W env h ρ σ) (x : Ext W (fp env) h ρ h' ρ') : Stb h ρ h' ρ' := by
  refine ⟨x.pre, fun a its t => IsTup.slots t fun o e => x.keep a o e (fun q => ?_) fun q => ?_, x.t⟩
  · obtain ⟨_, _, _, _, r⟩ := R.cells.get q; exact r.noTup t
  · obtain ⟨o', e', c, n, d⟩ := t
    rw [e] at e'; cases e'
    rcases List.mem_cons.mp q with rfl | q
    · obtain ⟨m, ⟨o', es, ep, e', d', _⟩, _⟩ := R.lk
      rw [e] at e'; cases e'; rw [d] at d'; cases d'
    · obtain ⟨y, hy, rfl⟩ := List.mem_map.mp q
      obtain ⟨v, o', e', d'⟩ := R.isc y hy
      rw [e] at e'; cases e'; rw [d] at d'; cases d'
theorem Cells.stb {W : Wd} {h h' : Heap} {ρ ρ' : Rh} {H : List PO} (R : Cells W h ρ H) (x : Ext W [] h ρ h' ρ') : Stb h ρ h' ρ' := by
  refine ⟨x.pre, fun a its t => IsTup.slots t fun o e => x.keep a o e (fun q => ?_) (by simp), x.t⟩
  obtain ⟨_, _, _, _, r⟩ := R.get q; exact r.noTup t
end

section
open PySem PySem.W PyProof.Rows
set_option autoImplicit false
set_option linter.unusedVariables false
set_option tactic.hygienic false
structure RR (α β : Type) where
  rel : Heap → Rh → α → β → Prop
  stb : ∀ {h h' : Heap} {ρ ρ' : Rh} {a : α} {b : β}, Stb h ρ h' ρ' → rel h ρ a b → rel h' ρ' a b
structure GG where
  P : Heap → Rh → Prop
  stb : ∀ {h h' : Heap} {ρ ρ' : Rh}, Stb h ρ h' ρ' → P h ρ → P h' ρ'
noncomputable def GG.add {α β : Type} (G : GG) (R : RR α β) (a : α) (b : β) : GG := ⟨fun h ρ => G.P h ρ ∧ R.rel h ρ a b, fun x y => ⟨G.stb x y.1, R.stb x y.2⟩⟩
noncomputable def GG.tt : GG := ⟨fun _ _ => True, fun _ _ => trivial⟩

inductive PF where
  | next | brk | cont
  | ret (v : PV)
noncomputable def RepF (h : Heap) (ρ : Rh) : Flow → PF → Prop
  | .next, .next => True
  | .brk, .brk => True
  | .cont, .cont => True
  | .ret v, .ret p => RepV h ρ v p
  | _, _ => False
theorem RepF.stb {h h' : Heap} {ρ ρ' : Rh} {f : Flow} {p : PF} (x : Stb h ρ h' ρ') (r : RepF h ρ f p) : RepF h' ρ' f p := by
  cases f <;> cases p <;> first | exact r | exact RepV.stb x r
noncomputable def rrV : RR Value PV := ⟨RepV, fun x r => RepV.stb x r⟩
noncomputable def rrU : RR Unit Unit := ⟨fun _ _ _ _ => True, fun _ _ => trivial⟩
noncomputable def rrB : RR Bool Bool := ⟨fun _ _ a b => a = b, fun _ r => r⟩
noncomputable def rrL : RR (List Value) (List PV) := ⟨fun h ρ => All2 (RepV h ρ), fun x r => r.mono fun _ _ y => RepV.stb x y⟩
noncomputable def rrF : RR Flow PF := ⟨RepF, fun x r => RepF.stb x r⟩
structure FrOk (W : Wd) (h : Heap) (ρ : Rh) (l : List Env) : Prop where
  ff : h.FunFrames W.h₀ l
  out : ∀ L ∈ l.filterMap (·.frame), L ∉ ρ.a
theorem FrOk.more {W : Wd} {h h' : Heap} {ρ ρ' : Rh} {l : List Env} (x : FrOk W h ρ l) (y : h'.FunFrames W.h₀ l) (n : ∀ a ∈ ρ'.a, a ∈ ρ.a ∨ h.get? a = none) : FrOk W h' ρ' l :=
  ⟨y, fun L m q => by
    rcases n L q with q | q
    · exact x.out L m q
    · obtain ⟨_, o, ho, _⟩ := x.ff.mem m; rw [ho] at q; cases q⟩
structure AOk (W : Wd) (d : Nat) (A : Around) (s : Shared) (ρ : Rh) : Prop where
  depth : A.depth + 2 * d + 2 < recursionLimit
  units : A.units + 100 * d + 100 < cLine
  handled : A.handled = none
  fr : ∃ l, A.frames = some l ∧ FrOk W s.heap ρ l
  tok : ρ.t ≤ s.toks
  pos : 0 < s.toks

structure ExcAt (W : Wd) (hs h : Heap) (x : Value) : Prop where
  ex : ∃ e oe vs, x = .ref e ∧ hs.get? e = none ∧ h.get? e = some oe ∧ oe.cls = .type "ValueError" ∧ oe.data = .fields vs ∧
    (vs[1]? = some .none ∨ ∃ T oT ts, vs[1]? = some (.ref T) ∧ hs.get? T = none ∧ T ≠ e ∧ h.get? T = some oT ∧ oT.data = .fields ts ∧ ts[3]? = some .none)

noncomputable def Post (W : Wd) (env : Env) {α β : Type} (R : RR α β) (s : Shared) (ρ : Rh) (Q : α → Shared → Prop) (E : Value → Shared → Prop) : Option (Res β × PS) → Prop
  | none => False
  | some (.ok b, σ') => ∀ a h' ρ' tk, Rel W env h' ρ' σ' → Ext W (fp env) s.heap ρ h' ρ' → (ρ'.t ≤ tk ∧ 0 < tk) → R.rel h' ρ' a b → Q a { s with heap := h', toks := tk }
  | some (.exc, σ') => ∀ x h' ρ' tk, Rel W env h' ρ' σ' → Ext W (fp env) s.heap ρ h' ρ' → (ρ'.t ≤ tk ∧ 0 < tk) → ExcAt W s.heap h' x → E x { s with heap := h', toks := tk }
noncomputable def Post0 (W : Wd) (env : Env) {α β : Type} (R : RR α β) (s : Shared) (ρ : Rh) (Q : α → Shared → Prop) (E : Value → Shared → Prop) : Option (Res β × PS) → Prop
  | none => False
  | some (.ok b, σ') => ∀ a h' ρ' tk, Rel W env h' ρ' σ' → Ext0 W (fp env) s.heap ρ h' ρ' → R.rel h' ρ' a b → Q a { s with heap := h', toks := tk }
  | some (.exc, σ') => ∀ x h' ρ' tk, Rel W env h' ρ' σ' → Ext0 W (fp env) s.heap ρ h' ρ' → ExcAt W s.heap h' x → E x { s with heap := h', toks := tk }

noncomputable def Sim (W : Wd) (d : Nat) (env : Env) {α β : Type} (R : RR α β) (G : GG) (t : Sem α) (p : PM β) : Prop :=
  ∀ (A : Around) (s : Shared) (ρ : Rh) (σ : PS) (Q : α → Shared → Prop) (E : Value → Shared → Prop),
    AOk W d A s ρ → Rel W env s.heap ρ σ → G.P s.heap ρ → Post W env R s ρ Q E (p σ) → wpAny (model W.prog W.w) A t Q E s
noncomputable def Sim0 (W : Wd) (d : Nat) (env : Env) {α β : Type} (R : RR α β) (G : GG) (t : Sem α) (p : PM β) : Prop :=
  ∀ (A : Around) (s : Shared) (ρ : Rh) (σ : PS) (Q : α → Shared → Prop) (E : Value → Shared → Prop),
    AOk W d A s ρ → Rel W env s.heap ρ σ → G.P s.heap ρ → Post0 W env R s ρ Q E (p σ) → wpAny (model W.prog W.w) A t Q E s
theorem Sim.of0 {W : Wd} {d : Nat} {env : Env} {α β : Type} {R : RR α β} {G : GG} {t : Sem α} {p : PM β} (h : Sim0 W d env R G t p) : Sim W d env R G t p := by
  intro A s ρ σ Q E ha hr hg hp
  refine wpAny_with_toks (Nat.le_refl _) (h A s ρ σ _ _ ha hr hg ?_)
  match p σ, hp with
  | some (.ok b, σ₁), hp => exact fun a h' ρ' tk r1 e1 q htk => hp a h' ρ' tk r1 e1.toExt ⟨by rw [e1.teq]; exact Nat.le_trans ha.tok htk, Nat.lt_of_lt_of_le ha.pos htk⟩ q
  | some (.exc, σ₁), hp => exact fun a h' ρ' tk r1 e1 q htk => hp a h' ρ' tk r1 e1.toExt ⟨by rw [e1.teq]; exact Nat.le_trans ha.tok htk, Nat.lt_of_lt_of_le ha.pos htk⟩ q

section
variable {W : Wd} {d : Nat} {env : Env}

theorem ExcAt.back {hs h1 h : Heap} {x : Value} (k : ∀ b o, hs.get? b = some o → ∃ o', h1.get? b = some o') (e : ExcAt W h1 h x) : ExcAt W hs h x := by
  have q : ∀ a, h1.get? a = none → hs.get? a = none := fun a z => by
    cases y : hs.get? a with
    | none => rfl
    | some o => obtain ⟨o', z'⟩ := k a o y; rw [z'] at z; cases z
  obtain ⟨e, oe, vs, a1, a2, a3, a4, a5, a6⟩ := e.ex
  refine ⟨e, oe, vs, a1, q _ a2, a3, a4, a5, ?_⟩
  rcases a6 with a6 | ⟨T, oT, ts, b1, b2, b3⟩
  · exact .inl a6
  · exact .inr ⟨T, oT, ts, b1, q _ b2, b3⟩

theorem FunFrames_ext {h h' : Heap} {X : List Addr} {ρ ρ' : Rh} (x : Ext W X h ρ h' ρ') (hx : ∀ a ∈ X, ∀ o, h.get? a = some o → (∀ vs, o.data ≠ .fields vs) → ∃ o', h'.get? a = some o' ∧ (∀ vs, o'.data ≠ .fields vs))
    (hr : ∀ a ∈ ρ.a, ∀ o, h'.get? a = some o → (∀ vs, o.data ≠ .fields vs)) : ∀ {l : List Env}, h.FunFrames W.h₀ l → h'.FunFrames W.h₀ l
  | [], _ => trivial
  | env :: rest, ⟨hk, ⟨L, o, hf, hn, ho, hd⟩, hrest⟩ => by
    refine ⟨hk, ?_, FunFrames_ext x hx hr hrest⟩
    by_cases m1 : L ∈ ρ.a
    · obtain ⟨o', e⟩ := x.there L o ho
      exact ⟨L, o', hf, hn, e, hr L m1 o' e⟩
    · by_cases m2 : L ∈ X
      · obtain ⟨o', e, q⟩ := hx L m2 o ho hd
        exact ⟨L, o', hf, hn, e, q⟩
      · obtain ⟨sl, e⟩ := x.keep L o ho m1 m2
        exact ⟨L, _, hf, hn, e, hd⟩

theorem RepO.noFields {h : Heap} {ρ : Rh} {a : Addr} {o : PO} (r : RepO W h ρ a o) {o' : Obj} (e : h.get? a = some o') (vs : Array Value) : o'.data ≠ .fields vs := by
  cases o with
  | list l => obtain ⟨vs, n, q, _⟩ := r; rw [q] at e; cases e; intro z; cases z
  | dct fs => obtain ⟨es, n, m, q, _⟩ := r; rw [q] at e; cases e; intro z; cases z
  | inst k => obtain ⟨d, _, q⟩ := r; rw [q] at e; cases e; intro z; cases z

theorem AOk.ext {A : Around} {s : Shared} {h' : Heap} {ρ ρ' : Rh} {σ' : PS} {tk : Nat} (x : AOk W d A s ρ) (R : Rel W env h' ρ' σ') (e : Ext W (fp env) s.heap ρ h' ρ') (l : ρ'.t ≤ tk ∧ 0 < tk) : AOk W d A { s with heap := h', toks := tk } ρ' := by
  refine ⟨x.depth, x.units, x.handled, ?_, l.1, l.2⟩
  obtain ⟨l, h1, h2⟩ := x.fr
  refine ⟨l, h1, h2.more (FunFrames_ext e (fun a m o ho _ => ?_) (fun a m o ho => ?_) h2.ff) e.new⟩
  · rcases List.mem_cons.mp m with rfl | m
    · obtain ⟨m, ⟨o', es, ep, e', d', _⟩, _⟩ := R.lk
      exact ⟨o', e', fun vs z => by rw [d'] at z; cases z⟩
    · obtain ⟨y, hy, rfl⟩ := List.mem_map.mp m
      obtain ⟨v, o', e', d'⟩ := R.isc y hy
      exact ⟨o', e', fun vs z => by rw [d'] at z; cases z⟩
  · obtain ⟨i, ei⟩ := mem_get m
    obtain ⟨_, _, _, _, r⟩ := R.cells.get (get_mem (e.pre i a ei))
    exact fun vs => r.noFields ho vs

theorem Post.trans {α β : Type} {R : RR α β} {s s₁ : Shared} {ρ ρ₁ : Rh} {Q : α → Shared → Prop} {E : Value → Shared → Prop} {r : Option (Res β × PS)}
    (hs : s₁ = { s with heap := s₁.heap, toks := s₁.toks }) (x : Ext W (fp env) s.heap ρ s₁.heap ρ₁) (h : Post W env R s ρ Q E r) : Post W env R s₁ ρ₁ Q E r := by
  match r, h with
  | some (.ok b, σ'), h =>
    intro a h' ρ' tk r1 e1 l q
    have z := h a h' ρ' tk r1 (x.trans e1) l q
    rw [hs]; exact z
  | some (.exc, σ'), h =>
    intro y h' ρ' tk r1 e1 l q
    have z := h y h' ρ' tk r1 (x.trans e1) l (q.back x.there)
    rw [hs]; exact z
theorem Post0.trans {α β : Type} {R : RR α β} {s s₁ : Shared} {ρ ρ₁ : Rh} {Q : α → Shared → Prop} {E : Value → Shared → Prop} {r : Option (Res β × PS)}
    (hs : s₁ = { s with heap := s₁.heap, toks := s₁.toks }) (x : Ext0 W (fp env) s.heap ρ s₁.heap ρ₁) (h : Post0 W env R s ρ Q E r) : Post0 W env R s₁ ρ₁ Q E r := by
  match r, h with
  | some (.ok b, σ'), h =>
    intro a h' ρ' tk r1 e1 q
    have z := h a h' ρ' tk r1 (x.trans e1) q
    rw [hs]; exact z
  | some (.exc, σ'), h =>
    intro y h' ρ' tk r1 e1 q
    have z := h y h' ρ' tk r1 (x.trans e1) (q.back x.there)
    rw [hs]; exact z

theorem Sim.bind {α β γ δ : Type} {R : RR α β} {R' : RR γ δ} {G : GG} {t : Sem α} {p : PM β} {f : α → Sem γ} {q : β → PM δ}
    (h1 : Sim W d env R G t p) (h2 : ∀ a b, Sim W d env R' (G.add R a b) (f a) (q b)) : Sim W d env R' G (t >>= f) (PM.bind p q) := by
  intro A s ρ σ Q E ha hr hg hp
  refine wpAny_bind (h1 A s ρ σ _ _ ha hr hg ?_)
  unfold PM.bind at hp
  match hq : p σ, hp with
  | some (.ok b, σ₁), hp =>
    intro a h₁ ρ₁ tk r1 e1 l r
    exact h2 a b A _ ρ₁ σ₁ Q E (ha.ext r1 e1 l) r1 ⟨G.stb (hr.stb e1) hg, r⟩ (hp.trans rfl e1)
  | some (.exc, σ₁), hp => exact hp
theorem Sim.pure {α β : Type} {R : RR α β} {G : GG} {a : α} {b : β} (h : ∀ h ρ, G.P h ρ → R.rel h ρ a b) : Sim W d env R G (pure a) (PM.pure b) := by
  apply Sim.of0
  intro A s ρ σ Q E ha hr hg hp
  exact wpAny_pure (hp a s.heap ρ s.toks hr .refl (h _ _ hg))
theorem Sim.mono {α β : Type} {R R' : RR α β} {G : GG} {t : Sem α} {p : PM β} (h : Sim W d env R G t p) (k : ∀ h ρ a b, R.rel h ρ a b → R'.rel h ρ a b) : Sim W d env R' G t p := by
  intro A s ρ σ Q E ha hr hg hp
  refine h A s ρ σ Q E ha hr hg ?_
  match p σ, hp with
  | some (.ok b, σ₁), hp => exact fun a h' ρ' tk r1 e1 l q => hp a h' ρ' tk r1 e1 l (k _ _ _ _ q)
  | some (.exc, σ₁), hp => exact hp
theorem Sim.weak {α β : Type} {R : RR α β} {G G' : GG} {t : Sem α} {p : PM β} (h : Sim W d env R G t p) (k : ∀ h ρ, G'.P h ρ → G.P h ρ) : Sim W d env R G' t p :=
  fun A s ρ σ Q E ha hr hg hp => h A s ρ σ Q E ha hr (k _ _ hg) hp
theorem Sim.holding {α β : Type} {R : RR α β} {G : GG} {t : Sem α} {p : PM β} {vs : List Value} (h : Sim W d env R G t p) : Sim W d env R G (holding vs t) p :=
  fun A s ρ σ Q E ha hr hg hp => wpAny_holding (h A s ρ σ Q E ha hr hg hp)
theorem Sim.seq {α β γ : Type} {R : RR α β} {G : GG} {t : Sem γ} {f : γ → Sem α} {p : PM β} (u : ∀ A s (Q : γ → Shared → Prop) E, (∀ a, Q a s) → wpAny (model W.prog W.w) A t Q E s) (h : ∀ a, Sim W d env R G (f a) p) : Sim W d env R G (t >>= f) p :=
  fun A s ρ σ Q E ha hr hg hp => wpAny_bind (u _ _ _ _ fun a => h a A s ρ σ Q E ha hr hg hp)
theorem Sim.stand {α β : Type} {R : RR α β} {G : GG} {pos : Pos} {f : Unit → Sem α} {p : PM β} (h : Sim W d env R G (f ()) p) : Sim W d env R G (standAt pos >>= f) p :=
  Sim.seq (fun _ _ _ _ h => wpAny_standAt (h ())) fun _ => h
theorem Sim.rule {α β : Type} {R : RR α β} {G : GG} {n : String} {f : Unit → Sem α} {p : PM β} (h : Sim W d env R G (f ()) p) : Sim W d env R G (PySem.rule n >>= f) p :=
  Sim.seq (fun _ _ _ _ h => wpAny_rule (h ())) fun _ => h
theorem Sim.eq {α β : Type} {R : RR α β} {G : GG} {t t' : Sem α} {p p' : PM β} (h : Sim W d env R G t' p') (e : t = t') (e' : p = p') : Sim W d env R G t p := by
  subst e e'; exact h
theorem Sim.under {α β : Type} {R : RR α β} {G : GG} {t : Sem α} {p : PM β} (h : (∃ h ρ, G.P h ρ) → Sim W d env R G t p) : Sim W d env R G t p :=
  fun A s ρ σ Q E ha hr hg hp => h ⟨_, _, hg⟩ A s ρ σ Q E ha hr hg hp
theorem wp_release {M : Model} {A : Around} {vs ks : List Value} {Q : Unit → Shared → Prop} {E : Value → Shared → Prop} {s : Shared} (h : Q () s) : wpAny M A (release vs ks) Q E s := by
  unfold release
  generalize vs.filter _ = l
  induction l with
  | nil => exact wpAny_pure h
  | cons a l ih =>
    cases l with
    | nil => exact wpAny_pure h
    | cons b l => exact wpAny_bind (wpAny_holding (wpAny_point ih))
theorem Sim.release {α β : Type} {R : RR α β} {G : GG} {vs ks : List Value} {f : Unit → Sem α} {p : PM β} (h : Sim W d env R G (f ()) p) : Sim W d env R G (PySem.release vs ks >>= f) p :=
  Sim.seq (fun _ _ _ _ h => wp_release (h ())) fun _ => h
theorem Sim.operate {G : GG} {t : Sem Value} {p : PM PV} {vs : List Value} (h : Sim W d env rrV G t p) : Sim W d env rrV G (operate vs t) p := by
  intro A s ρ σ Q E ha hr hg hp
  unfold PySem.operate
  refine wpAny_bind (wpAny_holding (h A s ρ σ _ _ ha hr hg ?_))
  match p σ, hp with
  | some (.ok b, σ₁), hp => exact fun a h' ρ' tk r1 e1 l q => wpAny_bind (wp_release (wpAny_pure (hp a h' ρ' tk r1 e1 l q)))
  | some (.exc, σ₁), hp => exact hp
end
end

section
open PySem PySem.W PyProof.Rows
set_option autoImplicit false
set_option linter.unusedVariables false
set_option tactic.hygienic false
section
variable {W : Wd} {d : Nat} {env : Env} {G : GG}

theorem Rel.base {h : Heap} {ρ : Rh} {σ : PS} (R : Rel W env h ρ σ) : ∀ b o, W.h₀.get? b = some o → h.get? b = some o := R.cells.base

noncomputable def pget (n : String) : PM PV := fun σ => match σ.loc.lookup n with
  | some v => some (.ok v, σ)
  | none => none
theorem s_name {n : String} {pos : Pos} (hd : (Str.ofString n == ("__debug__" : Str)) = false := by decide) (hc : (Str.ofString n == ("__classdict__" : Str)) = false := by decide) :
    Sim W d env rrV G (eval (.Name (Str.ofString n) pos) env) (pget n) := by
  refine Sim.of0 ?_
  intro A s ρ σ Q E ha hr hg hp
  unfold pget at hp
  match hq : σ.loc.lookup n, hp with
  | some v, hp =>
    obtain ⟨m, hn, hl⟩ := hr.lk
    obtain ⟨x, rx, na⟩ := hl n v hq
    refine wpAny_Name ?_ hd
    have z := hp x s.heap ρ s.toks hr .refl rx
    rcases na with ⟨k, e⟩ | ⟨k | k, c, e1, e2⟩
    · exact wpAny_loadName_local hr.eok.kind k hn e z
    · exact wpAny_loadName_cell hr.eok.kind k e1 e2 z
    · exact wpAny_loadName_free hr.eok.kind k e1 e2 z hc

theorem s_gname {x : Str} {pos : Pos} {v : Value} {p : PV} (hx : env.kindOf x = some .globalImplicit) (e : nsIn W.K mainGlobals x = some (some v)) (r : ∀ h ρ, RepV h ρ v p)
    (hd : (x == ("__debug__" : Str)) = false := by decide) : Sim W d env rrV G (eval (.Name x pos) env) (PM.pure p) := by
  refine Sim.of0 ?_
  intro A s ρ σ Q E ha hr hg hp
  refine Calls.Name_function_global hr.eok.kind hx (Calls.loadGlobal_global (mg := W.mg) ?_ (mg_of W.X W.g e) (hp v s.heap ρ s.toks hr .refl (r _ _))) hd
  rw [hr.eok.glob]; exact W.g.keeps hr.base
set_option tactic.hygienic true in
theorem mg_none {K : Frag} {h : Heap} {mg : Str → Option Value} {n : Str} (X : K.In h) (G : h.Ns mainGlobals mg) (e : nsIn K mainGlobals n = some none) : mg n = none := by
  obtain ⟨o, es, ep, ho, hd, _, hf⟩ := G
  unfold nsIn at e
  split at e
  · rename_i c d es' n' sl q
    have h1 := X _ _ q
    rw [h1] at ho; cases ho; cases hd
    rw [← hf]
    unfold nsFind findBy
    split at e
    · cases e
    · rename_i hz
      rw [← Array.find?_toList, hz]; rfl
  · cases e
theorem s_bname {x : Str} {pos : Pos} {v : Value} {p : PV} (hx : env.kindOf x = some .globalImplicit) (e : nsIn W.K mainGlobals x = some none) (eb : bootBuiltins x = some v) (r : ∀ h ρ, RepV h ρ v p)
    (hn : x ≠ "__name__" := by decide) (hd : (x == ("__debug__" : Str)) = false := by decide) : Sim W d env rrV G (eval (.Name x pos) env) (PM.pure p) := by
  refine Sim.of0 ?_
  intro A s ρ σ Q E ha hr hg hp
  refine Calls.Name_function_global hr.eok.kind hx (Calls.loadGlobal_builtin (mg := W.mg) (mb := W.mb) ?_ (mg_none W.X W.g e) ?_ ((W.bi x hn).trans eb) (hp v s.heap ρ s.toks hr .refl (r _ _))) hd
  · rw [hr.eok.glob]; exact W.g.keeps hr.base
  · rw [hr.eok.blt]; exact W.b.keeps hr.base
theorem s_cnone {k : Nat} {pos : Pos} : Sim W d env rrV G (eval (.Constant .none k pos) env) (PM.pure .none) :=
  Sim.pure (R := rrV) fun _ _ _ => rfl
theorem s_cbool {b : Bool} {k : Nat} {pos : Pos} : Sim W d env rrV G (eval (.Constant (.bool b) k pos) env) (PM.pure (.bool b)) :=
  Sim.pure (R := rrV) fun _ _ _ => rfl
theorem s_cint {i : Int} {k : Nat} {pos : Pos} : Sim W d env rrV G (eval (.Constant (.int i) k pos) env) (PM.pure (.int i)) :=
  Sim.of0 fun A s ρ σ Q E ha hr hg hp => wpAny_mkInt (hp _ s.heap ρ _ hr .refl ⟨_, rfl⟩)
theorem s_cstr {x : Str} {k : Nat} {pos : Pos} : Sim W d env rrV G (eval (.Constant (.str x) k pos) env) (PM.pure (.str x)) :=
  Sim.of0 fun A s ρ σ Q E ha hr hg hp => wpAny_mkText (hp _ s.heap ρ _ hr .refl ⟨_, rfl⟩)

end
end

section
open PySem PySem.W PyProof.Rows
set_option autoImplicit false
set_option linter.unusedVariables false
set_option tactic.hygienic false
noncomputable def Keeps (h h' : Heap) : Prop := ∀ b o, h.get? b = some o → h'.get? b = some o
theorem Keeps.refl {h : Heap} : Keeps h h := fun _ _ e => e
theorem Keeps.trans {h h' h'' : Heap} (x : Keeps h h') (y : Keeps h' h'') : Keeps h h'' := fun b o e => y b o (x b o e)
theorem Keeps.push {h : Heap} (o : Obj) : Keeps h (h.push o) := fun _ _ e => Heap.get?_push_of_some o e
theorem Keeps.tup {h h' : Heap} (k : Keeps h h') {a : Addr} {its : Array Value} (t : IsTup h a its) : IsTup h' a its := by
  obtain ⟨o, e, r⟩ := t; exact ⟨o, k _ _ e, r⟩
structure Pre (ρ ρ' : Rh) : Prop where
  pre : ∀ (i : Nat) (a : Addr), ρ.a[i]? = some a → ρ'.a[i]? = some a
  t : ρ.t ≤ ρ'.t
theorem Pre.refl {ρ : Rh} : Pre ρ ρ := ⟨fun _ _ e => e, Nat.le_refl _⟩
theorem Keeps.stb {h h' : Heap} {ρ ρ' : Rh} (k : Keeps h h') (p : Pre ρ ρ') : Stb h ρ h' ρ' := ⟨p.pre, fun _ _ t => k.tup t, p.t⟩
theorem pre_snoc {ρ : Rh} {x : Addr} : Pre ρ (ρ.add x) := by
  refine ⟨fun i a e => ?_, Nat.le_refl _⟩
  have hi : i < ρ.a.length := by
    rcases Nat.lt_or_ge i ρ.a.length with q | q
    · exact q
    · rw [List.getElem?_eq_none q] at e; cases e
  show (ρ.a ++ [x])[i]? = some a
  rw [List.getElem?_append_left hi]; exact e
section
variable {W : Wd} {d : Nat} {env : Env}
theorem RepO.keeps {h h' : Heap} {ρ ρ' : Rh} {a : Addr} {o : PO} (k : Keeps h h') (p : Pre ρ ρ') (r : RepO W h ρ a o) : RepO W h' ρ' a o := by
  cases o with
  | list l => obtain ⟨vs, n, e, z⟩ := r; exact ⟨vs, n, k _ _ e, z.mono fun _ _ y => y.stb (k.stb p)⟩
  | dct fs =>
    obtain ⟨es, n, m, e, hn, z, sz⟩ := r
    exact ⟨es, n, m, k _ _ e, hn.keeps k, fun x => ⟨fun q y => by obtain ⟨v, e1, e2⟩ := (z x).1 q y; exact ⟨v, e1, e2.stb (k.stb p)⟩, (z x).2⟩, sz⟩
  | inst j => obtain ⟨dd, e1, e2⟩ := r; exact ⟨dd, p.pre _ _ e1, k _ _ e2⟩
theorem Cells.keeps {h h' : Heap} {ρ : Rh} {H : List PO} (c : Cells W h ρ H) (k : Keeps h h') : Cells W h' ρ H :=
  ⟨fun b o e => k _ _ (c.base b o e), c.len, fun i a o e1 e2 => (c.cell i a o e1 e2).keeps k .refl, c.nd, c.new⟩
theorem NameAt.keeps {h h' : Heap} {m : Str → Option Value} {x : Str} {v : Value} (k : Keeps h h') (n : NameAt env h m x v) : NameAt env h' m x v := by
  rcases n with n | ⟨n, c, e1, e2⟩
  · exact .inl n
  · exact .inr ⟨n, c, e1, e2.keeps k⟩
theorem Rel.keeps {h h' : Heap} {ρ : Rh} {σ : PS} (R : Rel W env h ρ σ) (k : Keeps h h') : Rel W env h' ρ σ := by
  obtain ⟨m, hn, hl⟩ := R.lk
  exact ⟨R.eok, R.cells.keeps k, ⟨m, hn.keeps k, fun n p e => by obtain ⟨v, r, na⟩ := hl n p e; exact ⟨v, r.stb (k.stb .refl), na.keeps k⟩⟩, R.fpn, R.fpd, R.apart, fun x hx => by obtain ⟨v, c⟩ := R.isc x hx; exact ⟨v, c.keeps k⟩⟩
theorem Ext0.keeps {X : List Addr} {h h' : Heap} {ρ : Rh} (k : Keeps h h') : Ext0 W X h ρ h' ρ := ⟨⟨fun _ _ e => e, fun _ e => .inl e, fun b o e => ⟨o, k _ _ e⟩, fun b o e _ _ => ⟨o.slots, k _ _ e, fun _ => rfl⟩, Nat.le_refl _⟩, rfl⟩
theorem Ext0.snoc {X : List Addr} {h h' : Heap} {ρ : Rh} {a : Addr} (k : Keeps h h') (n : h.get? a = none) : Ext0 W X h ρ h' (ρ.add a) :=
  ⟨⟨pre_snoc.pre, fun x e => (by
    rcases List.mem_append.mp e with e | e
    · exact .inl e
    · rw [List.mem_singleton.mp e]; exact .inr n), fun b o e => ⟨o, k _ _ e⟩, fun b o e _ _ => ⟨o.slots, k _ _ e, fun _ => rfl⟩, Nat.le_refl _⟩, rfl⟩
theorem Cells.snoc {h h' : Heap} {ρ : Rh} {H : List PO} {a : Addr} {o : PO} (c : Cells W h ρ H) (k : Keeps h h') (n : h.get? a = none) (r : RepO W h' (ρ.add a) a o) : Cells W h' (ρ.add a) (H ++ [o]) := by
  have hna : a ∉ ρ.a := fun q => by
    obtain ⟨i, po, e1, e2, r⟩ := c.get q
    cases po with
    | list l => obtain ⟨vs, nn, e, _⟩ := r; rw [n] at e; cases e
    | dct fs => obtain ⟨es, nn, m, e, _⟩ := r; rw [n] at e; cases e
    | inst j => obtain ⟨dd, _, e⟩ := r; rw [n] at e; cases e
  have lt : ∀ {i : Nat} {x : Addr}, ρ.a[i]? = some x → i < ρ.a.length := fun {i x} e => by
    rcases Nat.lt_or_ge i ρ.a.length with q | q
    · exact q
    · rw [List.getElem?_eq_none q] at e; cases e
  have split : ∀ {i : Nat} {x : Addr}, (ρ.add a).a[i]? = some x → (ρ.a[i]? = some x) ∨ (i = ρ.a.length ∧ x = a) := fun {i x} e => by
    replace e : (ρ.a ++ [a])[i]? = some x := e
    rcases Nat.lt_or_ge i ρ.a.length with q | q
    · rw [List.getElem?_append_left q] at e; exact .inl e
    · rw [List.getElem?_append_right q] at e
      rcases Nat.eq_or_lt_of_le q with q | q
      · subst q; simp at e; exact .inr ⟨rfl, e.symm⟩
      · have : i - ρ.a.length ≥ 1 := by lia
        rw [List.getElem?_eq_none (by simpa using this)] at e; cases e
  refine ⟨fun b o e => k _ _ (c.base b o e), by simp [Rh.add, c.len], fun i x po e1 e2 => ?_, fun i j x e1 e2 => ?_, fun x hx => ?_⟩
  · rcases split e1 with e1 | ⟨rfl, rfl⟩
    · have hi := lt e1
      rw [c.len] at hi
      rw [List.getElem?_append_left hi] at e2
      exact (c.cell i x po e1 e2).keeps k pre_snoc
    · rw [c.len, List.getElem?_append_right (Nat.le_refl _)] at e2
      simp at e2; subst e2; exact r
  · rcases split e1 with e1 | ⟨e1, z1⟩ <;> rcases split e2 with e2 | ⟨e2, z2⟩
    · exact c.nd i j x e1 e2
    · exact absurd (z2 ▸ get_mem e1) hna
    · exact absurd (z1 ▸ get_mem e2) hna
    · rw [e1, e2]
  · rcases List.mem_append.mp hx with q | q
    · exact c.new x q
    · rw [List.mem_singleton.mp q]
      cases z : W.h₀.get? a with
      | none => rfl
      | some o => have := c.base a o z; rw [n] at this; cases this
theorem Rel.snoc {h h' : Heap} {ρ : Rh} {σ : PS} {a : Addr} {o : PO} (R : Rel W env h ρ σ) (k : Keeps h h') (n : h.get? a = none) (r : RepO W h' (ρ.add a) a o) : Rel W env h' (ρ.add a) { σ with H := σ.H ++ [o] } := by
  have R' := R.keeps k
  obtain ⟨m, hn, hl⟩ := R'.lk
  refine ⟨R.eok, R.cells.snoc k n r, ⟨m, hn, fun x p e => ?_⟩, fun x hx => ⟨(R.fpn x hx).1, fun q => ?_⟩, R.fpd, R.apart, R'.isc⟩
  · obtain ⟨v, r, na⟩ := hl x p e
    exact ⟨v, r.stb (Keeps.refl.stb pre_snoc), na⟩
  · rcases List.mem_append.mp q with q | q
    · exact (R.fpn x hx).2 q
    · rw [List.mem_singleton.mp q] at hx
      rcases List.mem_cons.mp hx with e | hx
      · obtain ⟨m, ⟨o', es, ep, e', _⟩, _⟩ := R.lk
        rw [← e, n] at e'; cases e'
      · obtain ⟨y, hy, e⟩ := List.mem_map.mp hx
        obtain ⟨v, o', e', _⟩ := R.isc y hy
        rw [e, n] at e'; cases e'

noncomputable def palloc (o : PO) : PM PV := fun σ => some (.ok (.ref σ.H.length), { σ with H := σ.H ++ [o] })
theorem ref_snoc {h : Heap} {ρ : Rh} {σ : PS} {a : Addr} (R : Rel W env h ρ σ) {h' : Heap} : RepV h' (ρ.add a) (.ref a) (.ref σ.H.length) :=
  ⟨a, rfl, by show (ρ.a ++ [a])[σ.H.length]? = some a; rw [← R.cells.len, List.getElem?_append_right (Nat.le_refl _)]; simp⟩
theorem wp_newList {A : Around} {s : Shared} {ρ : Rh} {σ : PS} {vs : List Value} {l : List PV} {Q : Value → Shared → Prop} {E : Value → Shared → Prop}
    (R : Rel W env s.heap ρ σ) (r : All2 (RepV s.heap ρ) vs l) (hsz : l.length ≤ sizeLine) (hp : Post0 W env rrV s ρ Q E (palloc (.list l) σ)) : wpAny (model W.prog W.w) A (newList vs) Q E s := by
  refine wpAny_newObj_type ?_ (by show vs.toArray.size ≤ sizeLine; rw [List.size_toArray, r.length]; exact hsz)
  have hn : s.heap.get? s.heap.objs.size = none := by
    cases q : s.heap.get? s.heap.objs.size with
    | none => rfl
    | some o => exact absurd (Heap.lt_size q) (Nat.lt_irrefl _)
  have k : Keeps s.heap (s.heap.push { cls := .type "list", data := .seq vs.toArray }) := Keeps.push _
  refine hp (.ref s.heap.objs.size) _ (ρ.add s.heap.objs.size) s.toks (R.snoc k hn ?_) (Ext0.snoc k hn) (ref_snoc (h' := s.heap.push { cls := .type "list", data := .seq vs.toArray }) R)
  exact ⟨vs, 0, Heap.get?_push_size _ rfl, r.mono fun _ _ y => y.stb (k.stb pre_snoc)⟩

noncomputable def pfail {α : Type} : PM α := fun _ => none
theorem s_fail {α β : Type} {R : RR α β} {G : GG} {t : Sem α} : Sim W d env R G t (pfail : PM β) := fun _ _ _ _ _ _ _ _ _ hp => hp.elim
noncomputable def pguard {α : Type} (c : Prop) [Decidable c] (p : PM α) : PM α := if c then p else pfail
set_option tactic.hygienic true in
theorem s_guard {α β : Type} {R : RR α β} {G : GG} {t : Sem α} {c : Prop} [Decidable c] {p : PM β} (h : c → Sim W d env R G t p) : Sim W d env R G t (pguard c p) := by
  unfold pguard
  split
  · rename_i hc; exact h hc
  · exact s_fail
noncomputable def popt {α β : Type} (o : Option α) (f : α → PM β) : PM β := match o with
  | some a => f a
  | none => pfail
noncomputable def plist {α : Type} (i : Nat) (f : List PV → PM α) : PM α := fun σ => match σ.H[i]? with
  | some (.list l) => f l σ
  | _ => none
end
end

section
open PySem PySem.W PyProof.Rows
set_option autoImplicit false
set_option linter.unusedVariables false
set_option tactic.hygienic false
section
variable {W : Wd} {d : Nat} {env : Env} {G : GG}

theorem fresh_none {h : Heap} : h.get? h.objs.size = none := by
  cases q : h.get? h.objs.size with
  | none => rfl
  | some o => exact absurd (Heap.lt_size q) (Nat.lt_irrefl _)

theorem post_val {s : Shared} {ρ : Rh} {σ : PS} {Q : Value → Shared → Prop} {E : Value → Shared → Prop} {v : Value} {p : PV} (R : Rel W env s.heap ρ σ) (hp : Post0 W env rrV s ρ Q E (PM.pure p σ)) (r : RepV s.heap ρ v p) (tk : Nat) : Q v { s with toks := tk } :=
  hp v s.heap ρ tk R .refl r
theorem post_push {s : Shared} {ρ : Rh} {σ : PS} {Q : Value → Shared → Prop} {E : Value → Shared → Prop} {v : Value} {p : PV} {o : Obj} (R : Rel W env s.heap ρ σ) (hp : Post0 W env rrV s ρ Q E (PM.pure p σ)) (r : RepV (s.heap.push o) ρ v p) (tk : Nat) : Q v { s with heap := s.heap.push o, toks := tk } :=
  hp v (s.heap.push o) ρ tk (R.keeps (Keeps.push o)) (Ext0.keeps (Keeps.push o)) r
theorem post_list {s : Shared} {ρ : Rh} {σ : PS} {Q : Value → Shared → Prop} {E : Value → Shared → Prop} {vs : List Value} {l : List PV} (R : Rel W env s.heap ρ σ) (hp : Post0 W env rrV s ρ Q E (palloc (.list l) σ)) (r : All2 (RepV s.heap ρ) vs l) (tk : Nat) :
    Q (.ref s.heap.objs.size) { s with heap := s.heap.push { cls := .type "list", data := .seq vs.toArray }, toks := tk } := by
  have k : Keeps s.heap (s.heap.push { cls := .type "list", data := .seq vs.toArray }) := Keeps.push _
  refine hp (.ref s.heap.objs.size) _ (ρ.add s.heap.objs.size) tk (R.snoc k fresh_none ?_) (Ext0.snoc k fresh_none) (ref_snoc (h' := s.heap.push { cls := .type "list", data := .seq vs.toArray }) R)
  exact ⟨vs, 0, Heap.get?_push_size _ rfl, r.mono fun _ _ y => y.stb (k.stb pre_snoc)⟩

theorem ref_inv {h : Heap} {ρ : Rh} {H : List PO} {v : Value} {i : Nat} {o : PO} (c : Cells W h ρ H) (r : RepV h ρ v (.ref i)) (e : H[i]? = some o) : ∃ a, v = .ref a ∧ ρ.a[i]? = some a ∧ RepO W h ρ a o := by
  obtain ⟨a, rfl, q⟩ := r
  exact ⟨a, rfl, q, c.cell i a o q e⟩

set_option tactic.hygienic true in
theorem plist_inv {α β : Type} {R : RR α β} {s : Shared} {ρ : Rh} {σ : PS} {Q : α → Shared → Prop} {E : Value → Shared → Prop} {i : Nat} {f : List PV → PM β} (hp : Post0 W env R s ρ Q E (plist i f σ)) : ∃ l, σ.H[i]? = some (.list l) ∧ Post0 W env R s ρ Q E (f l σ) := by
  unfold plist at hp
  split at hp
  · rename_i l e; exact ⟨l, e, hp⟩
  · exact hp.elim
theorem popt_inv {α β γ : Type} {R : RR α β} {s : Shared} {ρ : Rh} {σ : PS} {Q : α → Shared → Prop} {E : Value → Shared → Prop} {o : Option γ} {f : γ → PM β} (hp : Post0 W env R s ρ Q E (popt o f σ)) : ∃ c, o = some c ∧ Post0 W env R s ρ Q E (f c σ) := by
  cases o with
  | none => exact hp.elim
  | some c => exact ⟨c, rfl, hp⟩
set_option tactic.hygienic true in
theorem pguard_inv {α β : Type} {R : RR α β} {s : Shared} {ρ : Rh} {σ : PS} {Q : α → Shared → Prop} {E : Value → Shared → Prop} {c : Prop} [Decidable c] {p : PM β} (hp : Post0 W env R s ρ Q E (pguard c p σ)) : c ∧ Post0 W env R s ρ Q E (p σ) := by
  unfold pguard at hp
  split at hp
  · rename_i h; exact ⟨h, hp⟩
  · exact hp.elim

noncomputable def pAdd : PV → PV → PM PV
  | .int a, .int b => PM.pure (.int (a + b))
  | .str x, .str y => pguard (x.length + y.length ≤ sizeLine) (PM.pure (.str (x ++ y)))
  | .ref i, .ref j => plist i fun l => plist j fun k => pguard (l.length + k.length ≤ sizeLine) (palloc (.list (l ++ k)))
  | _, _ => pfail
theorem o_add {a b : Value} {pa pb : PV} (ga : ∀ h ρ, G.P h ρ → RepV h ρ a pa) (gb : ∀ h ρ, G.P h ρ → RepV h ρ b pb) : Sim W d env rrV G (binaryOp .Add a b) (pAdd pa pb) := by
  refine Sim.of0 ?_
  intro A s ρ σ Q E ha hr hg hp
  have ra := ga _ _ hg
  have rb := gb _ _ hg
  unfold pAdd at hp
  split at hp
  · obtain ⟨t, rfl⟩ := ra; obtain ⟨u, rfl⟩ := rb
    exact PyProof.Rows.add_int (post_val hr hp ⟨_, rfl⟩ _)
  · obtain ⟨t, rfl⟩ := ra; obtain ⟨u, rfl⟩ := rb
    obtain ⟨hsz, hp⟩ := pguard_inv hp
    exact PyProof.Rows.add_str (fun t' tk => post_val hr hp ⟨_, rfl⟩ _) hsz
  · obtain ⟨l, e1, hp⟩ := plist_inv hp
    obtain ⟨k, e2, hp⟩ := plist_inv hp
    obtain ⟨hsz, hp⟩ := pguard_inv hp
    obtain ⟨x, rfl, _, vs, n, ho, z⟩ := ref_inv hr.cells ra e1
    obtain ⟨y, rfl, _, ws, n2, ho2, z2⟩ := ref_inv hr.cells rb e2
    have e : vs.toArray ++ ws.toArray = (vs ++ ws).toArray := by simp
    refine concat_meets ⟨_, ho, rfl⟩ ⟨_, ho2, rfl⟩ noFill_list_add seq_list_add PySem.F.slot_list_add PySem.F.entry_list_add (PySem.F.args_list_add_2 _ _) (list_addW x y vs.toArray ws.toArray n n2 none none #[] #[] (by simp only [List.size_toArray, z.length, z2.length]; exact hsz)) ⟨ho, ho2, ?_⟩
    rw [e]
    exact post_list hr hp (z.append z2) s.toks
  · exact hp.elim

noncomputable def pSub : PV → PV → PM PV
  | .int a, .int b => PM.pure (.int (a - b))
  | _, _ => pfail
theorem o_sub {a b : Value} {pa pb : PV} (ga : ∀ h ρ, G.P h ρ → RepV h ρ a pa) (gb : ∀ h ρ, G.P h ρ → RepV h ρ b pb) : Sim W d env rrV G (binaryOp .Sub a b) (pSub pa pb) := by
  refine Sim.of0 ?_
  intro A s ρ σ Q E ha hr hg hp
  have ra := ga _ _ hg
  have rb := gb _ _ hg
  unfold pSub at hp
  split at hp
  · obtain ⟨t, rfl⟩ := ra; obtain ⟨u, rfl⟩ := rb
    exact PyProof.Rows.sub_int (post_val hr hp ⟨_, rfl⟩ _)
  · exact hp.elim
noncomputable def pMul : PV → PV → PM PV
  | .int a, .int b => pguard (a.natAbs < 2 ^ 64) (PM.pure (.int (a * b)))
  | .str x, .int n => pguard (0 ≤ n ∧ n ≤ 1000 ∧ x.length ≤ 1000) (PM.pure (.str (Txt.mul x n)))
  | _, _ => pfail
set_option tactic.hygienic true in
theorem o_mul {a b : Value} {pa pb : PV} (ga : ∀ h ρ, G.P h ρ → RepV h ρ a pa) (gb : ∀ h ρ, G.P h ρ → RepV h ρ b pb) : Sim W d env rrV G (binaryOp .Mult a b) (pMul pa pb) := by
  refine Sim.of0 ?_
  intro A s ρ σ Q E ha hr hg hp
  have ra := ga _ _ hg
  have rb := gb _ _ hg
  unfold pMul at hp
  split at hp
  · obtain ⟨t, rfl⟩ := ra; obtain ⟨u, rfl⟩ := rb
    obtain ⟨hsz, hp⟩ := pguard_inv hp
    refine PyProof.Rows.mul_int (post_val hr hp ⟨_, rfl⟩ _) (IntMulOk.of_left (intBits_le_64 ?_ ?_)) <;> omega
  · rename_i x n
    obtain ⟨t, rfl⟩ := ra; obtain ⟨u, rfl⟩ := rb
    obtain ⟨⟨h1, h2, h3⟩, hp⟩ := pguard_inv hp
    refine PySem.SB.mul ⟨?_, fun h4 _ => ?_, fun _ _ => ?_⟩ fun t' k => post_val hr hp ⟨_, rfl⟩ _
    · simp only [Bool.or_eq_false_iff, decide_eq_false_iff_not]; omega
    · have : (x.length : Int) ≤ (2 ^ 63 - 1) / n := by
        refine Int.le_ediv_of_mul_le (by omega) ?_
        have : (x.length : Int) * n ≤ 1000 * 1000 := Int.mul_le_mul (by omega) h2 h1 (by omega)
        omega
      omega
    · have : x.length * n.toNat ≤ 1000 * 1000 := Nat.mul_le_mul h3 (by omega)
      exact decide_eq_false (by rw [sizeLine_eq]; omega)
  · exact hp.elim
end
end

section
open PySem PySem.W PyProof.Rows
set_option autoImplicit false
set_option linter.unusedVariables false
set_option maxRecDepth 100000
set_option tactic.hygienic false
section
variable {W : Wd} {d : Nat} {env : Env} {G : GG}

noncomputable def pMod : PV → PV → PM PV
  | .int a, .int b => pguard (b ≠ 0) (PM.pure (.int (a.fmod b)))
  | _, _ => pfail
theorem o_mod {a b : Value} {pa pb : PV} (ga : ∀ h ρ, G.P h ρ → RepV h ρ a pa) (gb : ∀ h ρ, G.P h ρ → RepV h ρ b pb) : Sim W d env rrV G (binaryOp .Mod a b) (pMod pa pb) := by
  refine Sim.of0 ?_
  intro A s ρ σ Q E ha hr hg hp
  have ra := ga _ _ hg
  have rb := gb _ _ hg
  unfold pMod at hp
  split at hp
  · obtain ⟨t, rfl⟩ := ra; obtain ⟨u, rfl⟩ := rb
    obtain ⟨hb, hp⟩ := pguard_inv hp
    exact PyProof.Rows.mod_int hb (post_val hr hp ⟨_, rfl⟩ _)
  · exact hp.elim
noncomputable def pDiv : PV → PV → PM PV
  | .int a, .int b => pguard (b ≠ 0 ∧ b.natAbs < 1073741824) (PM.pure (.int (a.fdiv b)))
  | _, _ => pfail
theorem o_div {a b : Value} {pa pb : PV} (ga : ∀ h ρ, G.P h ρ → RepV h ρ a pa) (gb : ∀ h ρ, G.P h ρ → RepV h ρ b pb) : Sim W d env rrV G (binaryOp .FloorDiv a b) (pDiv pa pb) := by
  refine Sim.of0 ?_
  intro A s ρ σ Q E ha hr hg hp
  have ra := ga _ _ hg
  have rb := gb _ _ hg
  unfold pDiv at hp
  split at hp
  · obtain ⟨t, rfl⟩ := ra; obtain ⟨u, rfl⟩ := rb
    obtain ⟨hb, hp⟩ := pguard_inv hp
    exact PyProof.Rows.floordiv_int hb.1 (post_val hr hp ⟨_, rfl⟩ _) (Or.inl (PyProof.noPylong_small hb.2))
  · exact hp.elim
noncomputable def pPow : PV → PV → PM PV
  | .int a, .int b => pguard (0 ≤ b ∧ b ≤ 1000000 ∧ a.natAbs < 2 ^ 64) (PM.pure (.int (a ^ b.toNat)))
  | _, _ => pfail
theorem o_pow {a b : Value} {pa pb : PV} (ga : ∀ h ρ, G.P h ρ → RepV h ρ a pa) (gb : ∀ h ρ, G.P h ρ → RepV h ρ b pb) : Sim W d env rrV G (binaryOp .Pow a b) (pPow pa pb) := by
  refine Sim.of0 ?_
  intro A s ρ σ Q E ha hr hg hp
  have ra := ga _ _ hg
  have rb := gb _ _ hg
  unfold pPow at hp
  split at hp
  · obtain ⟨t, rfl⟩ := ra; obtain ⟨u, rfl⟩ := rb
    obtain ⟨hb, hp⟩ := pguard_inv hp
    exact PyProof.Rows.pow_int_small hb.1 hb.2.1 hb.2.2 (post_val hr hp ⟨_, rfl⟩ _)
  · exact hp.elim
end
end

section
open PySem PySem.W PyProof.Rows PySem.Spec PySem.SeqAt
set_option autoImplicit false
set_option linter.unusedVariables false
set_option maxRecDepth 100000
set_option tactic.hygienic false
noncomputable def patom : PV → Option PyData
  | .none => some .none
  | .bool b => some (.bool b)
  | .int i => some (.int i)
  | .str x => some (.str x)
  | _ => none
noncomputable def pall (f : PV → Option PyData) : List PV → Option (List PyData)
  | [] => some []
  | x :: r => match f x, pall f r with
    | some d, some ds => some (d :: ds)
    | _, _ => none
noncomputable def pdata (H : List PO) : Nat → PV → Option PyData
  | 0, p => patom p
  | n + 1, p => match p with
    | .tup l => (pall (pdata H n) l).map .tuple
    | .ref i => match H[i]? with
      | some (.list l) => (pall (pdata H n) l).map .list
      | _ => none
    | p => patom p
section
variable {W : Wd} {d : Nat} {env : Env} {G : GG}

theorem RepA.repV {h : Heap} {ρ : Rh} {v : Value} {p : PV} (r : RepA ρ v p) : RepV h ρ v p := by
  cases p with
  | tup l => exact r.elim
  | _ => exact r
set_option tactic.hygienic true in
theorem reads_of {h : Heap} {ρ : Rh} {H : List PO} (c : Cells W h ρ H) : ∀ (n : Nat) (v : Value) (p : PV) (x : PyData), RepV h ρ v p → pdata H n p = some x → ∃ as, Reads h v x as := by
  have atom : ∀ (v : Value) (p : PV) (x : PyData), RepV h ρ v p → patom p = some x → ∃ as, Reads h v x as := by
    intro v p x r e
    cases p with
    | none => cases e; cases r; exact ⟨_, .none⟩
    | bool b => cases e; cases r; exact ⟨_, .bool b⟩
    | int i => cases e; obtain ⟨t, rfl⟩ := r; exact ⟨_, .int i t⟩
    | str s => cases e; obtain ⟨t, rfl⟩ := r; exact ⟨_, .str s t⟩
    | _ => cases e
  intro n
  induction n with
  | zero => exact atom
  | succ n ih =>
    have all : ∀ (vs : List Value) (l : List PV) (xs : List PyData), All2 (RepV h ρ) vs l → pall (pdata H n) l = some xs → ∃ as, ReadsAll h vs xs as := by
      intro vs l xs z
      induction z generalizing xs with
      | nil => intro e; cases e; exact ⟨_, .nil⟩
      | cons r _ ih2 =>
        intro e
        unfold pall at e
        split at e
        · rename_i d1 d2 e1 e2
          cases e
          obtain ⟨as, q1⟩ := ih _ _ _ r e1
          obtain ⟨bs, q2⟩ := ih2 _ e2
          exact ⟨_, .cons q1 q2⟩
        · cases e
    intro v p x r e
    cases p with
    | tup l =>
      replace e : (pall (pdata H n) l).map PyData.tuple = some x := e
      obtain ⟨xs, e1, rfl⟩ := Option.map_eq_some_iff.mp e
      obtain ⟨a, vs, rfl, ⟨o, ho, hc, m, hd⟩, z⟩ := r
      obtain ⟨as, q⟩ := all vs l xs (z.mono fun _ _ y => y.repV) e1
      exact ⟨_, .tuple ho hc hd (by simpa using q)⟩
    | ref i =>
      replace e : (match H[i]? with | some (.list l) => (pall (pdata H n) l).map PyData.list | _ => none) = some x := e
      split at e
      · rename_i l el
        obtain ⟨xs, e1, rfl⟩ := Option.map_eq_some_iff.mp e
        obtain ⟨a, rfl, _, vs, m, ho, z⟩ := ref_inv c r el
        obtain ⟨as, q⟩ := all vs l xs z e1
        exact ⟨_, .list ho rfl rfl (by simpa using q)⟩
      · cases e
    | _ => exact atom _ _ _ r e

noncomputable def pdat2 (a b : PV) (f : PyData → PyData → PM PV) : PM PV := fun σ => match pdata σ.H 4 a, pdata σ.H 4 b with
  | some x, some y => f x y σ
  | _, _ => none
set_option tactic.hygienic true in
theorem pdat2_inv {s : Shared} {ρ : Rh} {σ : PS} {Q : Value → Shared → Prop} {E : Value → Shared → Prop} {a b : PV} {f : PyData → PyData → PM PV} (hp : Post0 W env rrV s ρ Q E (pdat2 a b f σ)) :
    ∃ x y, pdata σ.H 4 a = some x ∧ pdata σ.H 4 b = some y ∧ Post0 W env rrV s ρ Q E (f x y σ) := by
  unfold pdat2 at hp
  split at hp
  · rename_i x y e1 e2; exact ⟨x, y, e1, e2, hp⟩
  · exact hp.elim
noncomputable def pEq : PV → PV → PM PV
  | .int a, .int b => PM.pure (.bool (a == b))
  | .str x, .str y => PM.pure (.bool (x == y))
  | a, b => pdat2 a b fun x y => pguard (shaped x = true ∧ shaped y = true) (PM.pure (.bool (PyData.eqv x y)))
theorem o_eq {a b : Value} {pa pb : PV} (ga : ∀ h ρ, G.P h ρ → RepV h ρ a pa) (gb : ∀ h ρ, G.P h ρ → RepV h ρ b pb) : Sim W d env rrV G (compareOp .Eq a b) (pEq pa pb) := by
  refine Sim.of0 ?_
  intro A s ρ σ Q E ha hr hg hp
  have ra := ga _ _ hg
  have rb := gb _ _ hg
  unfold pEq at hp
  split at hp
  · obtain ⟨t, rfl⟩ := ra; obtain ⟨u, rfl⟩ := rb
    exact PyProof.Rows.eq_int (post_val hr hp rfl _)
  · obtain ⟨t, rfl⟩ := ra; obtain ⟨u, rfl⟩ := rb
    exact PyProof.Rows.eq_str (post_val hr hp rfl _)
  · obtain ⟨x, y, e1, e2, hp⟩ := pdat2_inv hp
    obtain ⟨⟨h1, h2⟩, hp⟩ := pguard_inv hp
    obtain ⟨as, q1⟩ := reads_of hr.cells _ _ _ _ ra e1
    obtain ⟨bs, q2⟩ := reads_of hr.cells _ _ _ _ rb e2
    exact eq_dataH q1 q2 h1 h2 (by have := ha.units; lia) (post_val hr hp rfl _)
noncomputable def pNe : PV → PV → PM PV
  | .int a, .int b => PM.pure (.bool (a != b))
  | .str x, .str y => PM.pure (.bool (x != y))
  | a, b => pdat2 a b fun x y => pguard (shaped x = true ∧ shaped y = true) (PM.pure (.bool (!PyData.eqv x y)))
theorem o_ne {a b : Value} {pa pb : PV} (ga : ∀ h ρ, G.P h ρ → RepV h ρ a pa) (gb : ∀ h ρ, G.P h ρ → RepV h ρ b pb) : Sim W d env rrV G (compareOp .NotEq a b) (pNe pa pb) := by
  refine Sim.of0 ?_
  intro A s ρ σ Q E ha hr hg hp
  have ra := ga _ _ hg
  have rb := gb _ _ hg
  unfold pNe at hp
  split at hp
  · obtain ⟨t, rfl⟩ := ra; obtain ⟨u, rfl⟩ := rb
    exact PyProof.Rows.ne_int (post_val hr hp rfl _)
  · obtain ⟨t, rfl⟩ := ra; obtain ⟨u, rfl⟩ := rb
    exact PyProof.Rows.ne_str (post_val hr hp rfl _)
  · obtain ⟨x, y, e1, e2, hp⟩ := pdat2_inv hp
    obtain ⟨⟨h1, h2⟩, hp⟩ := pguard_inv hp
    obtain ⟨as, q1⟩ := reads_of hr.cells _ _ _ _ ra e1
    obtain ⟨bs, q2⟩ := reads_of hr.cells _ _ _ _ rb e2
    exact ne_dataH q1 q2 h1 h2 (by have := ha.units; lia) (post_val hr hp rfl _)
noncomputable def pIn : PV → PV → PM PV
  | .str y, .str x => PM.pure (.bool (!(Builtin.Str.occurrences x y 0 x.length 1).isEmpty))
  | a, b => pdat2 a b fun x y => match y with
    | .list xs => pguard (shaped x = true ∧ PyData.canLayAll0 xs = true) (PM.pure (.bool (xs.any fun e => PyData.eqv e x)))
    | _ => pfail
theorem o_in {a b : Value} {pa pb : PV} (ga : ∀ h ρ, G.P h ρ → RepV h ρ a pa) (gb : ∀ h ρ, G.P h ρ → RepV h ρ b pb) : Sim W d env rrV G (compareOp .In a b) (pIn pa pb) := by
  refine Sim.of0 ?_
  intro A s ρ σ Q E ha hr hg hp
  have ra := ga _ _ hg
  have rb := gb _ _ hg
  unfold pIn at hp
  split at hp
  · obtain ⟨t, rfl⟩ := ra; obtain ⟨u, rfl⟩ := rb
    exact PyProof.Rows.in_str (post_val hr hp rfl _)
  · obtain ⟨x, y, e1, e2, hp⟩ := pdat2_inv hp
    split at hp
    · obtain ⟨⟨h1, h2⟩, hp⟩ := pguard_inv hp
      obtain ⟨as, q1⟩ := reads_of hr.cells _ _ _ _ ra e1
      obtain ⟨bs, q2⟩ := reads_of hr.cells _ _ _ _ rb e2
      exact in_list_reads q2 q1 h2 (canLay_of_shaped h1) (room_in_shaped h1 (by have := ha.units; lia)) (post_val hr hp rfl _)
    · exact hp.elim
noncomputable def pNotIn : PV → PV → PM PV
  | .str y, .str x => PM.pure (.bool (!(!(Builtin.Str.occurrences x y 0 x.length 1).isEmpty)))
  | a, b => pdat2 a b fun x y => match y with
    | .list xs => pguard (shaped x = true ∧ PyData.canLayAll0 xs = true) (PM.pure (.bool (!(xs.any fun e => PyData.eqv e x))))
    | _ => pfail
theorem o_notin {a b : Value} {pa pb : PV} (ga : ∀ h ρ, G.P h ρ → RepV h ρ a pa) (gb : ∀ h ρ, G.P h ρ → RepV h ρ b pb) : Sim W d env rrV G (compareOp .NotIn a b) (pNotIn pa pb) := by
  refine Sim.of0 ?_
  intro A s ρ σ Q E ha hr hg hp
  have ra := ga _ _ hg
  have rb := gb _ _ hg
  unfold pNotIn at hp
  split at hp
  · obtain ⟨t, rfl⟩ := ra; obtain ⟨u, rfl⟩ := rb
    exact PyProof.Rows.notIn_str (post_val hr hp rfl _)
  · obtain ⟨x, y, e1, e2, hp⟩ := pdat2_inv hp
    split at hp
    · obtain ⟨⟨h1, h2⟩, hp⟩ := pguard_inv hp
      obtain ⟨as, q1⟩ := reads_of hr.cells _ _ _ _ ra e1
      obtain ⟨bs, q2⟩ := reads_of hr.cells _ _ _ _ rb e2
      exact notIn_list_reads q2 q1 h2 (canLay_of_shaped h1) (room_in_shaped h1 (by have := ha.units; lia)) (post_val hr hp rfl _)
    · exact hp.elim
noncomputable def PV.isNone : PV → Bool
  | .none => true
  | _ => false
theorem isNone_rep {h : Heap} {ρ : Rh} {v : Value} {p : PV} (r : RepV h ρ v p) : (v == Value.none) = p.isNone := by
  cases p with
  | none => cases r; rfl
  | bool b => cases r; rfl
  | int i => obtain ⟨t, rfl⟩ := r; rfl
  | str s => obtain ⟨t, rfl⟩ := r; rfl
  | lit s => obtain ⟨t, rfl, _⟩ := r; rfl
  | typ n => cases r; rfl
  | bi n => cases r; rfl
  | glob a => cases r; rfl
  | ref i => obtain ⟨a, rfl, _⟩ := r; rfl
  | tup l => obtain ⟨a, vs, rfl, _⟩ := r; rfl
noncomputable def pIs : PV → PV → PM PV
  | p, .none => PM.pure (.bool p.isNone)
  | .typ x, .typ y => PM.pure (.bool (x == y))
  | _, _ => pfail
set_option tactic.hygienic true in
theorem o_is {a b : Value} {pa pb : PV} (ga : ∀ h ρ, G.P h ρ → RepV h ρ a pa) (gb : ∀ h ρ, G.P h ρ → RepV h ρ b pb) : Sim W d env rrV G (compareOp .Is a b) (pIs pa pb) := by
  refine Sim.of0 ?_
  intro A s ρ σ Q E ha hr hg hp
  have ra := ga _ _ hg
  have rb := gb _ _ hg
  unfold pIs at hp
  split at hp
  · cases rb
    exact is_none_gen (by rw [isNone_rep ra]; exact post_val hr hp rfl _)
  · cases ra; cases rb
    rename_i x y
    refine wpAny_is_plain rfl ?_
    have : (Value.type x == Value.type y) = (x == y) := by
      by_cases h : x = y
      · subst h; simp
      · have h2 : (x == y) = false := by simpa using h
        rw [h2]; simpa using h
    rw [this]; exact post_val hr hp rfl _
  · exact hp.elim
noncomputable def pIsNot : PV → PV → PM PV
  | p, .none => PM.pure (.bool (!p.isNone))
  | .typ x, .typ y => PM.pure (.bool (!(x == y)))
  | _, _ => pfail
set_option tactic.hygienic true in
theorem o_isnot {a b : Value} {pa pb : PV} (ga : ∀ h ρ, G.P h ρ → RepV h ρ a pa) (gb : ∀ h ρ, G.P h ρ → RepV h ρ b pb) : Sim W d env rrV G (compareOp .IsNot a b) (pIsNot pa pb) := by
  refine Sim.of0 ?_
  intro A s ρ σ Q E ha hr hg hp
  have ra := ga _ _ hg
  have rb := gb _ _ hg
  unfold pIsNot at hp
  split at hp
  · cases rb
    exact isnot_none_gen (by rw [isNone_rep ra]; exact post_val hr hp rfl _)
  · cases ra; cases rb
    rename_i x y
    refine wpAny_isNot_plain rfl ?_
    have : (Value.type x == Value.type y) = (x == y) := by
      by_cases h : x = y
      · subst h; simp
      · have h2 : (x == y) = false := by simpa using h
        rw [h2]; simpa using h
    rw [this]; exact post_val hr hp rfl _
  · exact hp.elim
noncomputable def pLt : PV → PV → PM PV
  | .int a, .int b => PM.pure (.bool (decide (a < b)))
  | .str x, .str y => PM.pure (.bool (decide (x.cps.toList < y.cps.toList)))
  | _, _ => pfail
theorem o_lt {a b : Value} {pa pb : PV} (ga : ∀ h ρ, G.P h ρ → RepV h ρ a pa) (gb : ∀ h ρ, G.P h ρ → RepV h ρ b pb) : Sim W d env rrV G (compareOp .Lt a b) (pLt pa pb) := by
  refine Sim.of0 ?_
  intro A s ρ σ Q E ha hr hg hp
  have ra := ga _ _ hg
  have rb := gb _ _ hg
  unfold pLt at hp
  split at hp
  · obtain ⟨t, rfl⟩ := ra; obtain ⟨u, rfl⟩ := rb
    exact PyProof.Rows.lt_int (post_val hr hp rfl _)
  · obtain ⟨t, rfl⟩ := ra; obtain ⟨u, rfl⟩ := rb
    exact PyProof.Rows.lt_str (post_val hr hp rfl _)
  · exact hp.elim
noncomputable def pGt : PV → PV → PM PV
  | .int a, .int b => PM.pure (.bool (decide (b < a)))
  | _, _ => pfail
theorem o_gt {a b : Value} {pa pb : PV} (ga : ∀ h ρ, G.P h ρ → RepV h ρ a pa) (gb : ∀ h ρ, G.P h ρ → RepV h ρ b pb) : Sim W d env rrV G (compareOp .Gt a b) (pGt pa pb) := by
  refine Sim.of0 ?_
  intro A s ρ σ Q E ha hr hg hp
  have ra := ga _ _ hg
  have rb := gb _ _ hg
  unfold pGt at hp
  split at hp
  · obtain ⟨t, rfl⟩ := ra; obtain ⟨u, rfl⟩ := rb
    exact PyProof.Rows.gt_int (post_val hr hp rfl _)
  · exact hp.elim
end
end

section
open PySem PySem.W PyProof.Rows PySem.Spec PySem.SeqAt
set_option autoImplicit false
set_option linter.unusedVariables false
set_option maxRecDepth 100000
set_option tactic.hygienic false
noncomputable def SE (W : Wd) (d : Nat) (env : Env) (e : Expr) (p : PM PV) : Prop := ∀ G, Sim W d env rrV G (eval e env) p
noncomputable def ST (W : Wd) (d : Nat) (env : Env) (e : Expr) (p : PM Bool) : Prop := ∀ G, Sim W d env rrB G (isTrue e env (eval e env)) p
noncomputable def SEs (W : Wd) (d : Nat) (env : Env) (es : List Expr) (p : PM (List PV)) : Prop := ∀ G pos, Sim W d env rrL G (spliced (backTo pos (starEach es env))) p

noncomputable def ptruthy : PV → PM Bool
  | .none => PM.pure false
  | .bool b => PM.pure b
  | .int i => PM.pure (i != 0)
  | .str x => pguard (x.length ≤ sizeLine) (PM.pure (decide (x.length ≠ 0)))
  | .ref i => plist i fun l => pguard (l.length ≤ sizeLine) (PM.pure (!l.isEmpty))
  | _ => pfail
section
variable {W : Wd} {d : Nat} {env : Env} {G : GG}
theorem post_b {s : Shared} {ρ : Rh} {σ : PS} {Q : Bool → Shared → Prop} {E : Value → Shared → Prop} {b : Bool} (R : Rel W env s.heap ρ σ) (hp : Post0 W env rrB s ρ Q E (PM.pure b σ)) (tk : Nat) : Q b { s with toks := tk } :=
  hp b s.heap ρ tk R .refl rfl
set_option tactic.hygienic true in
theorem o_truthy {a : Value} {pa : PV} (ga : ∀ h ρ, G.P h ρ → RepV h ρ a pa) : Sim W d env rrB G (truthy a) (ptruthy pa) := by
  refine Sim.of0 ?_
  intro A s ρ σ Q E ha hr hg hp
  have ra := ga _ _ hg
  unfold ptruthy at hp
  split at hp
  · cases ra; exact truthy_none (post_b hr hp _)
  · cases ra; exact wpAny_truthy_bool (post_b hr hp _)
  · obtain ⟨t, rfl⟩ := ra; exact PyProof.Rows.truthy_int (post_b hr hp _)
  · rename_i x
    obtain ⟨t, rfl⟩ := ra
    obtain ⟨h1, hp⟩ := pguard_inv hp
    have : ((x.length : Int) != 0) = decide (x.length ≠ 0) := by
      by_cases h : x.length = 0
      · rw [h]; rfl
      · rw [decide_eq_true h, bne_iff_ne]; lia
    exact P.truthy_str (by rw [sizeLine_eq] at h1; lia) (by rw [this]; exact post_b hr hp _)
  · obtain ⟨l, e1, hp⟩ := plist_inv hp
    obtain ⟨h1, hp⟩ := pguard_inv hp
    obtain ⟨x, rfl, _, vs, n, ho, z⟩ := ref_inv hr.cells ra e1
    have hl : vs.length = l.length := z.length
    refine wpAny_truthy_list (items := vs.toArray) ⟨_, ho, rfl, n, rfl⟩ (by rw [List.size_toArray, hl]; rw [sizeLine_eq] at h1; lia) ?_
    have : (!vs.toArray.isEmpty) = !l.isEmpty := by
      cases z with
      | nil => rfl
      | cons _ _ => simp
    rw [this]; exact post_b hr hp _
  · exact hp.elim

noncomputable def OpOk (W : Wd) (d : Nat) (env : Env) (t : Value → Value → Sem Value) (f : PV → PV → PM PV) : Prop :=
  ∀ (G : GG) (a b : Value) (pa pb : PV), (∀ h ρ, G.P h ρ → RepV h ρ a pa) → (∀ h ρ, G.P h ρ → RepV h ρ b pb) → Sim W d env rrV G (t a b) (f pa pb)

theorem s_bin {l r : Expr} {op : Operator} {pos : Pos} {p q : PM PV} {f : PV → PV → PM PV} (ho : OpOk W d env (binaryOp op) f) (hl : SE W d env l p) (hr : SE W d env r q) : SE W d env (.BinOp l op r pos) (PM.bind p fun a => PM.bind q fun b => f a b) := by
  intro G
  show Sim W d env rrV G (eval l env >>= fun a => holding [a] (eval r env) >>= fun b => standAt pos >>= fun _ => operate [a, b] (binaryOp op a b)) _
  exact Sim.bind (hl G) fun a pa => Sim.bind (Sim.holding (hr _)) fun b pb => Sim.stand (Sim.operate (ho _ a b pa pb (fun _ _ g => g.1.2) fun _ _ g => g.2))
theorem s_add {l r : Expr} {pos : Pos} {p q : PM PV} (hl : SE W d env l p) (hr : SE W d env r q) : SE W d env (.BinOp l .Add r pos) (PM.bind p fun a => PM.bind q fun b => pAdd a b) := s_bin (fun _ _ _ _ _ x y => o_add x y) hl hr
theorem s_sub {l r : Expr} {pos : Pos} {p q : PM PV} (hl : SE W d env l p) (hr : SE W d env r q) : SE W d env (.BinOp l .Sub r pos) (PM.bind p fun a => PM.bind q fun b => pSub a b) := s_bin (fun _ _ _ _ _ x y => o_sub x y) hl hr
theorem s_mul {l r : Expr} {pos : Pos} {p q : PM PV} (hl : SE W d env l p) (hr : SE W d env r q) : SE W d env (.BinOp l .Mult r pos) (PM.bind p fun a => PM.bind q fun b => pMul a b) := s_bin (fun _ _ _ _ _ x y => o_mul x y) hl hr
theorem s_mod {l r : Expr} {pos : Pos} {p q : PM PV} (hl : SE W d env l p) (hr : SE W d env r q) : SE W d env (.BinOp l .Mod r pos) (PM.bind p fun a => PM.bind q fun b => pMod a b) := s_bin (fun _ _ _ _ _ x y => o_mod x y) hl hr
theorem s_div {l r : Expr} {pos : Pos} {p q : PM PV} (hl : SE W d env l p) (hr : SE W d env r q) : SE W d env (.BinOp l .FloorDiv r pos) (PM.bind p fun a => PM.bind q fun b => pDiv a b) := s_bin (fun _ _ _ _ _ x y => o_div x y) hl hr
theorem s_pow {l r : Expr} {pos : Pos} {p q : PM PV} (hl : SE W d env l p) (hr : SE W d env r q) : SE W d env (.BinOp l .Pow r pos) (PM.bind p fun a => PM.bind q fun b => pPow a b) := s_bin (fun _ _ _ _ _ x y => o_pow x y) hl hr

theorem s_cmp {l r : Expr} {op : CmpOp} {pos : Pos} {p q : PM PV} {f : PV → PV → PM PV} (ho : OpOk W d env (compareOp op) f) (hl : SE W d env l p) (hr : SE W d env r q) (hm : behindInMarks op r = false) : SE W d env (.Compare l [op] [r] pos) (PM.bind p fun a => PM.bind q fun b => f a b) := by
  intro G
  rw [eval_Compare1, markedBehindIn_of_false hm]
  exact Sim.bind (hl G) fun a pa => Sim.bind (Sim.holding (hr _)) fun b pb => Sim.stand (Sim.operate (ho _ a b pa pb (fun _ _ g => g.1.2) fun _ _ g => g.2))
theorem t_cmp {l r : Expr} {op : CmpOp} {pos : Pos} {p q : PM PV} {f : PV → PV → PM PV} (ho : OpOk W d env (compareOp op) f) (hl : SE W d env l p) (hr : SE W d env r q) (hm : behindInMarks op r = false) : ST W d env (.Compare l [op] [r] pos) (PM.bind p fun a => PM.bind q fun b => PM.bind (f a b) ptruthy) := by
  intro G
  rw [isTrue_Compare1, markedBehindIn_of_false hm]
  exact Sim.bind (hl G) fun a pa => Sim.bind (Sim.holding (hr _)) fun b pb => Sim.stand (Sim.bind (Sim.operate (ho _ a b pa pb (fun _ _ g => g.1.2) fun _ _ g => g.2)) fun c pc => Sim.holding (o_truthy fun _ _ g => g.2))
section
variable {l r : Expr} {pos : Pos} {p q : PM PV} (hl : SE W d env l p) (hr : SE W d env r q)
include hl hr
theorem s_eq (hm : behindInMarks .Eq r = false) : SE W d env (.Compare l [.Eq] [r] pos) (PM.bind p fun a => PM.bind q fun b => pEq a b) := s_cmp (fun _ _ _ _ _ x y => o_eq x y) hl hr hm
theorem t_eq (hm : behindInMarks .Eq r = false) : ST W d env (.Compare l [.Eq] [r] pos) (PM.bind p fun a => PM.bind q fun b => PM.bind (pEq a b) ptruthy) := t_cmp (fun _ _ _ _ _ x y => o_eq x y) hl hr hm
theorem t_ne (hm : behindInMarks .NotEq r = false) : ST W d env (.Compare l [.NotEq] [r] pos) (PM.bind p fun a => PM.bind q fun b => PM.bind (pNe a b) ptruthy) := t_cmp (fun _ _ _ _ _ x y => o_ne x y) hl hr hm
theorem t_in (hm : behindInMarks .In r = false) : ST W d env (.Compare l [.In] [r] pos) (PM.bind p fun a => PM.bind q fun b => PM.bind (pIn a b) ptruthy) := t_cmp (fun _ _ _ _ _ x y => o_in x y) hl hr hm
theorem t_notin (hm : behindInMarks .NotIn r = false) : ST W d env (.Compare l [.NotIn] [r] pos) (PM.bind p fun a => PM.bind q fun b => PM.bind (pNotIn a b) ptruthy) := t_cmp (fun _ _ _ _ _ x y => o_notin x y) hl hr hm
theorem t_is (hm : behindInMarks .Is r = false) : ST W d env (.Compare l [.Is] [r] pos) (PM.bind p fun a => PM.bind q fun b => PM.bind (pIs a b) ptruthy) := t_cmp (fun _ _ _ _ _ x y => o_is x y) hl hr hm
theorem t_isnot (hm : behindInMarks .IsNot r = false) : ST W d env (.Compare l [.IsNot] [r] pos) (PM.bind p fun a => PM.bind q fun b => PM.bind (pIsNot a b) ptruthy) := t_cmp (fun _ _ _ _ _ x y => o_isnot x y) hl hr hm
theorem t_lt (hm : behindInMarks .Lt r = false) : ST W d env (.Compare l [.Lt] [r] pos) (PM.bind p fun a => PM.bind q fun b => PM.bind (pLt a b) ptruthy) := t_cmp (fun _ _ _ _ _ x y => o_lt x y) hl hr hm
theorem t_gt (hm : behindInMarks .Gt r = false) : ST W d env (.Compare l [.Gt] [r] pos) (PM.bind p fun a => PM.bind q fun b => PM.bind (pGt a b) ptruthy) := t_cmp (fun _ _ _ _ _ x y => o_gt x y) hl hr hm
end
theorem t_plain {e : Expr} {p : PM PV} (he : SE W d env e p) (hw : isTrue e env (eval e env) = (eval e env >>= fun v => standAt e.pos >>= fun _ => holding [v] (truthy v))) : ST W d env e (PM.bind p ptruthy) := by
  intro G
  rw [hw]
  exact Sim.bind (he G) fun a pa => Sim.stand (Sim.holding (o_truthy fun _ _ g => g.2))
noncomputable def pite {α : Type} (c : PM Bool) (p q : PM α) : PM α := PM.bind c fun b => if b then p else q
theorem sim_ite {α β : Type} {R : RR α β} {b b' : Bool} {t u : Sem α} {p q : PM β} (ht : Sim W d env R G t p) (hu : Sim W d env R G u q) (hb : ∀ h ρ, G.P h ρ → b = b') : Sim W d env R G (if b = true then t else u) (if b' = true then p else q) := by
  refine Sim.under fun ⟨h, ρ, g⟩ => ?_
  rw [hb h ρ g]
  cases b' with
  | true => exact ht
  | false => exact hu
theorem t_and2 {e1 e2 : Expr} {pos : Pos} {p q : PM Bool} (h1 : ST W d env e1 p) (h2 : ST W d env e2 q) : ST W d env (.BoolOp .And [e1, e2] pos) (pite p q (PM.pure false)) := by
  intro G
  have e : isTrue (.BoolOp .And [e1, e2] pos) env (eval (.BoolOp .And [e1, e2] pos) env) = (isTrue e1 env (eval e1 env) >>= fun b => if b = true then (isTrue e2 env (eval e2 env) >>= fun c => pure c) else pure false) := by
    show (isTrue e1 env (eval e1 env) >>= fun b => match BoolOp.And, b with | .And, false => pure false | .Or, true => pure true | _, _ => (isTrue e2 env (eval e2 env) >>= fun b => match BoolOp.And, b with | .And, false => pure false | .Or, true => pure true | _, _ => pure (BoolOp.And == .And))) = _
    congr 1; funext b; cases b
    · rfl
    · show (isTrue e2 env (eval e2 env) >>= fun b => match BoolOp.And, b with | .And, false => pure false | .Or, true => pure true | _, _ => pure (BoolOp.And == .And)) = (isTrue e2 env (eval e2 env) >>= fun c => pure c)
      congr 1; funext b; cases b <;> rfl
  rw [e]
  refine Sim.bind (h1 G) fun a b => ?_
  have z : Sim W d env rrB (G.add rrB a b) (isTrue e2 env (eval e2 env) >>= fun c => pure c) (PM.bind q PM.pure) := Sim.bind (h2 _) fun a b => Sim.pure fun _ _ g => g.2
  have hq : PM.bind q PM.pure = q := by
    funext σ; unfold PM.bind PM.pure
    split <;> simp_all
  rw [hq] at z
  exact sim_ite z (Sim.pure fun _ _ _ => rfl) (fun _ _ g => g.2)
theorem t_or2 {e1 e2 : Expr} {pos : Pos} {p q : PM Bool} (h1 : ST W d env e1 p) (h2 : ST W d env e2 q) : ST W d env (.BoolOp .Or [e1, e2] pos) (pite p (PM.pure true) q) := by
  intro G
  have e : isTrue (.BoolOp .Or [e1, e2] pos) env (eval (.BoolOp .Or [e1, e2] pos) env) = (isTrue e1 env (eval e1 env) >>= fun b => if b = true then pure true else (isTrue e2 env (eval e2 env) >>= fun c => pure c)) := by
    show (isTrue e1 env (eval e1 env) >>= fun b => match BoolOp.Or, b with | .And, false => pure false | .Or, true => pure true | _, _ => (isTrue e2 env (eval e2 env) >>= fun b => match BoolOp.Or, b with | .And, false => pure false | .Or, true => pure true | _, _ => pure (BoolOp.Or == .And))) = _
    congr 1; funext b; cases b
    · show (isTrue e2 env (eval e2 env) >>= fun b => match BoolOp.Or, b with | .And, false => pure false | .Or, true => pure true | _, _ => pure (BoolOp.Or == .And)) = (isTrue e2 env (eval e2 env) >>= fun c => pure c)
      congr 1; funext b; cases b <;> rfl
    · rfl
  rw [e]
  refine Sim.bind (h1 G) fun a b => ?_
  have z : Sim W d env rrB (G.add rrB a b) (isTrue e2 env (eval e2 env) >>= fun c => pure c) (PM.bind q PM.pure) := Sim.bind (h2 _) fun a b => Sim.pure fun _ _ g => g.2
  have hq : PM.bind q PM.pure = q := by
    funext σ; unfold PM.bind PM.pure
    split <;> simp_all
  rw [hq] at z
  exact sim_ite (Sim.pure fun _ _ _ => rfl) z (fun _ _ g => g.2)
theorem s_if {t b o : Expr} {pos : Pos} {c : PM Bool} {p q : PM PV} (ht : ST W d env t c) (hb : SE W d env b p) (ho : SE W d env o q) : SE W d env (.IfExp t b o pos) (pite c p q) := by
  intro G
  rw [eval_IfExp]
  exact Sim.bind (ht G) fun a b => sim_ite (hb _) (ho _) fun _ _ g => g.2

theorem ss_nil : SEs W d env [] (PM.pure []) := fun G pos => Sim.pure fun _ _ _ => .nil
theorem star_cons {e : Expr} {es : List Expr} {env : Env} (h : isStarred e = false) : starEach (e :: es) env = (false, eval e env) :: starEach es env := by
  cases e <;> first | rfl | cases h
theorem ss_cons {e : Expr} {es : List Expr} {p : PM PV} {ps : PM (List PV)} (he : SE W d env e p) (hes : SEs W d env es ps) (hs : isStarred e = false) : SEs W d env (e :: es) (PM.bind p fun a => PM.bind ps fun l => PM.pure (a :: l)) := by
  intro G pos
  rw [star_cons hs]
  show Sim W d env rrL G (eval e env >>= fun v => (pure [v] : Sem (List Value)) >>= fun here => holding here (spliced (backTo pos (starEach es env))) >>= fun r => pure (here ++ r)) _
  refine Sim.bind (he G) fun a pa => ?_
  refine Sim.eq (t' := holding [a] (spliced (backTo pos (starEach es env))) >>= fun r => pure ([a] ++ r)) ?_ rfl rfl
  exact Sim.bind (Sim.holding (hes _ pos)) fun vs l => Sim.pure fun _ _ g => .cons g.1.2 g.2
theorem s_list {es : List Expr} {pos : Pos} {ps : PM (List PV)} (h : SEs W d env es ps) : SE W d env (.List es pos) (PM.bind ps fun l => pguard (l.length ≤ sizeLine) (palloc (.list l))) := by
  intro G
  show Sim W d env rrV G (standAt pos >>= fun _ => spliced (backTo pos (starEach es env)) >>= fun vs => newList vs) _
  refine Sim.stand (Sim.bind (h G pos) fun vs l => s_guard fun hl => ?_)
  refine Sim.of0 ?_
  intro A s ρ σ Q E ha hr hg hp
  exact wp_newList hr hg.2 hl hp
noncomputable def allAtoms : List PV → Bool
  | [] => true
  | .tup _ :: _ => false
  | _ :: r => allAtoms r
theorem atoms_rep {h : Heap} {ρ : Rh} {vs : List Value} {l : List PV} (z : All2 (RepV h ρ) vs l) (e : allAtoms l = true) : All2 (RepA ρ) vs l := by
  induction z with
  | nil => exact .nil
  | @cons a b as bs r _ ih =>
    cases b with
    | tup l => cases e
    | _ => exact .cons r (ih e)
theorem s_tuple {es : List Expr} {k : Nat} {pos : Pos} {ps : PM (List PV)} (h : SEs W d env es ps) : SE W d env (.Tuple es k pos) (PM.bind ps fun l => pguard (l.length ≤ sizeLine ∧ allAtoms l = true) (PM.pure (.tup l))) := by
  intro G
  show Sim W d env rrV G (standAt pos >>= fun _ => spliced (backTo pos (starEach es env)) >>= fun vs => newTuple vs) _
  refine Sim.stand (Sim.bind (h G pos) fun vs l => s_guard fun hl => ?_)
  refine Sim.of0 ?_
  intro A s ρ σ Q E ha hr hg hp
  have z : All2 (RepV s.heap ρ) vs l := hg.2
  refine wpAny_newObj_type ?_ (by show vs.toArray.size ≤ sizeLine; rw [List.size_toArray, z.length]; exact hl.1)
  refine post_push hr hp ?_ s.toks
  exact ⟨_, vs, rfl, ⟨_, Heap.get?_push_size _ rfl, rfl, 0, rfl⟩, atoms_rep z hl.2⟩
end
end

section
open PySem PySem.W PyProof.Rows PySem.Spec PySem.SeqAt
set_option autoImplicit false
set_option linter.unusedVariables false
set_option maxRecDepth 100000
set_option tactic.hygienic false
noncomputable def pplace (l : List PV) (k : Int) : Option PV := if 0 ≤ k then l[k.toNat]? else if -(l.length : Int) ≤ k then l[(k + l.length).toNat]? else none
noncomputable def pplaceM (l : List PV) (k : Int) : PM PV := popt (pplace l k) fun v => pguard (k.natAbs < 2 ^ 62) (PM.pure v)
noncomputable def pitem : PV → PV → PM PV
  | .ref i, .int k => plist i fun l => pplaceM l k
  | .tup l, .int k => pplaceM l k
  | .str x, .int k => popt ((seqIndex? k x.length).bind (x.cps[·]?)) fun c => pguard (k.natAbs < 2 ^ 62) (PM.pure (.str ⟨#[c]⟩))
  | _, _ => pfail
noncomputable def ppick {α : Type} (l : List α) (lo hi st : Option Int) : List α :=
  (sliceRange (sliceBounds lo hi st l.length).1 (sliceBounds lo hi st l.length).2.1 (sliceBounds lo hi st l.length).2.2).filterMap (l[·]?)
noncomputable def tpick {α : Type} (l : List α) (lo hi st : Option Int) : List α :=
  (List.range (Builtin.Slice.slicePlaces (Builtin.Slice.sliceAdjust lo hi (st.getD 1) l.length).1 (Builtin.Slice.sliceAdjust lo hi (st.getD 1) l.length).2 (st.getD 1))).filterMap
    fun (k : Nat) => l[((Builtin.Slice.sliceAdjust lo hi (st.getD 1) l.length).1 + (k : Int) * (st.getD 1)).toNat]?
noncomputable def xpick (x : Str) (lo hi st : Option Int) : Str :=
  if (st.getD 1 == 1 && (Builtin.Str.strSliceIndices lo hi (st.getD 1) x.length).length == x.length) = true then x else ⟨((Builtin.Str.strSliceIndices lo hi (st.getD 1) x.length).filterMap (x.cps[·]?)).toArray⟩
noncomputable def ppart (p : PV) (f : Option Int → PM PV) : PM PV := match p with
  | .none => f none
  | .int i => f (some i)
  | _ => pfail
noncomputable def pcut (o a b c : PV) : PM PV := ppart a fun lo => ppart b fun hi => ppart c fun st => pguard (st ≠ some 0) (match o with
  | .ref i => plist i fun l => pguard (l.length ≤ sizeLine) (palloc (.list (ppick l lo hi st)))
  | .str x => pguard (x.length ≤ sizeLine) (PM.pure (.str (xpick x lo hi st)))
  | .tup l => pguard ((tpick l lo hi st).length ≤ sizeLine) (PM.pure (.tup (tpick l lo hi st)))
  | _ => pfail)
theorem All2.filterMap {α β : Type} {R : α → β → Prop} {as : List α} {bs : List β} (x : All2 R as bs) : ∀ (is : List Nat), All2 R (is.filterMap (as[·]?)) (is.filterMap (bs[·]?))
  | [] => .nil
  | i :: is => by
    have ih := x.filterMap is
    cases h : bs[i]? with
    | none =>
      have : as[i]? = none := by
        rw [List.getElem?_eq_none_iff] at h ⊢
        rw [x.length]; exact h
      simp only [List.filterMap_cons, h, this]; exact ih
    | some b =>
      obtain ⟨a, e, r⟩ := x.get h
      simp only [List.filterMap_cons, h, e]
      exact .cons r ih
theorem All2.filterMapF {α β : Type} {R : α → β → Prop} {as : List α} {bs : List β} (x : All2 R as bs) (f : Nat → Nat) : ∀ (is : List Nat), All2 R (is.filterMap fun k => as[f k]?) (is.filterMap fun k => bs[f k]?)
  | [] => .nil
  | i :: is => by
    have ih := x.filterMapF f is
    cases h : bs[f i]? with
    | none =>
      have : as[f i]? = none := by
        rw [List.getElem?_eq_none_iff] at h ⊢
        rw [x.length]; exact h
      simp only [List.filterMap_cons, h, this]; exact ih
    | some b =>
      obtain ⟨a, e, r⟩ := x.get h
      simp only [List.filterMap_cons, h, e]
      exact .cons r ih
theorem range_all {α : Type} (l : List α) : (List.range l.length).filterMap (fun k => l[k]?) = l := by
  induction l with
  | nil => rfl
  | cons a l ih =>
    rw [List.length_cons, List.range_succ_eq_map, List.filterMap_cons, List.filterMap_map]
    simp only [List.getElem?_cons_zero]
    congr 1
section
variable {W : Wd} {d : Nat} {env : Env} {G : GG}
set_option tactic.hygienic true in
theorem place_rep {R : Value → PV → Prop} {vs : List Value} {l : List PV} (z : All2 R vs l) {k : Int} {p : PV} (e : pplace l k = some p) : (0 ≤ k ∧ ∃ v, vs[k.toNat]? = some v ∧ R v p) ∨ (k < 0 ∧ -(vs.length : Int) ≤ k ∧ ∃ v, vs[(k + vs.length).toNat]? = some v ∧ R v p) := by
  unfold pplace at e
  split at e
  · rename_i h; exact .inl ⟨h, z.get e⟩
  · split at e
    · rename_i h1 h2
      rw [← z.length] at h2 e
      exact .inr ⟨by lia, h2, z.get e⟩
    · cases e
theorem pplaceM_inv {s : Shared} {ρ : Rh} {σ : PS} {Q : Value → Shared → Prop} {E : Value → Shared → Prop} {l : List PV} {k : Int} (hp : Post0 W env rrV s ρ Q E (pplaceM l k σ)) : ∃ p, pplace l k = some p ∧ k.natAbs < 2 ^ 62 ∧ Post0 W env rrV s ρ Q E (PM.pure p σ) := by
  obtain ⟨p, e, hp⟩ := popt_inv hp
  obtain ⟨h1, hp⟩ := pguard_inv hp
  exact ⟨p, e, h1, hp⟩
theorem seqIndex_pos {k : Int} {n : Nat} (h0 : 0 ≤ k) (h1 : k < n) : seqIndex? k n = some k.toNat := by
  have hn : ¬ k < 0 := by lia
  unfold seqIndex?
  simp only [hn, if_false]
  rw [if_pos (by simp only [Bool.and_eq_true, decide_eq_true_eq]; lia)]
theorem lt_of_get {α : Type} {l : List α} {i : Nat} {a : α} (h : l[i]? = some a) : i < l.length := by
  rcases Nat.lt_or_ge i l.length with q | q
  · exact q
  · rw [List.getElem?_eq_none q] at h; cases h

theorem o_item {value slice : Expr} {a b : Value} {pa pb : PV} (ga : ∀ h ρ, G.P h ρ → RepV h ρ a pa) (gb : ∀ h ρ, G.P h ρ → RepV h ρ b pb)
    (hs : ∀ o i, subscripted slice false o i = operate [o, i] (getItem o i)) : Sim W d env rrV G (subscriptTail value slice a b) (pitem pa pb) := by
  refine Sim.of0 ?_
  intro A s ρ σ Q E ha hr hg hp
  have ra := ga _ _ hg
  have rb := gb _ _ hg
  unfold pitem at hp
  split at hp
  · obtain ⟨l, e1, hp⟩ := plist_inv hp
    obtain ⟨p, e2, hk, hp⟩ := pplaceM_inv hp
    obtain ⟨x, rfl, _, vs, n, ho, z⟩ := ref_inv hr.cells ra e1
    obtain ⟨u, rfl⟩ := rb
    have hl : s.heap.IsList x vs.toArray := ⟨_, ho, rfl, n, rfl⟩
    rcases place_rep z e2 with ⟨h0, v, ev, rv⟩ | ⟨h0, h1, v, ev, rv⟩
    · exact tail_any hl.typeIs slot_list_getitem.lookup (wpAny_getItem_list hl h0 (by lia) (by simpa using ev) (post_val hr hp rv _)) (hs _ _)
    · exact tail_any hl.typeIs slot_list_getitem.lookup (wpAny_getItem_list_neg hl h0 (by simpa using h1) (by lia) (by simpa using ev) (post_val hr hp rv _)) (hs _ _)
  · obtain ⟨p, e2, hk, hp⟩ := pplaceM_inv hp
    obtain ⟨x, vs, rfl, ht, z⟩ := ra
    obtain ⟨u, rfl⟩ := rb
    rcases place_rep z e2 with ⟨h0, v, ev, rv⟩ | ⟨h0, h1, v, ev, rv⟩
    · have lt := lt_of_get ev
      exact tail_any ht.typeIs slot_tuple_getitem.lookup (PyProof.Rows.getItem_tuple ht (by lia) (by lia) (by rw [List.size_toArray]; exact seqIndex_pos h0 (by lia)) (by simpa using ev) (post_val hr hp rv.repV _)) (hs _ _)
    · exact tail_any ht.typeIs slot_tuple_getitem.lookup (PyProof.Rows.getItem_tuple ht (by lia) (by lia) (by rw [List.size_toArray]; exact seqIndex_neg h0 h1) (by simpa using ev) (post_val hr hp rv.repV _)) (hs _ _)
  · obtain ⟨t, rfl⟩ := ra; obtain ⟨u, rfl⟩ := rb
    obtain ⟨c, e, hp⟩ := popt_inv hp
    obtain ⟨hk, hp⟩ := pguard_inv hp
    refine tail_any (typeIs_str _ _ _) slot_str_getitem.lookup (PyProof.Rows.getItem_str ?_ e (post_val hr hp ⟨_, rfl⟩ _)) (hs _ _)
    simp only [Bool.or_eq_false_iff, decide_eq_false_iff_not]; lia
  · exact hp.elim
theorem s_item {v i : Expr} {pos : Pos} {p q : PM PV} (hv : SE W d env v p) (hi : SE W d env i q) (hs : ∀ o x, subscripted i false o x = operate [o, x] (getItem o x)) : SE W d env (.Subscript v i pos) (PM.bind p fun a => PM.bind q fun b => pitem a b) := by
  intro G
  rw [eval_Subscript]
  exact Sim.bind (hv G) fun a pa => Sim.bind (Sim.holding (hi _)) fun b pb => Sim.stand (o_item (value := v) (slice := i) (fun _ _ g => g.1.2) (fun _ _ g => g.2) hs)

noncomputable def SP (W : Wd) (d : Nat) (env : Env) (e : Option Expr) (p : PM PV) : Prop := ∀ G, Sim W d env rrV G (valueOrNone (evalOpt e env)) p
theorem sp_none : SP W d env none (PM.pure .none) := fun G => Sim.pure (R := rrV) fun _ _ _ => rfl
theorem sp_some {e : Expr} {p : PM PV} (h : SE W d env e p) : SP W d env (some e) p := h
theorem ppart_inv {s : Shared} {ρ : Rh} {σ : PS} {Q : Value → Shared → Prop} {E : Value → Shared → Prop} {p : PV} {f : Option Int → PM PV} {v : Value} {h : Heap} (r : RepV h ρ v p) (hp : Post0 W env rrV s ρ Q E (ppart p f σ)) : ∃ o u, v = partValue u ∧ u.map (·.1) = o ∧ IsPart v o ∧ Post0 W env rrV s ρ Q E (f o σ) := by
  cases p with
  | none => cases r; exact ⟨none, none, rfl, rfl, .none, hp⟩
  | int i => obtain ⟨t, rfl⟩ := r; exact ⟨some i, some (i, t), rfl, rfl, .int i t, hp⟩
  | _ => exact hp.elim
theorem slicePart {prog : Program} {w : World} {A : Around} {E : Value → Shared → Prop} {s : Shared} {v : Value} {o : Option Int} {Q : Option Int → Shared → Prop} (pt : IsPart v o) (h : Q o s) : wpAny (model prog w) A (Builtin.Slice.slicePartIndex v) Q E s := by
  cases pt with
  | none => exact slicePart_none h
  | int i t => exact slicePart_int h
theorem sliceApplied_any {prog : Program} {w : World} {A : Around} {E : Value → Shared → Prop} {s : Shared} {sl : Addr} {vl vu vs : Value} {lo hi st : Option Int} {n : Nat} {Q : Int × Int × Nat → Shared → Prop} (hs : s.heap.IsSliceOf sl vl vu vs)
    (pl : IsPart vl lo) (pu : IsPart vu hi) (ps : IsPart vs st) (h0 : st ≠ some 0)
    (h : Q ((Builtin.Slice.sliceAdjust lo hi (st.getD 1) n).1, st.getD 1, Builtin.Slice.slicePlaces (Builtin.Slice.sliceAdjust lo hi (st.getD 1) n).1 (Builtin.Slice.sliceAdjust lo hi (st.getD 1) n).2 (st.getD 1)) s) :
    wpAny (model prog w) A (Builtin.Slice.sliceApplied (.ref sl) (pure (n : Int))) Q E s := by
  obtain ⟨os, hos, hcs, hds⟩ := id hs
  unfold Builtin.Slice.sliceApplied Builtin.Slice.sliceFields
  refine wpAny_bind (wpAny_bind (wpAny_field hos hds (x := vl) rfl (wpAny_bind (wpAny_field hos hds (x := vu) rfl (wpAny_bind (wpAny_field hos hds (x := vs) rfl (wpAny_pure ?_)))))))
  refine wpAny_bind (slicePart ps ?_)
  have hz : ¬ ((st.getD 1 == 0) = true) := by
    cases st with
    | none => decide
    | some k => intro e; exact h0 (by rw [beq_iff_eq] at e; exact congrArg some e)
  show wpAny _ _ (if (st.getD 1 == 0) = true then _ else _) _ _ s
  rw [if_neg hz]
  exact wpAny_bind (slicePart pl (wpAny_bind (slicePart pu (wpAny_bind (wpAny_pure (wpAny_pure h))))))
set_option tactic.hygienic true in
theorem o_cut {value : Expr} {lo hi st : Option Expr} {sp pos : Pos} {o a b c : Value} {po pa pb pc : PV} (go : ∀ h ρ, G.P h ρ → RepV h ρ o po) (ga : ∀ h ρ, G.P h ρ → RepV h ρ a pa) (gb : ∀ h ρ, G.P h ρ → RepV h ρ b pb) (gc : ∀ h ρ, G.P h ρ → RepV h ρ c pc) :
    Sim W d env rrV G (holding [o] (newFields "slice" [a, b, c]) >>= fun i => standAt pos >>= fun _ => subscriptTail value (.Slice lo hi st sp) o i) (pcut po pa pb pc) := by
  refine Sim.of0 ?_
  intro A s ρ σ Q E ha hr hg hp
  have ro := go _ _ hg
  have ra := ga _ _ hg
  have rb := gb _ _ hg
  have rc := gc _ _ hg
  unfold pcut at hp
  obtain ⟨x, u1, eu1, em1, p1, hp⟩ := ppart_inv ra hp
  obtain ⟨y, u2, eu2, em2, p2, hp⟩ := ppart_inv rb hp
  obtain ⟨z, u3, eu3, em3, p3, hp⟩ := ppart_inv rc hp
  obtain ⟨h0, hp⟩ := pguard_inv hp
  unfold newFields
  refine wpAny_bind (wpAny_holding (wpAny_newObj_type (wpAny_bind (wpAny_standAt ?_)) (by show 3 ≤ sizeLine + 2; rw [sizeLine_eq]; omega)))
  have hs : ∀ (v w : Value), subscripted (.Slice lo hi st sp) false v w = operate (match st with | none => [w, v] | some _ => [v, w]) (getItem v w) := by
    intro v w; cases st <;> rfl
  have k := Keeps.push (h := s.heap) { cls := .type "slice", data := .fields #[a, b, c] }
  have R1 := hr.keeps k
  have hp1 := hp.trans (s₁ := { s with heap := s.heap.push { cls := .type "slice", data := .fields #[a, b, c] } }) rfl (Ext0.keeps k)
  have hsl := Heap.IsSliceOf.new s.heap a b c
  cases po with
  | ref i =>
    obtain ⟨l, e1, hp1⟩ := plist_inv hp1
    obtain ⟨hsz, hp1⟩ := pguard_inv hp1
    obtain ⟨x', rfl, _, vs, n, ho, zz⟩ := ref_inv R1.cells (ro.stb (k.stb .refl)) e1
    have hl : (s.heap.push { cls := .type "slice", data := .fields #[a, b, c] }).IsList x' vs.toArray := ⟨_, ho, rfl, n, rfl⟩
    refine tail_any (s := { s with heap := s.heap.push { cls := .type "slice", data := .fields #[a, b, c] } }) hl.typeIs slot_list_getitem.lookup (wpAny_getItem_list_slice hl hsl p1 p2 p3 h0 ?_ (by rw [List.size_toArray, zz.length]; exact hsz)) (hs _ _)
    have e : slicePick vs.toArray x y z = (ppick vs x y z).toArray := by
      unfold slicePick ppick
      simp
    rw [e]
    refine post_list R1 hp1 ?_ s.toks
    unfold ppick
    rw [zz.length]
    exact zz.filterMap _
  | str t =>
    obtain ⟨hsz, hp1⟩ := pguard_inv hp1
    obtain ⟨t', rfl⟩ := ro
    subst eu1 eu2 eu3
    refine tail_any (s := { s with heap := s.heap.push { cls := .type "slice", data := .fields #[partValue u1, partValue u2, partValue u3] } }) (typeIs_str _ _ _) slot_str_getitem.lookup (wpAny_getItem_str_slice (l := u1) (u := u2) (st := u3) ?_ ?_ ?_) (hs _ _)
    · exact ⟨_, Heap.get?_push_size _ rfl, rfl, rfl⟩
    · rw [em3]
      cases z with
      | none => rfl
      | some k => show (k == 0) = false; rw [beq_eq_false_iff_ne]; intro e; exact h0 (by rw [e])
    · unfold sliceMade slicePicked
      rw [em1, em2, em3]
      unfold xpick at hp1
      split
      · rename_i hc
        rw [if_pos hc] at hp1
        exact post_val R1 hp1 ⟨_, rfl⟩ _
      · rename_i hc
        rw [if_neg hc] at hp1
        refine ⟨?_, post_val R1 hp1 ⟨_, rfl⟩ _⟩
        have h0' : z.getD 1 ≠ 0 := by
          cases z with
          | none => decide
          | some k => intro e; exact h0 (congrArg some e)
        show (List.filterMap _ _).toArray.size ≤ sizeLine
        rw [List.size_toArray]
        exact Nat.le_trans (Nat.le_trans (List.length_filterMap_le _ _) (sliceIndicesBy_le _ _ _ h0' t.length)) hsz
  | tup l =>
    obtain ⟨hsz, hp1⟩ := pguard_inv hp1
    obtain ⟨t, vs, rfl, ht, zz⟩ := ro
    have ht1 := k.tup ht
    obtain ⟨os, hos, hcs, hds⟩ := id hsl
    refine tail_any (s := { s with heap := s.heap.push { cls := .type "slice", data := .fields #[a, b, c] } }) ht1.typeIs slot_tuple_getitem.lookup ?_ (hs _ _)
    unfold getItem
    try with_reducible refine wpAny_holding ?_
    first | refine wpAny_bind (wpAny_pure ?_) | skip
    refine wpAny_bind (wpAny_sequenceKey ht1.typeIs (by decide) ?_)
    refine wpAny_bind (wpAny_callSpecial?_slot (name := Str.ofString "__getitem__") ht1.typeIs slot_tuple_getitem
      (wpAny_call_entry slot_tuple_getitem ht1.typeIs entry_tuple_getitem ?_ (args_tuple_getitem _ _)))
    show wpAny _ _ (Builtin.Tuple.tupleItemsOf (.ref t) >>= _) _ _ _
    refine wpAny_bind (tupleItemsOf_ ht1 ?_)
    refine wpAny_bind (wpAny_typeOf (T := "slice") ⟨os, hos, hcs⟩ ?_)
    rw [if_pos (by decide)]
    refine wpAny_bind (sliceApplied_any hsl p1 p2 p3 h0 ?_)
    have esz : (vs.toArray.size : Int) = (l.length : Int) := by rw [List.size_toArray, zz.length]
    have eL : ∀ lo n, ((List.range n).filterMap fun (k : Nat) => vs.toArray[(lo + (k : Int) * z.getD 1).toNat]?) = (List.range n).filterMap fun (k : Nat) => vs[(lo + (k : Int) * z.getD 1).toNat]? := by
      intro lo n; simp
    dsimp only
    rw [esz, List.size_toArray, zz.length]
    simp only [eL]
    have zt : All2 (RepA ρ) ((List.range (Builtin.Slice.slicePlaces (Builtin.Slice.sliceAdjust x y (z.getD 1) l.length).1 (Builtin.Slice.sliceAdjust x y (z.getD 1) l.length).2 (z.getD 1))).filterMap
      fun (k : Nat) => vs[((Builtin.Slice.sliceAdjust x y (z.getD 1) l.length).1 + (k : Int) * (z.getD 1)).toNat]?) (tpick l x y z) := zz.filterMapF _ _
    have fin : ∀ (A' : Around), wpAny (model W.prog W.w) A' (Builtin.Tuple.tupleExact ((List.range (Builtin.Slice.slicePlaces (Builtin.Slice.sliceAdjust x y (z.getD 1) l.length).1 (Builtin.Slice.sliceAdjust x y (z.getD 1) l.length).2 (z.getD 1))).filterMap
      fun (k : Nat) => vs[((Builtin.Slice.sliceAdjust x y (z.getD 1) l.length).1 + (k : Int) * (z.getD 1)).toNat]?).toArray >>= fun v => ret v) (fun fin s' => ∃ v, fin = Fin.done (Flow.ret v) ∧ wpAny (model W.prog W.w) A (pure v) Q E s') E
        { s with heap := s.heap.push { cls := .type "slice", data := .fields #[a, b, c] } } := by
      intro A'
      refine wpAny_bind (m := Builtin.Tuple.tupleExact _) (wpAny_newObj_type (wpAny_pure ⟨_, rfl, wpAny_pure ?_⟩) (by
        show (List.filterMap _ _).toArray.size ≤ sizeLine
        rw [List.size_toArray, zt.length]; exact hsz))
      refine post_push R1 hp1 ?_ s.toks
      exact ⟨_, _, rfl, ⟨_, Heap.get?_push_size _ rfl, rfl, 0, rfl⟩, zt⟩
    split
    · rename_i hc
      simp only [Bool.and_eq_true, beq_iff_eq] at hc
      obtain ⟨⟨c1, c2⟩, c3⟩ := hc
      have et : tpick l x y z = l := by
        unfold tpick
        rw [c3, c1, c2]
        have : (fun (k : Nat) => l[((0 : Int) + (k : Int) * 1).toNat]?) = fun k => l[k]? := by
          funext k
          have : ((0 : Int) + (k : Int) * 1).toNat = k := by omega
          rw [this]
        rw [this]; exact range_all l
      refine wpAny_bind (wpAny_bind (wpAny_typeOf ht1.typeIs (wpAny_pure ?_)))
      rw [if_pos (by decide)]
      refine wpAny_bind (wpAny_rule (wpAny_pure ⟨_, rfl, wpAny_pure ?_⟩))
      rw [et] at hp1
      exact post_val R1 hp1 ⟨_, vs, rfl, ht1, zz⟩ _
    · exact fin _
  | _ => exact hp1.elim
theorem arm_Slice (lower upper step : Option Expr) (pos : Pos) : eval (.Slice lower upper step pos) env = (do
    let l ← valueOrNone (evalOpt lower env)
    let u ← holding [l] (valueOrNone (evalOpt upper env))
    let s ← holding [l, u] (valueOrNone (evalOpt step env))
    newFields "slice" [l, u, s]) := rfl
theorem s_cut {v : Expr} {lo hi st : Option Expr} {sp pos : Pos} {p a b c : PM PV} (hv : SE W d env v p) (ha : SP W d env lo a) (hb : SP W d env hi b) (hc : SP W d env st c) :
    SE W d env (.Subscript v (.Slice lo hi st sp) pos) (PM.bind p fun o => PM.bind a fun x => PM.bind b fun y => PM.bind c fun z => pcut o x y z) := by
  intro G
  rw [eval_Subscript, arm_Slice]
  refine Sim.bind (hv G) fun o po => ?_
  refine Sim.eq (t' := holding [o] (valueOrNone (evalOpt lo env)) >>= fun l => holding [o] (holding [l] (valueOrNone (evalOpt hi env))) >>= fun u => holding [o] (holding [l, u] (valueOrNone (evalOpt st env))) >>= fun s =>
    holding [o] (newFields "slice" [l, u, s]) >>= fun i => standAt pos >>= fun _ => subscriptTail v (.Slice lo hi st sp) o i) ?_ ?_ rfl
  · refine Sim.bind (Sim.holding (ha _)) fun l pl => Sim.bind (Sim.holding (Sim.holding (hb _))) fun u pu => Sim.bind (Sim.holding (Sim.holding (hc _))) fun s ps => ?_
    exact o_cut (fun _ _ g => g.1.1.1.2) (fun _ _ g => g.1.1.2) (fun _ _ g => g.1.2) (fun _ _ g => g.2)
  · have hb : ∀ {α β : Type} (m : Sem α) (f : α → Sem β), holding [o] (m >>= f) = (holding [o] m >>= fun a => holding [o] (f a)) := fun m f => PySem.holding_bind [o] m f
    simp only [hb, bind_assoc]
    rfl
end
end

section
open PySem PySem.W PyProof.Rows PySem.Spec PySem.SeqAt
set_option autoImplicit false
set_option linter.unusedVariables false
set_option maxRecDepth 100000
set_option tactic.hygienic false
noncomputable def KwRel (h : Heap) (ρ : Rh) : List (Str × Value) → List (String × PV) → Prop := All2 fun x y => x.1 = Str.ofString y.1 ∧ RepV h ρ x.2 y.2
noncomputable def rrA : RR Args (List PV × List (String × PV)) := ⟨fun h ρ a b => All2 (RepV h ρ) a.pos b.1 ∧ KwRel h ρ a.kw b.2, fun x r => ⟨r.1.mono fun _ _ y => y.stb x, r.2.mono fun _ _ y => ⟨y.1, y.2.stb x⟩⟩⟩
noncomputable def noStar (es : List Expr) : Bool := es.all fun e => !isStarred e
noncomputable def SA (W : Wd) (d : Nat) (env : Env) (es : List Expr) (ks : List Keyword) (p : PM (List PV × List (String × PV))) : Prop :=
  ∀ G f pos, Sim W d env rrA G (evalArgs f true (backTo pos (starEach es env)) (backToKw pos (keywordEach ks env))) p
section
variable {W : Wd} {d : Nat} {env : Env} {G : GG}
theorem noStar_any {es : List Expr} {pos : Pos} (h : noStar es = true) : (backTo pos (starEach es env)).any (·.1) = false := by
  induction es with
  | nil => rfl
  | cons e es ih =>
    simp only [noStar, List.all_cons, Bool.and_eq_true] at h
    have e1 : starEach (e :: es) env = (false, eval e env) :: starEach es env := star_cons (by simpa using h.1)
    rw [e1]
    show (false || (backTo pos (starEach es env)).any (·.1)) = false
    rw [ih h.2]; rfl
theorem sa_pos {es : List Expr} {ps : PM (List PV)} (h : SEs W d env es ps) (hn : noStar es = true) : SA W d env es [] (PM.bind ps fun l => PM.pure (l, [])) := by
  intro G f pos
  cases es with
  | nil =>
    refine Sim.eq (t' := spliced (backTo pos (starEach [] env)) >>= fun vs => pure (⟨vs, []⟩ : Args)) (Sim.bind (h G pos) fun vs l => Sim.pure (R := rrA) (b := (l, [])) fun _ _ g => ⟨g.2, .nil⟩) rfl rfl
  | cons e es =>
    simp only [noStar, List.all_cons, Bool.and_eq_true] at hn
    have e1 : starEach (e :: es) env = (false, eval e env) :: starEach es env := star_cons (by simpa using hn.1)
    intro A s ρ σ Q E ha hr hg hp
    have z := h G pos
    rw [e1] at z ⊢
    refine Calls.evalArgs_plain (z A s ρ σ _ _ ha hr hg ?_)
    unfold PM.bind at hp
    match hq : ps σ, hp with
    | some (.ok b, σ₁), hp => exact fun a h' ρ' tk r1 e1 l q => hp ⟨a, []⟩ h' ρ' tk r1 e1 l ⟨q, .nil⟩
    | some (.exc, σ₁), hp => exact hp
theorem sa_kw1 {es : List Expr} {n : String} {e : Expr} {kp : Pos} {ps : PM (List PV)} {p : PM PV} (h : SEs W d env es ps) (he : SE W d env e p) (hn : noStar es = true) :
    SA W d env es [⟨some (Str.ofString n), e, kp⟩] (PM.bind ps fun l => PM.bind p fun v => PM.pure (l, [(n, v)])) := by
  intro G f pos
  have key : ∀ (vs : List Value) (l : List PV) (G' : GG), (∀ h ρ, G'.P h ρ → All2 (RepV h ρ) vs l) → ∀ (A : Around) (s : Shared) (ρ : Rh) (σ : PS) (Q : Args → Shared → Prop) (E : Value → Shared → Prop), AOk W d A s ρ → Rel W env s.heap ρ σ → G'.P s.heap ρ →
      Post W env rrA s ρ Q E ((PM.bind p fun v => PM.pure (l, [(n, v)])) σ) → wpAny (model W.prog W.w) A (evalAll ((backToKw pos (keywordEach [⟨some (Str.ofString n), e, kp⟩] env)).map (·.2))) (fun ks s₂ => Q ⟨vs, ((backToKw pos (keywordEach [⟨some (Str.ofString n), e, kp⟩] env)).filterMap (·.1)).zip ks⟩ s₂) E s := by
    intro vs l G' hv A s ρ σ Q E ha hr hg hp
    refine wpAny_evalAll_cons (wpAny_bind (he G' A s ρ σ _ _ ha hr hg ?_))
    unfold PM.bind at hp
    match hq : p σ, hp with
    | some (.ok b, σ₁), hp =>
      exact fun a h' ρ' tk r1 e1 lt q => wpAny_bind (wpAny_standAt (wpAny_pure (wpAny_evalAll_nil (hp ⟨vs, [(Str.ofString n, a)]⟩ h' ρ' tk r1 e1 lt ⟨(hv _ _ hg).mono fun _ _ y => y.stb (hr.stb e1), .cons ⟨rfl, q⟩ .nil⟩))))
    | some (.exc, σ₁), hp => exact hp
  cases es with
  | nil =>
    intro A s ρ σ Q E ha hr hg hp
    refine evalArgs_kw_nil rfl ?_
    have hz : ∀ (A : Around), wpAny (model W.prog W.w) A (spliced (backTo pos (starEach [] env))) (fun vs s₁ => wpAny (model W.prog W.w) A (evalAll ((backToKw pos (keywordEach [⟨some (Str.ofString n), e, kp⟩] env)).map (·.2))) (fun ks s₂ => Q ⟨vs, ((backToKw pos (keywordEach [⟨some (Str.ofString n), e, kp⟩] env)).filterMap (·.1)).zip ks⟩ s₂) E s₁) E s → wpAny (model W.prog W.w) A (evalAll ((backToKw pos (keywordEach [⟨some (Str.ofString n), e, kp⟩] env)).map (·.2))) (fun ks s₂ => Q ⟨[], ((backToKw pos (keywordEach [⟨some (Str.ofString n), e, kp⟩] env)).filterMap (·.1)).zip ks⟩ s₂) E s := fun A x Γ p hΓ => x Γ p hΓ Γ p hΓ
    refine hz A (h G pos A s ρ σ _ _ ha hr hg ?_)
    unfold PM.bind at hp
    match hq : ps σ, hp with
    | some (.ok b, σ₁), hp => exact fun a h' ρ' tk r1 e1 lt q => key a b ⟨fun h ρ => All2 (RepV h ρ) a b, fun x y => y.mono fun _ _ z => z.stb x⟩ (fun _ _ g => g) A _ ρ' σ₁ Q E (ha.ext r1 e1 lt) r1 q (hp.trans rfl e1)
    | some (.exc, σ₁), hp => exact hp
  | cons e' es =>
    simp only [noStar, List.all_cons, Bool.and_eq_true] at hn
    have e1 : starEach (e' :: es) env = (false, eval e' env) :: starEach es env := star_cons (by simpa using hn.1)
    intro A s ρ σ Q E ha hr hg hp
    have z := h G pos
    rw [e1] at z ⊢
    refine evalArgs_kw rfl (z A s ρ σ _ _ ha hr hg ?_)
    unfold PM.bind at hp
    match hq : ps σ, hp with
    | some (.ok b, σ₁), hp => exact fun a h' ρ' tk r1 e1 lt q => key a b ⟨fun h ρ => All2 (RepV h ρ) a b, fun x y => y.mono fun _ _ z => z.stb x⟩ (fun _ _ g => g) A _ ρ' σ₁ Q E (ha.ext r1 e1 lt) r1 q (hp.trans rfl e1)
    | some (.exc, σ₁), hp => exact hp
end

noncomputable abbrev FSpec := List PV → List (String × PV) → List PO → Option (Res PV × List PO)
noncomputable def FPost (W : Wd) (s : Shared) (ρ : Rh) (Q : Value → Shared → Prop) (E : Value → Shared → Prop) : Option (Res PV × List PO) → Prop
  | none => False
  | some (.ok v, H') => ∀ x h' ρ' tk, Cells W h' ρ' H' → Ext W [] s.heap ρ h' ρ' → (ρ'.t ≤ tk ∧ 0 < tk) → RepV h' ρ' x v → Q x { s with heap := h', toks := tk }
  | some (.exc, H') => ∀ x h' ρ' tk, Cells W h' ρ' H' → Ext W [] s.heap ρ h' ρ' → (ρ'.t ≤ tk ∧ 0 < tk) → ExcAt W s.heap h' x → E x { s with heap := h', toks := tk }
noncomputable def FHolds (W : Wd) (d : Nat) (f : Value) (spec : FSpec) : Prop :=
  ∀ (A : Around) (s : Shared) (ρ : Rh) (H : List PO) (args : List Value) (kw : List (Str × Value)) (pargs : List PV) (pkw : List (String × PV)) (Q : Value → Shared → Prop) (E : Value → Shared → Prop),
    AOk W d A s ρ → Cells W s.heap ρ H → All2 (RepV s.heap ρ) args pargs → KwRel s.heap ρ kw pkw → FPost W s ρ Q E (spec pargs pkw H) → wpAny (model W.prog W.w) A (call f args kw) Q E s
noncomputable def pcall (spec : FSpec) (args : List PV) (kw : List (String × PV)) : PM PV := fun σ => match spec args kw σ.H with
  | some (r, H') => some (r, { σ with H := H' })
  | none => none
theorem FHolds.weak {W : Wd} {d : Nat} {f : Value} {spec spec' : FSpec} (h : FHolds W d f spec) (k : ∀ a kw H r, spec' a kw H = some r → spec a kw H = some r) : FHolds W d f spec' := by
  intro A s ρ H args kw pargs pkw Q E ha hc hr hk hp
  refine h A s ρ H args kw pargs pkw Q E ha hc hr hk ?_
  match e : spec' pargs pkw H, hp with
  | some r, hp => rw [k _ _ _ _ e]; exact hp
section
variable {W : Wd} {d : Nat} {env : Env} {G : GG}
theorem ns_slots {h h' : Heap} {a : Addr} {m : Str → Option Value} (n : h.Ns a m) (k : ∀ o, h.get? a = some o → ∃ sl, h'.get? a = some { o with slots := sl }) : h'.Ns a m := by
  obtain ⟨o, es, ep, e, r⟩ := n
  obtain ⟨sl, e'⟩ := k o e
  exact ⟨_, es, ep, e', r⟩
theorem cell_slots {h h' : Heap} {a : Addr} {v : Option Value} (n : h.IsCell a v) (k : ∀ o, h.get? a = some o → ∃ sl, h'.get? a = some { o with slots := sl }) : h'.IsCell a v := by
  obtain ⟨o, e, r⟩ := n
  obtain ⟨sl, e'⟩ := k o e
  exact ⟨_, e', r⟩
theorem Rel.fpIn {h : Heap} {ρ : Rh} {σ : PS} (R : Rel W env h ρ σ) {a : Addr} (m : a ∈ fp env) : ∃ o, h.get? a = some o := by
  rcases List.mem_cons.mp m with rfl | m
  · obtain ⟨m, ⟨o', es, ep, e', d', _⟩, _⟩ := R.lk; exact ⟨o', e'⟩
  · obtain ⟨y, hy, rfl⟩ := List.mem_map.mp m
    obtain ⟨v, o', e', d'⟩ := R.isc y hy
    exact ⟨o', e'⟩
theorem Rel.after {h h' : Heap} {ρ ρ' : Rh} {σ : PS} {H' : List PO} (R : Rel W env h ρ σ) (c : Cells W h' ρ' H') (e : Ext W [] h ρ h' ρ') : Rel W env h' ρ' { σ with H := H' } := by
  have kp : ∀ a ∈ fp env, ∀ o, h.get? a = some o → ∃ sl, h'.get? a = some { o with slots := sl } := fun a m o ho => e.keep a o ho (R.fpn a m).2 (by simp)
  have st := R.cells.stb e
  obtain ⟨m, hn, hl⟩ := R.lk
  refine ⟨R.eok, c, ⟨m, ns_slots hn (kp _ (.head _)), fun n p q => ?_⟩, fun a ma => ⟨(R.fpn a ma).1, fun q => ?_⟩, R.fpd, R.apart, fun x hx => ?_⟩
  · obtain ⟨v, r, na⟩ := hl n p q
    refine ⟨v, r.stb st, ?_⟩
    rcases na with na | ⟨na, cc, e1, e2⟩
    · exact .inl na
    · exact .inr ⟨na, cc, e1, cell_slots e2 (kp _ (.tail _ (List.mem_map.mpr ⟨_, mem_of_lookup e1, rfl⟩)))⟩
  · rcases e.new a q with q | q
    · exact (R.fpn a ma).2 q
    · obtain ⟨o, z⟩ := R.fpIn ma; rw [z] at q; cases q
  · obtain ⟨v, z⟩ := R.isc x hx
    exact ⟨v, cell_slots z (kp _ (.tail _ (List.mem_map.mpr ⟨x, hx, rfl⟩)))⟩
theorem sim_call {f : Value} {spec : FSpec} (F : FHolds W d f spec) {args : List Value} {kw : List (Str × Value)} {pargs : List PV} {pkw : List (String × PV)} (ga : ∀ h ρ, G.P h ρ → All2 (RepV h ρ) args pargs) (gk : ∀ h ρ, G.P h ρ → KwRel h ρ kw pkw) :
    Sim W d env rrV G (call f args kw) (pcall spec pargs pkw) := by
  intro A s ρ σ Q E ha hr hg hp
  refine F A s ρ σ.H args kw pargs pkw Q E ha hr.cells (ga _ _ hg) (gk _ _ hg) ?_
  unfold pcall at hp
  match h : spec pargs pkw σ.H, hp with
  | some (.ok v, H'), hp => exact fun x h' ρ' tk c e l r => hp x h' ρ' tk (hr.after c e) (e.mono fun _ q => by simp at q) l r
  | some (.exc, H'), hp => exact fun x h' ρ' tk c e l r => hp x h' ρ' tk (hr.after c e) (e.mono fun _ q => by simp at q) l r

end
end

section
open PySem PySem.W PyProof.Rows PySem.Spec PySem.SeqAt
set_option autoImplicit false
set_option linter.unusedVariables false
set_option maxRecDepth 100000
set_option tactic.hygienic false
noncomputable def pstr {α : Type} (a : PV) (f : Str → PM α) : PM α := match a with
  | .str x => f x
  | _ => pfail
section
variable {W : Wd} {d : Nat} {env : Env} {G : GG}
theorem s_pstr {α β : Type} {R : RR α β} {G : GG} {t : Sem α} {a : PV} {f : Str → PM β} (h : ∀ x, a = .str x → Sim W d env R G t (f x)) : Sim W d env R G t (pstr a f) := by
  cases a with
  | str x => exact h x rfl
  | _ => exact s_fail

theorem s_meth_ {o : Expr} {name : Str} {apos pos : Pos} {es : List Expr} {ks : List Keyword} {p : PM PV} {g : PV → PM PV} (ho : SE W d env o p)
    (hg : ∀ (G : GG) (a : Value) (pa : PV), (∀ h ρ, G.P h ρ → RepV h ρ a pa) → Sim W d env rrV G (getMethod a name (do return (← importBound o env).getD true) >>= fun fm => callWith pos fm.1 fm.2 (backTo pos (starEach es env)) (backToKw pos (keywordEach ks env))) (g pa))
    (hb : ∀ t, attributeBase o name env t = t) (hf : methodCallForm (es.length + ks.length) (backTo pos (starEach es env)) (backToKw pos (keywordEach ks env)) = true) (hpos : (apos.endLine == pos.line) = true) :
    SE W d env (.Call (.Attribute o name apos) es ks pos) (PM.bind p g) := by
  intro G
  have e : eval (.Call (.Attribute o name apos) es ks pos) env = (attributeBase o name env (eval o env) >>= fun ov => standAt apos.atName >>= fun _ =>
    methodCall o name apos pos env ov (es.length + ks.length) (backTo pos (starEach es env)) (backToKw pos (keywordEach ks env))) := rfl
  rw [e, hb]
  refine Sim.bind (ho G) fun a pa => Sim.stand ?_
  unfold methodCall calleeOf
  rw [hf]
  simp only [if_true]
  have e2 : methodCallPos true o env apos pos = pure pos := by
    unfold methodCallPos
    rw [hpos]; rfl
  have z := hg (G.add rrV a pa) a pa (fun _ _ g => g.2)
  intro A s ρ σ Q E ha hr hgg hp
  have y := z A s ρ σ Q E ha hr hgg hp
  intro Γ p' hΓ
  have x := y Γ p' hΓ
  rw [Sem.wp_bind'] at x ⊢
  rw [Sem.wp_holding]
  refine Sem.wp_mono _ Γ _ (fun fm p₁ s₁ h₁ => ?_) (fun _ _ _ h => h) _ _ x
  rw [e2]
  exact h₁
noncomputable def rrArgs {β : Type} (R : RR (List Value) β) : RR Args β := ⟨fun h ρ a b => a.kw = [] ∧ R.rel h ρ a.pos b, fun x r => ⟨r.1, R.stb x r.2⟩⟩
noncomputable def SS {β : Type} (W : Wd) (d : Nat) (env : Env) (R : RR (List Value) β) (es : List Expr) (q : PM β) : Prop := ∀ G pos, Sim W d env R G (spliced (backTo pos (starEach es env))) q
theorem sa_posR {β : Type} {R : RR (List Value) β} {es : List Expr} {ps : PM β} (h : SS W d env R es ps) (hn : noStar es = true) (G : GG) (f : Value) (pos : Pos) :
    Sim W d env (rrArgs R) G (evalArgs f true (backTo pos (starEach es env)) []) ps := by
  cases es with
  | nil =>
    intro A s ρ σ Q E ha hr hg hp
    refine wpAny_bind (m := spliced (backTo pos (starEach [] env))) (f := fun vs => pure (⟨vs, []⟩ : Args)) (h G pos A s ρ σ _ _ ha hr hg ?_)
    match hq : ps σ, hp with
    | some (.ok b, σ₁), hp => exact fun a h' ρ' tk r1 e1 l q => wpAny_pure (hp ⟨a, []⟩ h' ρ' tk r1 e1 l ⟨rfl, q⟩)
    | some (.exc, σ₁), hp => exact hp
  | cons e es =>
    simp only [noStar, List.all_cons, Bool.and_eq_true] at hn
    have e1 : starEach (e :: es) env = (false, eval e env) :: starEach es env := star_cons (by simpa using hn.1)
    intro A s ρ σ Q E ha hr hg hp
    have z := h G pos
    rw [e1] at z ⊢
    refine Calls.evalArgs_plain (z A s ρ σ _ _ ha hr hg ?_)
    match hq : ps σ, hp with
    | some (.ok b, σ₁), hp => exact fun a h' ρ' tk r1 e1 l q => hp ⟨a, []⟩ h' ρ' tk r1 e1 l ⟨rfl, q⟩
    | some (.exc, σ₁), hp => exact hp
theorem wp_bm {β : Type} {R : RR (List Value) β} {a : Value} {name : Str} {id : String} {pl : Sem Bool} {es : List Expr} {pos : Pos} {q : PM β} {f : β → PM PV} {A : Around} {s : Shared} {ρ : Rh} {σ : PS} {Q : Value → Shared → Prop} {E : Value → Shared → Prop} (hes : SS W d env R es q) (hn : noStar es = true)
    (ha : AOk W d A s ρ) (hr : Rel W env s.heap ρ σ) (hg : G.P s.heap ρ) (hp : Post W env rrV s ρ Q E (PM.bind q f σ))
    (hgm : ∀ (Q : Value × List Value → Shared → Prop), Q (.builtin id, [a]) s → wpAny (model W.prog W.w) A (getMethod a name pl) Q E s)
    (hc : ∀ (vs : List Value) (l : β), Sim W d env rrV (G.add R vs l) (call (.builtin id) (a :: vs)) (f l)) :
    wpAny (model W.prog W.w) A (getMethod a name pl >>= fun fm => callWith pos fm.1 fm.2 (backTo pos (starEach es env)) (backToKw pos (keywordEach [] env))) Q E s := by
  refine wpAny_bind (hgm _ ?_)
  show wpAny _ _ (callWith pos (.builtin id) [a] (backTo pos (starEach es env)) []) _ _ _
  refine Calls.callWith_builtin (noStar_any hn) ?_
  refine sa_posR hes hn G (.builtin id) pos A s ρ σ _ _ ha hr hg ?_
  unfold PM.bind at hp
  match hq : q σ, hp with
  | some (.ok b, σ₁), hp =>
    intro x h₂ ρ₂ tk₂ r2 e2 l2 ra
    obtain ⟨ek, r1⟩ := ra
    rw [ek]
    exact hc x.pos b A _ ρ₂ σ₁ Q E (ha.ext r2 e2 l2) r2 ⟨G.stb (hr.stb e2) hg, r1⟩ (Post.trans (s := s) rfl e2 hp)
  | some (.exc, σ₁), hp => exact hp
theorem s_strmR {β : Type} {R : RR (List Value) β} {o : Expr} {name : Str} {id : String} {apos pos : Pos} {es : List Expr} {p : PM PV} {q : PM β} {f : Str → β → PM PV}
    (hgm : ∀ (A : Around) (x : Str) (t : Tok) (pl : Sem Bool) (Q : Value × List Value → Shared → Prop) (E : Value → Shared → Prop) (s : Shared), Q (.builtin id, [.str x t]) s → wpAny (model W.prog W.w) A (getMethod (.str x t) name pl) Q E s)
    (hc : ∀ (G : GG) (x : Str) (t : Tok) (vs : List Value) (l : β), (∀ h ρ, G.P h ρ → R.rel h ρ vs l) → Sim W d env rrV G (call (.builtin id) (.str x t :: vs)) (f x l))
    (ho : SE W d env o p) (hes : SS W d env R es q) (hn : noStar es = true)
    (hb : ∀ t, attributeBase o name env t = t) (hf : methodCallForm (es.length + 0) (backTo pos (starEach es env)) [] = true) (hpos : (apos.endLine == pos.line) = true) :
    SE W d env (.Call (.Attribute o name apos) es [] pos) (PM.bind p fun a => pstr a fun x => PM.bind q fun l => f x l) := by
  refine s_meth_ ho (fun G a pa ga => ?_) hb hf hpos
  refine s_pstr fun x hx => ?_
  subst hx
  refine Sim.under fun ⟨h, ρ, g⟩ => ?_
  obtain ⟨t, rfl⟩ := ga h ρ g
  exact fun A s ρ σ Q E ha hr hg hp => wp_bm hes hn ha hr hg hp (fun Q h => hgm A x t _ Q E s h) (fun vs l => hc _ x t vs l fun _ _ g => g.2)
noncomputable def StrM (W : Wd) (d : Nat) (env : Env) (name : Str) (f : Str → List PV → PM PV) : Prop :=
  ∀ {o : Expr} {apos pos : Pos} {es : List Expr} {p : PM PV} {q : PM (List PV)}, SE W d env o p → SEs W d env es q → noStar es = true → (∀ t, attributeBase o name env t = t) → methodCallForm (es.length + 0) (backTo pos (starEach es env)) [] = true → (apos.endLine == pos.line) = true →
    SE W d env (.Call (.Attribute o name apos) es [] pos) (PM.bind p fun a => pstr a fun x => PM.bind q fun l => f x l)
theorem s_strm {name : Str} {id : String} {f : Str → List PV → PM PV}
    (hgm : ∀ (A : Around) (x : Str) (t : Tok) (pl : Sem Bool) (Q : Value × List Value → Shared → Prop) (E : Value → Shared → Prop) (s : Shared), Q (.builtin id, [.str x t]) s → wpAny (model W.prog W.w) A (getMethod (.str x t) name pl) Q E s)
    (hc : ∀ (A : Around) (s : Shared) (ρ : Rh) (σ : PS) (Q : Value → Shared → Prop) (E : Value → Shared → Prop) (x : Str) (t : Tok) (vs : List Value) (l : List PV), Rel W env s.heap ρ σ → All2 (RepV s.heap ρ) vs l → Post0 W env rrV s ρ Q E (f x l σ) → wpAny (model W.prog W.w) A (call (.builtin id) (.str x t :: vs)) Q E s) :
    StrM W d env name f := by
  intro o apos pos es p q ho hes hn hb hf hpos
  refine s_strmR (R := rrL) hgm (fun G x t vs l gl => Sim.of0 ?_) ho hes hn hb hf hpos
  intro A s ρ σ Q E ha hr hg hp
  exact hc A s ρ σ Q E x t vs l hr (gl _ _ hg) hp

theorem one_inv {h : Heap} {ρ : Rh} {vs : List Value} {p : PV} (z : All2 (RepV h ρ) vs [p]) : ∃ v, vs = [v] ∧ RepV h ρ v p := by
  cases z with
  | cons r z => cases z; exact ⟨_, rfl, r⟩
theorem two_inv {h : Heap} {ρ : Rh} {vs : List Value} {p q : PV} (z : All2 (RepV h ρ) vs [p, q]) : ∃ v w, vs = [v, w] ∧ RepV h ρ v p ∧ RepV h ρ w q := by
  cases z with
  | cons r z => obtain ⟨w, rfl, r2⟩ := one_inv z; exact ⟨_, w, rfl, r, r2⟩
theorem nil_inv {h : Heap} {ρ : Rh} {vs : List Value} (z : All2 (RepV h ρ) vs []) : vs = [] := by
  cases z; rfl
noncomputable def mLower (x : Str) : List PV → PM PV
  | [] => pguard (x.length ≤ 5592405) (PM.pure (.str (Txt.lower x)))
  | _ => pfail
theorem s_lower : StrM W d env "lower" mLower := by
  refine s_strm (id := "str.lower") (fun A x t pl Q E s h => PySem.GM.lower h) (fun A s ρ σ Q E x t vs l hr z hp => ?_)
  unfold mLower at hp
  split at hp
  · rw [nil_inv z]
    obtain ⟨h1, hp⟩ := pguard_inv hp
    exact SCL.lower h1 fun _ => post_val hr hp ⟨_, rfl⟩ _
  · exact hp.elim
noncomputable def mPartition (x : Str) : List PV → PM PV
  | [.str y] => pguard ((y.length == 0) = false ∧ x.length ≤ sizeLine) (PM.pure (.tup [.str (Txt.partition x y).1, .str (Txt.partition x y).2.1, .str (Txt.partition x y).2.2]))
  | _ => pfail
set_option tactic.hygienic true in
theorem s_partition : StrM W d env "partition" mPartition := by
  refine s_strm (id := "str.partition") (fun A x t pl Q E s h => PySem.GM.partition h) (fun A s ρ σ Q E x t vs l hr z hp => ?_)
  unfold mPartition at hp
  split at hp
  · rename_i y
    obtain ⟨v, rfl, u, rfl⟩ := one_inv z
    obtain ⟨h1, hp⟩ := pguard_inv hp
    refine call_meets F.slot_str_partition (typeIs_str _ _ _) F.entry_str_partition (F.args_str_partition_2 _ _) (meets_str_partition x y t u h1.1 h1.2) ?_
    unfold Txt.partition at hp
    split
    · rename_i i r e
      rw [e] at hp
      refine post_push hr hp ?_ _
      exact ⟨_, _, rfl, ⟨_, Heap.get?_push_size _ rfl, rfl, 0, rfl⟩, .cons ⟨_, rfl⟩ (.cons ⟨_, rfl⟩ (.cons ⟨_, rfl⟩ .nil))⟩
    · rename_i e
      rw [e] at hp
      refine post_push hr hp ?_ _
      exact ⟨_, _, rfl, ⟨_, Heap.get?_push_size _ rfl, rfl, 0, rfl⟩, .cons ⟨_, rfl⟩ (.cons ⟨_, rfl⟩ (.cons ⟨_, rfl⟩ .nil))⟩
  · exact hp.elim
theorem strs_rep {h : Heap} {ρ : Rh} : ∀ l : List (Str × Tok), All2 (RepV h ρ) (strValues l) ((l.map (·.1)).map .str)
  | [] => .nil
  | (x, t) :: l => .cons ⟨t, rfl⟩ (strs_rep l)
end
end

section
open PySem PySem.W PyProof.Rows PySem.Spec PySem.SeqAt
set_option autoImplicit false
set_option linter.unusedVariables false
set_option maxRecDepth 100000
set_option tactic.hygienic false
section
variable {W : Wd} {d : Nat} {env : Env} {G : GG}

theorem RepO.moved {h h' : Heap} {ρ ρ' : Rh} {b : Addr} {o : PO} (st : Stb h ρ h' ρ') (e : ∀ x, h.get? b = some x → h'.get? b = some x) (r : RepO W h ρ b o) : RepO W h' ρ' b o := by
  cases o with
  | list l => obtain ⟨vs, n, q, z⟩ := r; exact ⟨vs, n, e _ q, z.mono fun _ _ y => y.stb st⟩
  | dct fs =>
    obtain ⟨es, n, m, q, hn, z, sz⟩ := r
    obtain ⟨o', es', ep, e', hr⟩ := hn
    exact ⟨es, n, m, e _ q, ⟨o', es', ep, e _ e', hr⟩, fun x => ⟨fun q y => by obtain ⟨v, e1, e2⟩ := (z x).1 q y; exact ⟨v, e1, e2.stb st⟩, (z x).2⟩, sz⟩
  | inst j => obtain ⟨dd, e1, e2⟩ := r; exact ⟨dd, st.pre _ _ e1, e _ e2⟩
theorem RepO.there {h : Heap} {ρ : Rh} {a : Addr} {o : PO} (r : RepO W h ρ a o) : ∃ x, h.get? a = some x := by
  cases o with
  | list l => obtain ⟨vs, n, q, z⟩ := r; exact ⟨_, q⟩
  | dct fs => obtain ⟨es, n, m, q, _⟩ := r; exact ⟨_, q⟩
  | inst j => obtain ⟨dd, e1, e2⟩ := r; exact ⟨_, e2⟩
theorem Cells.stbSet {h h' : Heap} {ρ : Rh} {H : List PO} {a : Addr} (c : Cells W h ρ H) (m : a ∈ ρ.a) (sb : ∀ b, b ≠ a → h'.get? b = h.get? b) : Stb h ρ h' ρ := by
  refine ⟨fun _ _ e => e, fun b its t => ?_, Nat.le_refl _⟩
  by_cases q : b = a
  · subst q; obtain ⟨_, _, _, _, r⟩ := c.get m; exact (r.noTup t).elim
  · obtain ⟨o, e, z⟩ := t; exact ⟨o, by rw [sb b q]; exact e, z⟩
theorem Cells.set {h h' : Heap} {ρ : Rh} {H : List PO} {i : Nat} {a : Addr} {o : PO} (c : Cells W h ρ H) (ei : ρ.a[i]? = some a) (sb : ∀ b, b ≠ a → h'.get? b = h.get? b) (r : RepO W h' ρ a o) : Cells W h' ρ (H.set i o) := by
  have st := c.stbSet (get_mem ei) sb
  refine ⟨fun b x e => ?_, by rw [List.length_set]; exact c.len, fun j b x e1 e2 => ?_, c.nd, c.new⟩
  · by_cases q : b = a
    · subst q; rw [c.new b (get_mem ei)] at e; cases e
    · rw [sb b q]; exact c.base b x e
  · by_cases q : j = i
    · subst q
      rw [ei] at e1; cases e1
      have hj : j < H.length := by rw [← c.len]; exact lt_of_get ei
      rw [List.getElem?_set_self hj] at e2; cases e2; exact r
    · rw [List.getElem?_set_ne (fun z => q z.symm)] at e2
      have hb : b ≠ a := fun z => q (c.nd j i a (z ▸ e1) ei)
      exact (c.cell j b x e1 e2).moved st fun y z => by rw [sb b hb]; exact z
theorem Rel.set {h h' : Heap} {ρ : Rh} {σ : PS} {i : Nat} {a : Addr} {o : PO} (R : Rel W env h ρ σ) (ei : ρ.a[i]? = some a) (sb : ∀ b, b ≠ a → h'.get? b = h.get? b) (r : RepO W h' ρ a o) : Rel W env h' ρ { σ with H := σ.H.set i o } := by
  have st := R.cells.stbSet (get_mem ei) sb
  have kp : ∀ b ∈ fp env, b ≠ a := fun b m e => (R.fpn b m).2 (e ▸ get_mem ei)
  have ks : ∀ b ∈ fp env, ∀ o, h.get? b = some o → ∃ sl, h'.get? b = some { o with slots := sl } := fun b m o ho => ⟨o.slots, by rw [sb b (kp b m)]; exact ho⟩
  obtain ⟨m, hn, hl⟩ := R.lk
  refine ⟨R.eok, R.cells.set ei sb r, ⟨m, ns_slots hn (ks _ (.head _)), fun n p q => ?_⟩, R.fpn, R.fpd, R.apart, fun x hx => ?_⟩
  · obtain ⟨v, r, na⟩ := hl n p q
    refine ⟨v, r.stb st, ?_⟩
    rcases na with na | ⟨na, cc, e1, e2⟩
    · exact .inl na
    · exact .inr ⟨na, cc, e1, cell_slots e2 (ks _ (.tail _ (List.mem_map.mpr ⟨_, mem_of_lookup e1, rfl⟩)))⟩
  · obtain ⟨v, z⟩ := R.isc x hx
    exact ⟨v, cell_slots z (ks _ (.tail _ (List.mem_map.mpr ⟨x, hx, rfl⟩)))⟩
theorem Ext0.set {X : List Addr} {h h' : Heap} {ρ : Rh} {a : Addr} {o : PO} (m : a ∈ ρ.a) (sb : ∀ b, b ≠ a → h'.get? b = h.get? b) (r : RepO W h' ρ a o) : Ext0 W X h ρ h' ρ := by
  refine ⟨⟨fun _ _ e => e, fun _ e => .inl e, fun b x e => ?_, fun b x e n1 n2 => ⟨x.slots, ?_, fun _ => rfl⟩, Nat.le_refl _⟩, rfl⟩
  · by_cases q : b = a
    · subst q; exact r.there
    · exact ⟨x, by rw [sb b q]; exact e⟩
  · have q : b ≠ a := fun z => n1 (z ▸ m)
    rw [sb b q]; exact e
noncomputable def pset (i : Nat) (o : PO) (v : PV) : PM PV := fun σ => some (.ok v, { σ with H := σ.H.set i o })
theorem post_set {s : Shared} {ρ : Rh} {σ : PS} {Q : Value → Shared → Prop} {E : Value → Shared → Prop} {i : Nat} {a : Addr} {o : PO} {p : PV} {v : Value} {h' : Heap} (R : Rel W env s.heap ρ σ) (hp : Post0 W env rrV s ρ Q E (pset i o p σ)) (ei : ρ.a[i]? = some a) (sb : ∀ b, b ≠ a → h'.get? b = s.heap.get? b) (r : RepO W h' ρ a o) (rv : RepV h' ρ v p) (tk : Nat) :
    Q v { s with heap := h', toks := tk } :=
  hp v h' ρ tk (R.set ei sb r) (Ext0.set (get_mem ei) sb r) rv

noncomputable def ListM (W : Wd) (d : Nat) (env : Env) (name : Str) (f : Nat → List PV → PM PV) : Prop :=
  ∀ {o : Expr} {apos pos : Pos} {es : List Expr} {p : PM PV} {q : PM (List PV)}, SE W d env o p → SEs W d env es q → noStar es = true → (∀ t, attributeBase o name env t = t) → methodCallForm (es.length + 0) (backTo pos (starEach es env)) [] = true → (apos.endLine == pos.line) = true →
    SE W d env (.Call (.Attribute o name apos) es [] pos) (PM.bind p fun a => match a with
      | .ref i => plist i fun _ => PM.bind q fun l => f i l
      | _ => pfail)
set_option tactic.hygienic true in
theorem s_plist {α β : Type} {R : RR α β} {t : Sem α} {i : Nat} {f : PM β} (h : ∀ A s ρ σ Q E l, AOk W d A s ρ → Rel W env s.heap ρ σ → G.P s.heap ρ → σ.H[i]? = some (.list l) → Post W env R s ρ Q E (f σ) → wpAny (model W.prog W.w) A t Q E s) : Sim W d env R G t (plist i fun _ => f) := by
  intro A s ρ σ Q E ha hr hg hp
  unfold plist at hp
  split at hp
  · rename_i l e; exact h A s ρ σ Q E l ha hr hg e hp
  · exact hp.elim
theorem s_listm {name : Str} {id : String} {f : Nat → List PV → PM PV} (slot : Slot "list" name id) (hty : typeOf (.builtin id) = pure (.type "method_descriptor"))
    (hc : ∀ (A : Around) (s : Shared) (ρ : Rh) (σ : PS) (Q : Value → Shared → Prop) (E : Value → Shared → Prop) (i : Nat) (a : Addr) (vs : List Value) (l : List PV), AOk W d A s ρ → Rel W env s.heap ρ σ → ρ.a[i]? = some a → All2 (RepV s.heap ρ) vs l → Post0 W env rrV s ρ Q E (f i l σ) → wpAny (model W.prog W.w) A (call (.builtin id) (.ref a :: vs)) Q E s) :
    ListM W d env name f := by
  intro o apos pos es p q ho hes hn hb hf hpos
  refine s_meth_ ho (fun G a pa ga => ?_) hb hf hpos
  cases pa with
  | ref i =>
    refine s_plist fun A s ρ σ Q E l ha hr hg e hp => ?_
    obtain ⟨x, rfl, ex, vs, n, hx, _⟩ := ref_inv hr.cells (ga _ _ hg) e
    refine wp_bm (G := G.add rrV (.ref x) (.ref i)) (id := id) hes hn ha hr ⟨hg, ga _ _ hg⟩ hp (fun Q h => getMethod_builtin ⟨_, hx, rfl⟩ PySem.F.plainAttrs_list slot hty (fun a e => by cases e; exact ⟨_, hx, rfl⟩) h) (fun ws l => Sim.of0 ?_)
    · intro A s ρ σ Q E ha hr hg hp
      obtain ⟨y, ey, e2⟩ := hg.1.2
      cases ey
      exact hc A s ρ σ Q E i x ws l ha hr e2 hg.2 hp
  | _ => exact s_fail
noncomputable def mAppend (i : Nat) : List PV → PM PV
  | [p] => plist i fun l => pguard (l.length ≤ sizeLine) (pset i (.list (l ++ [p])) .none)
  | _ => pfail
theorem s_append : ListM W d env "append" mAppend := by
  refine s_listm PySem.F.slot_list_append PySem.F.type_list_append fun A s ρ σ Q E i a vs l ha hr ei z hp => ?_
  unfold mAppend at hp
  split at hp
  · obtain ⟨v, rfl, rv⟩ := one_inv z
    obtain ⟨l, e1, hp⟩ := plist_inv hp
    obtain ⟨h1, hp⟩ := pguard_inv hp
    obtain ⟨ws, n, hw, zw⟩ := hr.cells.cell i a _ ei e1
    refine append_at hw (fun h' sb ho => ?_) (by rw [List.size_toArray, zw.length]; exact h1)
    have st := hr.cells.stbSet (get_mem ei) sb.2
    refine post_set hr hp ei sb.2 ?_ rfl s.toks
    exact ⟨ws ++ [v], n + 1, by rw [ho]; simp, (zw.mono fun _ _ y => y.stb st).append (.cons (rv.stb st) .nil)⟩
  · exact hp.elim
end
end

section
open PySem PySem.W PyProof.Rows PySem.Spec PySem.SeqAt
set_option autoImplicit false
set_option linter.unusedVariables false
set_option maxRecDepth 100000
set_option tactic.hygienic false
section
variable {W : Wd} {d : Nat} {env : Env} {G : GG}

theorem post_keep {s : Shared} {ρ : Rh} {σ : PS} {Q : Value → Shared → Prop} {E : Value → Shared → Prop} {v : Value} {p : PV} {h' : Heap} (R : Rel W env s.heap ρ σ) (hp : Post0 W env rrV s ρ Q E (PM.pure p σ)) (k : Keeps s.heap h') (r : RepV h' ρ v p) (tk : Nat) : Q v { s with heap := h', toks := tk } :=
  hp v h' ρ tk (R.keeps k) (Ext0.keeps k) r

noncomputable def pstrs : List PV → Option (List Str)
  | [] => some []
  | .str x :: r => (pstrs r).map (x :: ·)
  | _ => none
theorem pstrs_rep {h : Heap} {ρ : Rh} {vs : List Value} {l : List PV} {xs : List Str} (z : All2 (RepV h ρ) vs l) (e : pstrs l = some xs) : ∃ ps : List (Str × Tok), vs = strValues ps ∧ ps.map (·.1) = xs := by
  induction z generalizing xs with
  | nil => cases e; exact ⟨[], rfl, rfl⟩
  | @cons a b as bs r _ ih =>
    cases b with
    | str x =>
      unfold pstrs at e
      obtain ⟨ys, e1, rfl⟩ := Option.map_eq_some_iff.mp e
      obtain ⟨ps, rfl, rfl⟩ := ih e1
      obtain ⟨t, rfl⟩ := r
      exact ⟨(x, t) :: ps, rfl, rfl⟩
    | _ => cases e
open Builtin.Str in
noncomputable def mSplit (x : Str) : List PV → PM PV
  | [.str y] => pguard ((y.length == 0) = false ∧ x.length ≤ sizeLine ∧ (partsBetween x (occurrences x y 0 x.length (x.length + 1)) y.length).length ≤ sizeLine) (palloc (.list ((Txt.split x y).map .str)))
  | _ => pfail
open Builtin.Str in
set_option tactic.hygienic true in
theorem s_split : StrM W d env "split" mSplit := by
  refine s_strm (id := "str.split") (fun A x t pl Q E s h => PySem.GM.split h) (fun A s ρ σ Q E x t vs l hr z hp => ?_)
  unfold mSplit at hp
  split at hp
  · rename_i y
    obtain ⟨v, rfl, u, rfl⟩ := one_inv z
    obtain ⟨⟨hy, hx, hn⟩, hp⟩ := pguard_inv hp
    have fin : ∀ (ps : List (Str × Tok)) (tk : Nat), ps.map (·.1) = Txt.split x y → Q (.ref s.heap.objs.size) { s with heap := s.heap.push { cls := .type "list", data := .seq (strValues ps).toArray }, toks := tk } := fun ps tk e => by
      rw [← e] at hp
      exact post_list hr hp (strs_rep ps) tk
    cases h1 : (decide (x.length < y.length) || decide (strKind x < strKind y))
    · cases hf : (occurrences x y 0 x.length (x.length + 1)).isEmpty
      · refine call_meets F.slot_str_split (typeIs_str _ _ _) F.entry_str_split (F.args_str_split_2 _ _) (meets_str_split_sep x y t u h1 hy hf hx hn) ?_
        show Q _ { s with toks := _, heap := s.heap.push { cls := .type "list", data := .seq (strsFrom s.toks (partsBetween x (occurrences x y 0 x.length (x.length + 1)) y.length)).toArray } }
        rw [strsFrom_eq]
        exact fin (numbered s.toks _) _ ((numbered_texts _ _).trans ((if_neg (ne_true_of_eq_false h1)).trans (if_neg (ne_true_of_eq_false hf))).symm)
      · exact call_meets F.slot_str_split (typeIs_str _ _ _) F.entry_str_split (F.args_str_split_2 _ _) (meets_str_split_not_found x y t u h1 hy hf)
          (fin [(x, t)] s.toks ((if_neg (ne_true_of_eq_false h1)).trans (if_pos hf)).symm)
    · exact call_meets F.slot_str_split (typeIs_str _ _ _) F.entry_str_split (F.args_str_split_2 _ _) (meets_str_split_cannot_occur x y t u h1)
        (fin [(x, t)] s.toks (if_pos h1).symm)
  · exact hp.elim
noncomputable def mJoin (x : Str) : List PV → PM PV
  | [.ref i] => plist i fun l => popt (pstrs l) fun xs => pguard (JoinOk x xs = true) (PM.pure (.str (Txt.join x xs)))
  | _ => pfail
set_option tactic.hygienic true in
theorem s_join : StrM W d env "join" mJoin := by
  refine s_strm (id := "str.join") (fun A x t pl Q E s h => PySem.GM.join h) (fun A s ρ σ Q E x t vs l hr z hp => ?_)
  unfold mJoin at hp
  split at hp
  · rename_i i
    obtain ⟨v, rfl, rv⟩ := one_inv z
    obtain ⟨l, e1, hp⟩ := plist_inv hp
    obtain ⟨xs, e2, hp⟩ := popt_inv hp
    obtain ⟨h1, hp⟩ := pguard_inv hp
    obtain ⟨a, rfl, _, ws, n, ho, zw⟩ := ref_inv hr.cells rv e1
    obtain ⟨ps, rfl, e3⟩ := pstrs_rep zw e2
    exact SC.join ⟨_, ho, rfl, n, rfl⟩ e3 h1 fun t' k => post_val hr hp ⟨_, rfl⟩ _
  · exact hp.elim
theorem Rel.tup {h : Heap} {ρ : Rh} {σ : PS} {t : Nat} (R : Rel W env h ρ σ) (ht : ρ.t ≤ t) : Rel W env h ⟨ρ.a, t⟩ σ := by
  have p : Pre ρ ⟨ρ.a, t⟩ := ⟨fun _ _ e => e, ht⟩
  have st : Stb h ρ h ⟨ρ.a, t⟩ := Keeps.refl.stb p
  obtain ⟨m, hn, hl⟩ := R.lk
  refine ⟨R.eok, ⟨R.cells.base, R.cells.len, fun i a o e1 e2 => (R.cells.cell i a o e1 e2).keeps .refl p, R.cells.nd, R.cells.new⟩, ⟨m, hn, fun n q e => ?_⟩, R.fpn, R.fpd, R.apart, R.isc⟩
  obtain ⟨v, r, na⟩ := hl n q e
  exact ⟨v, r.stb st, na⟩
theorem s_clit {x : Str} {k : Nat} {pos : Pos} : SE W d env (.Constant (.str x) k pos) (PM.pure (.lit x)) := by
  intro G A s ρ σ Q E ha hr hg hp
  refine wpAny_mkText ?_
  refine hp _ s.heap ⟨ρ.a, s.toks + 1⟩ _ (hr.tup (Nat.le_trans ha.tok (Nat.le_succ _))) ⟨fun _ _ e => e, fun _ e => .inl e, fun b o e => ⟨o, e⟩, fun b o e _ _ => ⟨o.slots, e, fun _ => rfl⟩, Nat.le_trans ha.tok (Nat.le_succ _)⟩ ⟨Nat.le_refl _, Nat.succ_pos _⟩ ⟨s.toks, rfl, ha.pos, Nat.lt_succ_self _⟩
noncomputable def rrT2 : RR (List Value) (Str × Str) := ⟨fun _ _ vs b => ∃ u v : Tok, vs = [.str b.1 u, .str b.2 v] ∧ u ≠ 0 ∧ v ≠ 0 ∧ u ≠ v, fun _ r => r⟩
noncomputable def plitOf (n : String) (y : Str) : PM (Str × Str) := fun σ => match σ.loc.lookup n with
  | some (.lit z) => some (.ok (y, z), σ)
  | _ => none
theorem ss_two {R : RR (List Value) (Str × Str)} {e1 e2 : Expr} {q : PM (Str × Str)} (h1 : isStarred e1 = false) (h2 : isStarred e2 = false)
    (h : ∀ A s ρ σ (Q : List Value → Shared → Prop) E, AOk W d A s ρ → Rel W env s.heap ρ σ → Post0 W env R s ρ Q E (q σ) → wpAny (model W.prog W.w) A (eval e1 env) (fun a s => wpAny (model W.prog W.w) A (eval e2 env) (fun b s => Q [a, b] s) E s) E s) : SS W d env R [e1, e2] q := by
  intro G pos
  refine Sim.of0 ?_
  intro A s ρ σ Q E ha hr hg hp
  have s1 : starEach [e1, e2] env = [(false, eval e1 env), (false, eval e2 env)] := by
    rw [star_cons h1, star_cons h2]; rfl
  rw [s1]
  refine wpAny_bind (wpAny_mono (h A s ρ σ Q E ha hr hp) (fun a s' ha => ?_) fun _ _ x => x)
  refine wpAny_bind (wpAny_pure (wpAny_bind (wpAny_holding ?_)))
  refine wpAny_bind (wpAny_mono ha (fun b s'' hb => ?_) fun _ _ x => x)
  exact wpAny_bind (wpAny_pure (wpAny_bind (wpAny_holding (wpAny_pure (wpAny_pure (wpAny_pure hb))))))

set_option tactic.hygienic true in
theorem ss_cname {y : Str} {k : Nat} {p1 p2 : Pos} {n : String} (hd : (Str.ofString n == ("__debug__" : Str)) = false := by decide) (hc : (Str.ofString n == ("__classdict__" : Str)) = false := by decide) :
    SS W d env rrT2 [.Constant (.str y) k p1, .Name (Str.ofString n) p2] (plitOf n y) := by
  refine ss_two rfl rfl fun A s ρ σ Q E ha hr hp => ?_
  refine wpAny_mkText ?_
  unfold plitOf at hp
  split at hp
  · rename_i z hq
    obtain ⟨m, hn, hl⟩ := hr.lk
    obtain ⟨x, ⟨t, rfl, t0, t1⟩, na⟩ := hl n _ hq
    have hne : s.toks ≠ t := fun e => Nat.lt_irrefl t (Nat.lt_of_lt_of_le t1 (e ▸ ha.tok))
    have z := hp [.str y s.toks, .str z t] s.heap ρ (s.toks + 1) hr .refl ⟨s.toks, t, rfl, Nat.ne_of_gt ha.pos, Nat.ne_of_gt t0, hne⟩
    refine wpAny_Name ?_ hd
    rcases na with ⟨k, e⟩ | ⟨k | k, c, e1, e2⟩
    · exact wpAny_loadName_local hr.eok.kind k hn e z
    · exact wpAny_loadName_cell hr.eok.kind k e1 e2 z
    · exact wpAny_loadName_free hr.eok.kind k e1 e2 z hc
  · exact hp.elim
theorem ss_cc {y z : Str} {k1 k2 : Nat} {p1 p2 : Pos} : SS W d env rrT2 [.Constant (.str y) k1 p1, .Constant (.str z) k2 p2] (PM.pure (y, z)) := by
  refine ss_two rfl rfl fun A s ρ σ Q E ha hr hp => ?_
  refine wpAny_mkText (wpAny_mkText ?_)
  exact hp _ s.heap ρ (s.toks + 1 + 1) hr .refl ⟨s.toks, s.toks + 1, rfl, Nat.ne_of_gt ha.pos, Nat.succ_ne_zero _, Nat.ne_of_lt (Nat.lt_succ_self _)⟩
noncomputable def mReplace (x : Str) (yz : Str × Str) : PM PV := pguard (x.length + (x.length + 1) * yz.2.length ≤ 16777216) (PM.pure (.str (Txt.replace x yz.1 yz.2)))
theorem nobook_keeps {h h' : Heap} (k : Keeps h h') (n : NoneBooked h) : NoneBooked h' := by
  obtain ⟨mc, hn, e⟩ := n; exact ⟨mc, hn.keeps k, e⟩
theorem s_replace {o : Expr} {apos pos : Pos} {es : List Expr} {p : PM PV} {q : PM (Str × Str)} (ho : SE W d env o p) (hes : SS W d env rrT2 es q) (hn : noStar es = true)
    (hb : ∀ t, attributeBase o "replace" env t = t) (hf : methodCallForm (es.length + 0) (backTo pos (starEach es env)) [] = true) (hpos : (apos.endLine == pos.line) = true) :
    SE W d env (.Call (.Attribute o "replace" apos) es [] pos) (PM.bind p fun a => pstr a fun x => PM.bind q fun l => mReplace x l) := by
  refine s_strmR (id := "str.replace") (fun A x t pl Q E s h => PySem.GM.replace h) (fun G x t vs l gl => Sim.of0 ?_) ho hes hn hb hf hpos
  intro A s ρ σ Q E ha hr hg hp
  obtain ⟨u, v, rfl, h1, h2, h3⟩ := gl _ _ hg
  unfold mReplace at hp
  obtain ⟨h4, hp⟩ := pguard_inv hp
  exact SC.replaceA h1 h2 h3 h4 (fun t' k => post_val hr hp ⟨_, rfl⟩ _) (nobook_keeps hr.base W.nobook)

theorem s_bcall {x : Str} {px pos : Pos} {id : String} {es : List Expr} {q : PM (List PV)} {f : List PV → PM PV} (hx : env.kindOf x = some .globalImplicit) (e : nsIn W.K mainGlobals x = some none) (eb : bootBuiltins x = some (.builtin id))
    (hes : SEs W d env es q) (hn : noStar es = true) (hc : ∀ (G : GG) (vs : List Value) (l : List PV), (∀ h ρ, G.P h ρ → All2 (RepV h ρ) vs l) → Sim W d env rrV G (call (.builtin id) vs) (f l))
    (hnm : x ≠ "__name__" := by decide) (hd : (x == ("__debug__" : Str)) = false := by decide) : SE W d env (.Call (.Name x px) es [] pos) (PM.bind q f) := by
  intro G
  rw [arm_eval_Call_Name']
  intro A s ρ σ Q E ha hr hg hp
  refine wpAny_bind (s_bname (d := d) (p := .bi id) hx e eb (fun _ _ => rfl) hnm hd A s ρ σ _ _ ha hr hg ?_)
  intro g h' ρ' tk r1 e1 l1 rf
  cases rf
  show wpAny _ _ (callWith pos (.builtin id) [] (backTo pos (starEach es env)) []) _ _ _
  refine Calls.callWith_builtin (noStar_any hn) ?_
  refine sa_posR (R := rrL) hes hn G (.builtin id) pos A _ ρ' σ _ _ (ha.ext r1 e1 l1) r1 (G.stb (hr.stb e1) hg) ?_
  have hp := Post.trans (s := s) (s₁ := { s with heap := h', toks := tk }) rfl e1 hp
  unfold PM.bind at hp
  match hq : q σ, hp with
  | some (.ok b, σ₁), hp =>
    intro x h₂ ρ₂ tk₂ r2 e2 l2 ra
    obtain ⟨ek, r3⟩ := ra
    rw [ek]
    exact hc ⟨fun h ρ => All2 (RepV h ρ) x.pos b, fun x y => rrL.stb x y⟩ x.pos b (fun _ _ g => g) A _ ρ₂ σ₁ Q E ((ha.ext r1 e1 l1).ext r2 e2 l2) r2 r3 (Post.trans (s := { s with heap := h', toks := tk }) rfl e2 hp)
  | some (.exc, σ₁), hp => exact hp
theorem s_tcall {x : Str} {px pos : Pos} {T : String} {es : List Expr} {q : PM (List PV)} {f : List PV → PM PV} (hx : env.kindOf x = some .globalImplicit) (e : nsIn W.K mainGlobals x = some none) (eb : bootBuiltins x = some (.type T))
    (hes : SEs W d env es q) (hn : noStar es = true) (hc : ∀ (G : GG) (vs : List Value) (l : List PV), (∀ h ρ, G.P h ρ → All2 (RepV h ρ) vs l) → Sim W d env rrV G (call (.type T) vs) (f l))
    (hnm : x ≠ "__name__" := by decide) (hd : (x == ("__debug__" : Str)) = false := by decide) : SE W d env (.Call (.Name x px) es [] pos) (PM.bind q f) := by
  intro G
  rw [arm_eval_Call_Name']
  intro A s ρ σ Q E ha hr hg hp
  refine wpAny_bind (s_bname (d := d) (p := .typ T) hx e eb (fun _ _ => rfl) hnm hd A s ρ σ _ _ ha hr hg ?_)
  intro g h' ρ' tk r1 e1 l1 rf
  cases rf
  show wpAny _ _ (callWith pos (.type T) [] (backTo pos (starEach es env)) []) _ _ _
  refine PySem.callWith_type (noStar_any hn) ?_
  refine sa_posR (R := rrL) hes hn G (.type T) pos A _ ρ' σ _ _ (ha.ext r1 e1 l1) r1 (G.stb (hr.stb e1) hg) ?_
  have hp := Post.trans (s := s) (s₁ := { s with heap := h', toks := tk }) rfl e1 hp
  unfold PM.bind at hp
  match hq : q σ, hp with
  | some (.ok b, σ₁), hp =>
    intro x h₂ ρ₂ tk₂ r2 e2 l2 ra
    obtain ⟨ek, r3⟩ := ra
    rw [ek]
    exact hc ⟨fun h ρ => All2 (RepV h ρ) x.pos b, fun x y => rrL.stb x y⟩ x.pos b (fun _ _ g => g) A _ ρ₂ σ₁ Q E ((ha.ext r1 e1 l1).ext r2 e2 l2) r2 r3 (Post.trans (s := { s with heap := h', toks := tk }) rfl e2 hp)
  | some (.exc, σ₁), hp => exact hp
end
end

section
open PySem PySem.W PyProof.Rows PySem.Spec PySem.SeqAt
set_option autoImplicit false
set_option linter.unusedVariables false
set_option maxRecDepth 100000
set_option tactic.hygienic false
section
variable {W : Wd} {d : Nat} {env : Env} {G : GG}
noncomputable def CallOk (W : Wd) (d : Nat) (env : Env) (v : Value) (f : List PV → PM PV) : Prop := ∀ (G : GG) (vs : List Value) (l : List PV), (∀ h ρ, G.P h ρ → All2 (RepV h ρ) vs l) → Sim W d env rrV G (call v vs) (f l)
theorem CallOk.mk {v : Value} {f : List PV → PM PV} (h : ∀ (A : Around) (s : Shared) (ρ : Rh) (σ : PS) (Q : Value → Shared → Prop) (E : Value → Shared → Prop) (vs : List Value) (l : List PV), AOk W d A s ρ → Rel W env s.heap ρ σ → All2 (RepV s.heap ρ) vs l → Post0 W env rrV s ρ Q E (f l σ) → wpAny (model W.prog W.w) A (call v vs) Q E s) : CallOk W d env v f :=
  fun G vs l gl => Sim.of0 fun A s ρ σ Q E ha hr hg hp => h A s ρ σ Q E vs l ha hr (gl _ _ hg) hp
noncomputable def fInt : List PV → PM PV
  | [.int n] => PM.pure (.int n)
  | [.str x] => popt (PySem.intText? x) fun n => pguard (x.length ≤ 640) (PM.pure (.int n))
  | _ => pfail
theorem c_int : CallOk W d env (.type "int") fInt := CallOk.mk fun A s ρ σ Q E vs l ha hr z hp => by
  unfold fInt at hp
  split at hp
  · obtain ⟨v, rfl, t, rfl⟩ := one_inv z
    exact call_int_int (post_val hr hp ⟨_, rfl⟩ _)
  · obtain ⟨v, rfl, t, rfl⟩ := one_inv z
    obtain ⟨n, e, hp⟩ := popt_inv hp
    obtain ⟨h1, hp⟩ := pguard_inv hp
    exact PySem.W.KIN.call_text e h1 (post_val hr hp ⟨_, rfl⟩ _)
  · exact hp.elim
noncomputable def fStr : List PV → PM PV
  | [.int n] => pguard (n.natAbs < 2 ^ 64) (PM.pure (.str (Str.ofString (toString n))))
  | _ => pfail
set_option tactic.hygienic true in
theorem c_str : CallOk W d env (.type "str") fStr := CallOk.mk fun A s ρ σ Q E vs l ha hr z hp => by
  unfold fStr at hp
  split at hp
  · rename_i n
    obtain ⟨v, rfl, t, rfl⟩ := one_inv z
    obtain ⟨h1, hp⟩ := pguard_inv hp
    refine P.str_of_int ?_ (post_val hr hp ⟨_, rfl⟩ _)
    by_cases h0 : n.natAbs = 0
    · rw [h0]; decide
    · exact Nat.lt_trans ((Nat.log2_lt h0).mpr h1) (by decide)
  · exact hp.elim
noncomputable def fType : List PV → PM PV
  | [.str _] => PM.pure (.typ "str")
  | [.ref i] => plist i fun _ => PM.pure (.typ "list")
  | _ => pfail
theorem c_type : CallOk W d env (.type "type") fType := CallOk.mk fun A s ρ σ Q E vs l ha hr z hp => by
  unfold fType at hp
  split at hp
  · obtain ⟨v, rfl, t, rfl⟩ := one_inv z
    exact call_type_of (typeIs_str _ _ _) (by decide) (post_val hr hp rfl _)
  · obtain ⟨v, rfl, r⟩ := one_inv z
    obtain ⟨l, e, hp⟩ := plist_inv hp
    obtain ⟨a, rfl, _, ws, n, ho, zw⟩ := ref_inv hr.cells r e
    exact call_type_of (Tx := "list") ⟨_, ho, rfl⟩ (by decide) (post_val hr hp rfl _)
  · exact hp.elim
noncomputable def fLen : List PV → PM PV
  | [.str x] => pguard (x.length ≤ sizeLine) (PM.pure (.int x.length))
  | [.ref i] => plist i fun l => pguard (l.length ≤ sizeLine) (PM.pure (.int l.length))
  | _ => pfail
theorem c_len : CallOk W d env (.builtin "len") fLen := CallOk.mk fun A s ρ σ Q E vs l ha hr z hp => by
  unfold fLen at hp
  split at hp
  · obtain ⟨v, rfl, t, rfl⟩ := one_inv z
    obtain ⟨h1, hp⟩ := pguard_inv hp
    exact P.len_str (by rw [sizeLine_eq] at h1; lia) (post_val hr hp ⟨_, rfl⟩ _)
  · obtain ⟨v, rfl, r⟩ := one_inv z
    obtain ⟨l, e, hp⟩ := plist_inv hp
    obtain ⟨h1, hp⟩ := pguard_inv hp
    obtain ⟨a, rfl, _, ws, n, ho, zw⟩ := ref_inv hr.cells r e
    have hl : ws.length = l.length := zw.length
    refine len_list (items := ws.toArray) ⟨_, ho, rfl, n, rfl⟩ (by rw [List.size_toArray, hl]; rw [sizeLine_eq] at h1; lia) ?_
    rw [List.size_toArray, hl]
    exact post_val hr hp ⟨_, rfl⟩ _
  · exact hp.elim
noncomputable def fChr : List PV → PM PV
  | [.int i] => pguard (0 ≤ i ∧ i ≤ 1114111) (PM.pure (.str ⟨#[i.toNat]⟩))
  | _ => pfail
theorem c_chr : CallOk W d env (.builtin "chr") fChr := CallOk.mk fun A s ρ σ Q E vs l ha hr z hp => by
  unfold fChr at hp
  split at hp
  · obtain ⟨v, rfl, t, rfl⟩ := one_inv z
    obtain ⟨h1, hp⟩ := pguard_inv hp
    exact chr_of_range h1.1 h1.2 (post_val hr hp ⟨_, rfl⟩ _)
  · exact hp.elim
end
end

section
open PySem PySem.W PyProof.Rows PySem.Spec PySem.SeqAt
set_option autoImplicit false
set_option linter.unusedVariables false
set_option maxRecDepth 100000
set_option tactic.hygienic false
theorem ofString_inj {a b : String} (h : Str.ofString a = Str.ofString b) : a = b := by
  rw [Str.ofString_eq_toList, Str.ofString_eq_toList] at h
  have h1 : (a.toList.map Char.toNat) = (b.toList.map Char.toNat) := by
    have := congrArg (fun x : Str => x.cps.toList) h
    simpa using this
  have h2 : a.toList = b.toList := by
    have inj : ∀ (l k : List Char), l.map Char.toNat = k.map Char.toNat → l = k := by
      intro l
      induction l with
      | nil => intro k e; cases k with
        | nil => rfl
        | cons _ _ => cases e
      | cons c l ih => intro k e; cases k with
        | nil => cases e
        | cons c' k =>
          simp only [List.map_cons, List.cons.injEq] at e
          rw [ih k e.2, show c = c' from Char.ext (UInt32.toNat_inj.mp e.1)]
    exact inj _ _ h1
  exact String.toList_inj.mp h2
noncomputable def Stores (env : Env) (n : String) : Prop := env.kindOf (Str.ofString n) = some .local ∨ (env.kindOf (Str.ofString n) = some .cell ∧ ∃ c, env.cells.lookup (Str.ofString n) = some c)
noncomputable def pput (n : String) (p : PV) : PM Unit := fun σ => some (.ok (), { σ with loc := lset n p σ.loc })
section
variable {W : Wd} {d : Nat} {env : Env} {G : GG}
theorem lookup_apart : ∀ {l : List (Str × Addr)} {x y : Str} {a b : Addr}, (l.Pairwise fun x y => x.2 ≠ y.2) → l.lookup x = some a → l.lookup y = some b → x ≠ y → a ≠ b
  | [], x, y, a, b, _, h, _, _ => by cases h
  | (z, c) :: l, x, y, a, b, hp, h1, h2, hn => by
    obtain ⟨hp1, hp2⟩ := List.pairwise_cons.mp hp
    rw [List.lookup_cons] at h1 h2
    by_cases hx : x = z
    · subst hx
      simp only [beq_self_eq_true] at h1
      have hy : (y == x) = false := by simpa using fun e : y = x => hn e.symm
      simp only [hy] at h2
      cases h1
      exact hp1 _ (mem_of_lookup h2)
    · have hx' : (x == z) = false := by simpa using hx
      simp only [hx'] at h1
      by_cases hy : y = z
      · subst hy
        simp only [beq_self_eq_true] at h2
        cases h2
        exact (hp1 _ (mem_of_lookup h1)).symm
      · have hy' : (y == z) = false := by simpa using hy
        simp only [hy'] at h2
        exact lookup_apart hp2 h1 h2 hn
theorem Rel.stbFp {h h' : Heap} {ρ : Rh} {σ : PS} {a : Addr} (R : Rel W env h ρ σ) (m : a ∈ fp env) (sb : ∀ b, b ≠ a → h'.get? b = h.get? b) : Stb h ρ h' ρ := by
  refine ⟨fun _ _ e => e, fun b its t => ?_, Nat.le_refl _⟩
  by_cases q : b = a
  · subst q
    obtain ⟨o', e', c, n, dd⟩ := t
    rcases List.mem_cons.mp m with rfl | m
    · obtain ⟨m, ⟨o, es, ep, e, d', _⟩, _⟩ := R.lk
      rw [e] at e'; cases e'; rw [dd] at d'; cases d'
    · obtain ⟨y, hy, rfl⟩ := List.mem_map.mp m
      obtain ⟨v, o, e, d'⟩ := R.isc y hy
      rw [e] at e'; cases e'; rw [dd] at d'; cases d'
  · obtain ⟨o, e, z⟩ := t; exact ⟨o, by rw [sb b q]; exact e, z⟩
theorem Cells.fpSet {h h' : Heap} {ρ : Rh} {H : List PO} {a : Addr} (c : Cells W h ρ H) (st : Stb h ρ h' ρ) (n0 : W.h₀.get? a = none) (n1 : a ∉ ρ.a) (sb : ∀ b, b ≠ a → h'.get? b = h.get? b) : Cells W h' ρ H := by
  refine ⟨fun b x e => ?_, c.len, fun j b x e1 e2 => ?_, c.nd, c.new⟩
  · have q : b ≠ a := fun q => by subst q; rw [n0] at e; cases e
    rw [sb b q]; exact c.base b x e
  · have q : b ≠ a := fun q => n1 (q ▸ get_mem e1)
    exact (c.cell j b x e1 e2).moved st fun y z => by rw [sb b q]; exact z
theorem Ext0.fpSet {h h' : Heap} {ρ : Rh} {a : Addr} {X : List Addr} (m : a ∈ X) (t : ∃ x, h'.get? a = some x) (sb : ∀ b, b ≠ a → h'.get? b = h.get? b) : Ext0 W X h ρ h' ρ := by
  refine ⟨⟨fun _ _ e => e, fun _ e => .inl e, fun b x e => ?_, fun b x e n1 n2 => ⟨x.slots, ?_, fun _ => rfl⟩, Nat.le_refl _⟩, rfl⟩
  · by_cases q : b = a
    · subst q; exact t
    · exact ⟨x, by rw [sb b q]; exact e⟩
  · have q : b ≠ a := fun z => n2 (z ▸ m)
    rw [sb b q]; exact e
theorem wp_store {A : Around} {s : Shared} {ρ : Rh} {σ : PS} {n : String} {v : Value} {p : PV} {Q : Unit → Shared → Prop} {E : Value → Shared → Prop} (hs : Stores env n) (R : Rel W env s.heap ρ σ) (rv : RepV s.heap ρ v p)
    (h : ∀ h' tk, Rel W env h' ρ { σ with loc := lset n p σ.loc } → Ext0 W (fp env) s.heap ρ h' ρ → Q () { s with heap := h', toks := tk }) : wpAny (model W.prog W.w) A (storeName env (Str.ofString n) v) Q E s := by
  have hcls : (env.scope.kind == .class || (env.scope.kind == .module && env.locals != env.globals)) = false := by rw [R.eok.kind]; rfl
  obtain ⟨m, hn, hl⟩ := R.lk
  rcases hs with hs | ⟨hs, c, hc⟩
  · refine wpAny_storeName_local hs hn (fun h' hn' sb => ?_) hcls
    have mL : env.locals ∈ fp env := .head _
    have st := R.stbFp mL sb.2
    have t : ∃ x, h'.get? env.locals = some x := by obtain ⟨o, _, _, e, _⟩ := hn'; exact ⟨o, e⟩
    refine h h' (s.toks + 1) ⟨R.eok, R.cells.fpSet st (R.fpn _ mL).1 (R.fpn _ mL).2 sb.2, ⟨_, hn', fun x q e => ?_⟩, R.fpn, R.fpd, R.apart, fun x hx => ?_⟩ (Ext0.fpSet mL t sb.2)
    · rw [lset_lookup] at e
      by_cases hx : x = n
      · subst hx
        rw [if_pos rfl] at e; cases e
        exact ⟨v, rv.stb st, .inl ⟨hs, by simp⟩⟩
      · rw [if_neg hx] at e
        obtain ⟨w, rw', na⟩ := hl x q e
        refine ⟨w, rw'.stb st, ?_⟩
        have hne : Str.ofString x ≠ Str.ofString n := fun z => hx (ofString_inj z)
        rcases na with ⟨k1, k2⟩ | ⟨k, cc, e1, e2⟩
        · exact .inl ⟨k1, by simp [hne, k2]⟩
        · refine .inr ⟨k, cc, e1, cell_slots e2 fun o ho => ⟨o.slots, ?_⟩⟩
          rw [sb.2 cc (R.fpd _ (mem_of_lookup e1))]; exact ho
    · obtain ⟨v, z⟩ := R.isc x hx
      exact ⟨v, cell_slots z fun o ho => ⟨o.slots, by rw [sb.2 x.2 (R.fpd _ hx)]; exact ho⟩⟩
  · have mc : c ∈ fp env := .tail _ (List.mem_map.mpr ⟨_, mem_of_lookup hc, rfl⟩)
    obtain ⟨v₀, hv₀⟩ := R.isc _ (mem_of_lookup hc)
    refine wpAny_storeName_cell R.eok.kind hs hc hv₀ fun h' hc' sb => ?_
    have st := R.stbFp mc sb.2
    have hcL : env.locals ≠ c := fun e => R.fpd _ (mem_of_lookup hc) e.symm
    have t : ∃ x, h'.get? c = some x := by obtain ⟨o, e, _⟩ := hc'; exact ⟨o, e⟩
    refine h h' s.toks ⟨R.eok, R.cells.fpSet st (R.fpn _ mc).1 (R.fpn _ mc).2 sb.2, ⟨m, ns_slots hn fun o ho => ⟨o.slots, by rw [sb.2 _ hcL]; exact ho⟩, fun x q e => ?_⟩, R.fpn, R.fpd, R.apart, fun x hx => ?_⟩ (Ext0.fpSet mc t sb.2)
    · rw [lset_lookup] at e
      by_cases hx : x = n
      · subst hx
        rw [if_pos rfl] at e; cases e
        exact ⟨v, rv.stb st, .inr ⟨.inl hs, c, hc, hc'⟩⟩
      · rw [if_neg hx] at e
        obtain ⟨w, rw', na⟩ := hl x q e
        refine ⟨w, rw'.stb st, ?_⟩
        have hne : Str.ofString x ≠ Str.ofString n := fun z => hx (ofString_inj z)
        rcases na with ⟨k1, k2⟩ | ⟨k, cc, e1, e2⟩
        · exact .inl ⟨k1, k2⟩
        · refine .inr ⟨k, cc, e1, cell_slots e2 fun o ho => ⟨o.slots, ?_⟩⟩
          rw [sb.2 cc (lookup_apart R.apart e1 hc hne)]; exact ho
    · by_cases q : x.2 = c
      · rw [q]; exact ⟨_, hc'⟩
      · obtain ⟨v, z⟩ := R.isc x hx
        exact ⟨v, cell_slots z fun o ho => ⟨o.slots, by rw [sb.2 x.2 q]; exact ho⟩⟩

noncomputable def SAs (W : Wd) (d : Nat) (env : Env) (t : Expr) (a : PV → PM Unit) : Prop := ∀ (G : GG) (v : Value) (p : PV), (∀ h ρ, G.P h ρ → RepV h ρ v p) → Sim W d env rrU G (assign t env v) (a p)
theorem sim_bind {n : String} {v : Value} {p : PV} (hs : Stores env n) (gv : ∀ h ρ, G.P h ρ → RepV h ρ v p) : Sim W d env rrU G (bindName env (Str.ofString n) v) (pput n p) := by
  refine Sim.of0 ?_
  intro A s ρ σ Q E ha hr hg hp
  exact wpAny_bindName (wp_store hs hr (gv _ _ hg) fun h' tk r e => hp () h' ρ tk r e trivial)
theorem a_name {n : String} {pos : Pos} (hs : Stores env n) : SAs W d env (.Name (Str.ofString n) pos) (pput n) := by
  intro G v p gv
  rw [PySem.assign_Name]
  exact Sim.stand (sim_bind hs gv)
noncomputable def passign : List (PV → PM Unit) → List PV → PM Unit
  | a :: as, p :: l => PM.bind (a p) fun _ => passign as l
  | _, _ => PM.pure ()
theorem sim_inOrder : ∀ {ts : List (Value → Sem Unit)} {as : List (PV → PM Unit)} {vs : List Value} {l : List PV} {G : GG},
    All2 (fun t a => ∀ (G : GG) (v : Value) (p : PV), (∀ h ρ, G.P h ρ → RepV h ρ v p) → Sim W d env rrU G (t v) (a p)) ts as → (∀ h ρ, G.P h ρ → All2 (RepV h ρ) vs l) → Sim W d env rrU G (assignInOrder ts vs) (passign as l) := by
  intro ts as vs l G z
  induction z generalizing vs l G with
  | nil => intro _; exact Sim.pure fun _ _ _ => trivial
  | @cons t a ts as ht _ ih =>
    intro gl
    refine Sim.under fun ⟨h, ρ, g⟩ => ?_
    cases vs with
    | nil =>
      have := gl h ρ g
      cases this; exact Sim.pure fun _ _ _ => trivial
    | cons v vs =>
      cases l with
      | nil => have := gl h ρ g; cases this
      | cons p l =>
        refine Sim.bind (Sim.holding (ht G v p fun h ρ g => ?_)) fun _ _ => ih fun h ρ g => ?_
        · have := gl h ρ g; cases this; assumption
        · have := gl h ρ g.1; cases this; assumption
noncomputable def ptup {α : Type} (p : PV) (f : List PV → PM α) : PM α := match p with
  | .tup l => f l
  | _ => pfail
theorem assign_cons {e : Expr} {es : List Expr} (h : isStarred e = false) : assignEach (e :: es) env = (false, assign e env) :: assignEach es env := by
  cases e <;> first | rfl | cases h
theorem assignEach_plain : ∀ {elts : List Expr}, noStar elts = true → assignEach elts env = elts.map fun t => (false, assign t env)
  | [], _ => rfl
  | e :: es, h => by
    simp only [noStar, List.all_cons, Bool.and_eq_true] at h
    rw [assign_cons (by simpa using h.1), assignEach_plain h.2]; rfl
theorem wp_unpack {A : Around} {s : Shared} {ρ : Rh} {σ : PS} {elts : List Expr} {k : Nat} {pos : Pos} {v : Value} {l : List PV} {Q : Unit → Shared → Prop} {E : Value → Shared → Prop} (hn : noStar elts = true) (ha : AOk W d A s ρ) (R : Rel W env s.heap ρ σ) (rv : RepV s.heap ρ v (.tup l)) (hl : l.length = elts.length)
    (h : ∀ vs h', Keeps s.heap h' → All2 (RepV h' ρ) vs l → wpAny (model W.prog W.w) A (assignInOrder (elts.map fun t => assign t env) vs) Q E { s with heap := h' }) : wpAny (model W.prog W.w) A (assign (.Tuple elts k pos) env v) Q E s := by
  obtain ⟨a, vs, rfl, ht, z⟩ := rv
  have e1 := assignEach_plain (env := env) hn
  refine assign_Tuple_tuple ha.handled ht (by rw [e1, List.length_map, List.size_toArray, z.length, hl]) ?_ fun h' hx => ?_
  · rw [e1]
    rw [List.findIdx?_eq_none_iff]
    intro x hx
    obtain ⟨t, _, rfl⟩ := List.mem_map.mp hx
    rfl
  · have k : Keeps s.heap h' := fun b o e => hx b o (Nat.ne_of_lt (Heap.lt_size e)) e
    have e2 : (assignEach elts env).map (·.2) = elts.map fun t => assign t env := by rw [e1, List.map_map]; rfl
    rw [e2]
    exact h vs h' k (z.mono fun _ _ y => y.repV)
theorem a_tuple {elts : List Expr} {as : List (PV → PM Unit)} {k : Nat} {pos : Pos} (hz : All2 (SAs W d env) elts as) (hn : noStar elts = true) : SAs W d env (.Tuple elts k pos) fun p => ptup p fun l => pguard (l.length = elts.length) (passign as l) := by
  intro G v p gv
  cases p with
  | tup l =>
    refine s_guard fun hl => ?_
    intro A s ρ σ Q E ha hr hg hp
    refine wp_unpack hn ha hr (gv _ _ hg) hl fun vs h' kk zz => ?_
    have r1 := hr.keeps kk
    have e1 : Ext0 W (fp env) s.heap ρ h' ρ := Ext0.keeps kk
    have hz' : All2 (fun (t : Value → Sem Unit) a => ∀ (G : GG) (v : Value) (p : PV), (∀ h ρ, G.P h ρ → RepV h ρ v p) → Sim W d env rrU G (t v) (a p)) (elts.map fun t => assign t env) as := by
      clear hl hn gv hp
      induction hz with
      | nil => exact .nil
      | cons r _ ih => exact .cons r ih
    exact sim_inOrder (G := ⟨fun h ρ => All2 (RepV h ρ) vs l, fun x y => rrL.stb x y⟩) hz' (fun _ _ g => g) A _ ρ σ Q E (ha.ext r1 e1.toExt ⟨ha.tok, ha.pos⟩) r1 zz (Post.trans (s := s) rfl e1.toExt hp)
  | _ => exact s_fail
end
end

section
open PySem PySem.W PyProof.Rows PySem.Spec PySem.SeqAt
set_option autoImplicit false
set_option linter.unusedVariables false
set_option maxRecDepth 100000
set_option tactic.hygienic false
noncomputable def SSt (W : Wd) (d : Nat) (env : Env) (st : Stmt) (p : PM PF) : Prop := ∀ G, Sim W d env rrF G (exec st env) p
noncomputable def SB (W : Wd) (d : Nat) (env : Env) (b : List Stmt) (p : PM PF) : Prop := ∀ G, Sim W d env rrF G (execs b env) p
noncomputable def pseq (p q : PM PF) : PM PF := PM.bind p fun f => match f with
  | .next => q
  | f => PM.pure f
section
variable {W : Wd} {d : Nat} {env : Env} {G : GG}
theorem b_nil : SB W d env [] (PM.pure .next) := fun G => Sim.pure (R := rrF) fun _ _ _ => trivial
theorem RepF.inv {h : Heap} {ρ : Rh} {f : Flow} {p : PF} (r : RepF h ρ f p) : (f = .next ∧ p = .next) ∨ (f = .brk ∧ p = .brk) ∨ (f = .cont ∧ p = .cont) ∨ ∃ v q, f = .ret v ∧ p = .ret q ∧ RepV h ρ v q := by
  cases f <;> cases p <;> first | exact .inl ⟨rfl, rfl⟩ | exact .inr (.inl ⟨rfl, rfl⟩) | exact .inr (.inr (.inl ⟨rfl, rfl⟩)) | exact .inr (.inr (.inr ⟨_, _, rfl, rfl, r⟩)) | exact r.elim
theorem b_cons {st : Stmt} {b : List Stmt} {p q : PM PF} (hs : SSt W d env st p) (hb : SB W d env b q) : SB W d env (st :: b) (pseq p q) := by
  intro G
  rw [execs_cons]
  refine Sim.bind (hs G) fun f pf => ?_
  refine Sim.under fun ⟨h, ρ, g⟩ => ?_
  rcases RepF.inv g.2 with ⟨rfl, rfl⟩ | ⟨rfl, rfl⟩ | ⟨rfl, rfl⟩ | ⟨v, q, rfl, rfl, _⟩
  · exact hb _
  · exact Sim.pure (R := rrF) fun _ _ g => trivial
  · exact Sim.pure (R := rrF) fun _ _ g => trivial
  · exact Sim.pure (R := rrF) fun _ _ g => g.2
theorem b_one {st : Stmt} {p : PM PF} (hs : SSt W d env st p) : SB W d env [st] p := by
  have z := b_cons hs (b_nil (W := W) (d := d) (env := env))
  have e : pseq p (PM.pure .next) = p := by
    funext σ
    unfold pseq PM.bind PM.pure
    cases p σ with
    | none => rfl
    | some r => obtain ⟨r, σ'⟩ := r
                cases r with
                | exc => rfl
                | ok f => cases f <;> rfl
  rw [e] at z; exact z
theorem st_ret {e : Expr} {pos : Pos} {p : PM PV} (h : SE W d env e p) : SSt W d env (.Return (some e) pos) (PM.bind p fun v => PM.pure (.ret v)) := by
  intro G
  rw [exec_Return_some]
  exact Sim.stand (Sim.bind (h G) fun v q => Sim.pure (R := rrF) fun _ _ g => g.2)
theorem st_if {t : Expr} {b o : List Stmt} {pos : Pos} {c : PM Bool} {p q : PM PF} (ht : ST W d env t c) (hb : SB W d env b p) (ho : SB W d env o q) : SSt W d env (.If t b o pos) (pite c p q) := by
  intro G
  rw [exec_If]
  exact Sim.stand (Sim.bind (ht G) fun x y => sim_ite (hb _) (ho _) fun _ _ g => g.2)
theorem st_expr {e : Expr} {pos : Pos} {p : PM PV} (h : SE W d env e p) (hi : interactive env = false) (hs : swapsWith e none pos.line env = pure false) : SSt W d env (.Expr e pos) (PM.bind p fun _ => PM.pure .next) := by
  intro G A s ρ σ Q E ha hr hg hp
  refine wpAny_Expr_any (h G A s ρ σ _ _ ha hr hg ?_) hi hs
  unfold PM.bind at hp
  match hq : p σ, hp with
  | some (.ok b, σ₁), hp => exact fun a h' ρ' tk r1 e1 l q => hp .next h' ρ' tk r1 e1 l trivial
  | some (.exc, σ₁), hp => exact hp
theorem st_assign {t e : Expr} {pos : Pos} {p : PM PV} {a : PV → PM Unit} (h : SE W d env e p) (ht : SAs W d env t a) (hst : isStarred t = false) (hs : swapsWithSole [t] e pos.line env = pure false) (hw : swappedStores [t] e env = pure none) :
    SSt W d env (.Assign [t] e pos) (PM.bind p fun v => PM.bind (a v) fun _ => PM.pure .next) := by
  intro G
  rw [PyProof.Rows.exec_Assign, hs]
  have e1 : (assignEach [t] env).map (·.2) = [assign t env] := by
    cases t <;> first | rfl | cases hst
  refine Sim.stand (Sim.eq (t' := eval e env >>= fun v => assign t env v >>= fun _ => pure .next) (Sim.bind (h G) fun v q => Sim.bind (ht _ v q fun _ _ g => g.2) fun _ _ => Sim.pure (R := rrF) (a := Flow.next) (b := PF.next) fun _ _ _ => trivial) ?_ rfl)
  show (eval e env >>= fun v => (swappedStores [t] e env >>= fun w => assignStores env v w ((assignEach [t] env).map (·.2)))) = _
  rw [hw, e1]; rfl
noncomputable def pswap (ns : List String) (p : PV) : PM Unit := ptup p fun l => pguard (l.length = ns.length) (passign (ns.reverse.map pput) l.reverse)
theorem st_swap {ts : List Expr} {k : Nat} {tp : Pos} {e : Expr} {pos : Pos} {p : PM PV} {ns : List String} (h : SE W d env e p) (hn : ∀ n ∈ ns, Stores env n) (hs : swapsWithSole [.Tuple ts k tp] e pos.line env = pure false) (hw : swappedStores [.Tuple ts k tp] e env = pure (some (ns.map Str.ofString))) :
    SSt W d env (.Assign [.Tuple ts k tp] e pos) (PM.bind p fun v => PM.bind (pswap ns v) fun _ => PM.pure .next) := by
  intro G
  rw [PyProof.Rows.exec_Assign, hs]
  refine Sim.stand (Sim.eq (t' := eval e env >>= fun v => PySem.rule "assign.swapped-stores" >>= fun _ => ((unpackItems v (ns.map Str.ofString).length none >>= fun items => assignInOrder ((ns.map Str.ofString).reverse.map fun n => bindName env n) items.reverse) >>= fun _ => pure .next)) (Sim.bind (h G) fun v q => Sim.rule (Sim.bind (R := rrU) ?_ fun _ _ => Sim.pure (R := rrF) (a := Flow.next) (b := PF.next) fun _ _ _ => trivial)) ?_ rfl)
  · cases q with
    | tup l =>
      refine s_guard fun hl => ?_
      intro A s ρ σ Q E ha hr hg hp
      obtain ⟨a, vs, rfl, ht, z⟩ := hg.2
      have hz : vs.toArray.size = (ns.map Str.ofString).length := by rw [List.size_toArray, z.length, hl, List.length_map]
      rw [← hz]
      refine wpAny_bind (unpackItems_tuple ha.handled ht fun h' hx => ?_)
      have kk : Keeps s.heap h' := fun b o e => hx b o (Nat.ne_of_lt (Heap.lt_size e)) e
      have r1 := hr.keeps kk
      have e1 : Ext0 W (fp env) s.heap ρ h' ρ := Ext0.keeps kk
      have hz' : All2 (fun (t : Value → Sem Unit) a => ∀ (G : GG) (v : Value) (p : PV), (∀ h ρ, G.P h ρ → RepV h ρ v p) → Sim W d env rrU G (t v) (a p)) ((ns.map Str.ofString).reverse.map fun n => bindName env n) (ns.reverse.map pput) := by
        rw [← List.map_reverse]
        have hn' : ∀ n ∈ ns.reverse, Stores env n := fun n m => hn n (List.mem_reverse.mp m)
        generalize ns.reverse = ms at hn' ⊢
        clear hp hl hz hw hn
        induction ms with
        | nil => exact .nil
        | cons n ms ih => exact .cons (fun G v p gv => sim_bind (hn' n (.head _)) gv) (ih fun n m => hn' n (.tail _ m))
      have z1 : All2 (RepV h' ρ) vs.reverse l.reverse := (z.mono fun _ _ y => y.repV).reverse
      exact sim_inOrder (G := ⟨fun h ρ => All2 (RepV h ρ) vs.reverse l.reverse, fun x y => rrL.stb x y⟩) hz' (fun _ _ g => g) A _ ρ σ Q E (ha.ext r1 e1.toExt ⟨ha.tok, ha.pos⟩) r1 z1 (Post.trans (s := s) rfl e1.toExt hp)
    | _ => exact s_fail
  · show (eval e env >>= fun v => (swappedStores [.Tuple ts k tp] e env >>= fun w => assignStores env v w _)) = _
    rw [hw]
    congr 1; funext v
    simp only [bind_assoc]
    rfl
end
end

section
open PySem PySem.W PyProof.Rows PySem.Spec PySem.SeqAt
set_option autoImplicit false
set_option linter.unusedVariables false
set_option maxRecDepth 100000
set_option tactic.hygienic false
noncomputable def pnoexc {α : Type} (p : PM α) : PM α := fun σ => match p σ with
  | some (.ok a, σ') => some (.ok a, σ')
  | _ => none
noncomputable def pturn (f : PF) (again : PM PF) : PM PF := match f with
  | .next => again
  | .cont => again
  | .brk => PM.pure .next
  | .ret v => PM.pure (.ret v)
noncomputable def pfor (nx : Nat → List PO → Option (Option PV)) (asg : PV → PM Unit) (b : PM PF) : Nat → Nat → PM PF
  | 0, _ => pfail
  | f + 1, j => fun σ => match nx j σ.H with
    | none => none
    | some none => some (.ok .next, σ)
    | some (some p) => PM.bind (pnoexc (asg p)) (fun _ => PM.bind (pnoexc b) fun r => pturn r (pfor nx asg b f (j + 1))) σ
section
variable {W : Wd} {d : Nat} {env : Env} {G : GG}
theorem bind_noexc {α β γ δ : Type} {R : RR α β} {R' : RR γ δ} {t : Sem α} {p : PM β} {q : β → PM δ} {A : Around} {s₀ s : Shared} {ρ₀ ρ : Rh} {σ : PS} {Q : α → Shared → Prop} {E E₀ : Value → Shared → Prop} {Q₀ : γ → Shared → Prop} {G : GG}
    (hs : s = { s₀ with heap := s.heap, toks := s.toks }) (h : Sim W d env R G t p) (ha : AOk W d A s ρ) (hr : Rel W env s.heap ρ σ) (hg : G.P s.heap ρ) (ex : Ext W (fp env) s₀.heap ρ₀ s.heap ρ) (hp : Post W env R' s₀ ρ₀ Q₀ E₀ (PM.bind (pnoexc p) q σ))
    (k : ∀ a b σ' h' ρ' tk, AOk W d A { s₀ with heap := h', toks := tk } ρ' → Rel W env h' ρ' σ' → Ext W (fp env) s.heap ρ h' ρ' → Ext W (fp env) s₀.heap ρ₀ h' ρ' → R.rel h' ρ' a b → Post W env R' s₀ ρ₀ Q₀ E₀ (q b σ') → Q a { s₀ with heap := h', toks := tk }) :
    wpAny (model W.prog W.w) A t Q E s := by
  refine h A s ρ σ Q E ha hr hg ?_
  unfold PM.bind pnoexc at hp
  match hq : p σ, hp with
  | some (.ok b, σ'), hp =>
    intro a h' ρ' tk r1 e1 l q
    have z := k a b σ' h' ρ' tk
    rw [hs]
    refine z ?_ r1 e1 (ex.trans e1) q hp
    have y := ha.ext r1 e1 l
    rw [hs] at y
    exact y

noncomputable def But (own : List Addr) (h h' : Heap) : Prop := ∀ b o, b ∉ own → h.get? b = some o → h'.get? b = some o
structure Own (W : Wd) (env : Env) (own : List Addr) (h₁ h : Heap) (ρ : Rh) : Prop where
  fresh : ∀ b ∈ own, h₁.get? b = none
  n0 : ∀ b ∈ own, W.h₀.get? b = none
  nfp : ∀ b ∈ own, b ∉ fp env
  nρ : ∀ b ∈ own, b ∉ ρ.a
  fld : ∀ b ∈ own, ∃ o vs, h.get? b = some o ∧ o.data = .fields vs
theorem Own.noTup {own : List Addr} {h₁ h : Heap} {ρ : Rh} (w : Own W env own h₁ h ρ) {b : Addr} (m : b ∈ own) {its : Array Value} (t : IsTup h b its) : False := by
  obtain ⟨o, vs, e, dd⟩ := w.fld b m
  obtain ⟨o', e', c, n, d'⟩ := t
  rw [e] at e'; cases e'; rw [dd] at d'; cases d'
theorem Own.stb {own : List Addr} {h₁ h h' : Heap} {ρ : Rh} (w : Own W env own h₁ h ρ) (bt : But own h h') : Stb h ρ h' ρ := by
  refine ⟨fun _ _ e => e, fun b its t => ?_, Nat.le_refl _⟩
  have hb : b ∉ own := fun m => w.noTup m t
  obtain ⟨o, e, r⟩ := t
  exact ⟨o, bt b o hb e, r⟩
theorem Own.rel {own : List Addr} {h₁ h h' : Heap} {ρ : Rh} {σ : PS} (w : Own W env own h₁ h ρ) (bt : But own h h') (R : Rel W env h ρ σ) : Rel W env h' ρ σ := by
  have st := w.stb bt
  have kf : ∀ a ∈ fp env, ∀ o, h.get? a = some o → ∃ sl, h'.get? a = some { o with slots := sl } := fun a m o e => ⟨o.slots, bt a o (fun q => w.nfp a q m) e⟩
  obtain ⟨m, hn, hl⟩ := R.lk
  refine ⟨R.eok, ⟨fun b o e => bt b o (fun q => by rw [w.n0 b q] at e; cases e) (R.cells.base b o e), R.cells.len, fun i a o e1 e2 => (R.cells.cell i a o e1 e2).moved st fun x e => bt a x (fun q => w.nρ a q (get_mem e1)) e, R.cells.nd, R.cells.new⟩, ⟨m, ns_slots hn (kf _ (.head _)), fun n p e => ?_⟩, R.fpn, R.fpd, R.apart, fun x hx => ?_⟩
  · obtain ⟨v, r, na⟩ := hl n p e
    refine ⟨v, r.stb st, ?_⟩
    rcases na with na | ⟨na, cc, e1, e2⟩
    · exact .inl na
    · exact .inr ⟨na, cc, e1, cell_slots e2 (kf _ (.tail _ (List.mem_map.mpr ⟨_, mem_of_lookup e1, rfl⟩)))⟩
  · obtain ⟨v, z⟩ := R.isc x hx
    exact ⟨v, cell_slots z (kf _ (.tail _ (List.mem_map.mpr ⟨x, hx, rfl⟩)))⟩
theorem Own.ext {own : List Addr} {h₁ h h' : Heap} {ρ₁ ρ : Rh} (w : Own W env own h₁ h ρ) (bt : But own h h') (x : Ext W (fp env) h₁ ρ₁ h ρ) : Ext W (fp env) h₁ ρ₁ h' ρ := by
  refine ⟨x.pre, x.new, fun b o e => ?_, fun b o e n1 n2 => ?_, x.t⟩
  · obtain ⟨o', e'⟩ := x.there b o e
    exact ⟨o', bt b o' (fun q => by rw [w.fresh b q] at e; cases e) e'⟩
  · obtain ⟨sl, e', f⟩ := x.kept b o e n1 n2
    exact ⟨sl, bt b _ (fun q => by rw [w.fresh b q] at e; cases e) e', f⟩
theorem Own.funFrames {own : List Addr} {h₁ h h' base : Heap} {ρ : Rh} (w : Own W env own h₁ h ρ) (bt : But own h h') : ∀ {l : List Env}, h.FunFrames base l → h'.FunFrames base l
  | [], _ => trivial
  | e :: rest, ⟨hk, ⟨L, o, hf, hn, ho, hd⟩, hrest⟩ => by
    refine ⟨hk, ⟨L, o, hf, hn, bt L o (fun q => ?_) ho, hd⟩, w.funFrames bt hrest⟩
    obtain ⟨o', vs, e', d'⟩ := w.fld L q
    rw [ho] at e'; cases e'; exact hd vs d'
theorem Own.aok {own : List Addr} {h₁ h' : Heap} {A : Around} {s : Shared} {ρ : Rh} {tk : Nat} (w : Own W env own h₁ s.heap ρ) (bt : But own s.heap h') (ha : AOk W d A s ρ) (ht : s.toks ≤ tk) : AOk W d A { s with heap := h', toks := tk } ρ := by
  obtain ⟨l, e, f⟩ := ha.fr
  exact ⟨ha.depth, ha.units, ha.handled, ⟨l, e, f.more (w.funFrames bt f.ff) fun _ q => .inl q⟩, Nat.le_trans ha.tok ht, Nat.lt_of_lt_of_le ha.pos ht⟩
theorem Own.after {own : List Addr} {h₁ h h' : Heap} {ρ ρ' : Rh} (w : Own W env own h₁ h ρ) (x : Ext W (fp env) h ρ h' ρ') : Own W env own h₁ h' ρ' := by
  refine ⟨w.fresh, w.n0, w.nfp, fun b m q => ?_, fun b m => ?_⟩
  · rcases x.new b q with q | q
    · exact w.nρ b m q
    · obtain ⟨o, vs, e, _⟩ := w.fld b m; rw [e] at q; cases q
  · obtain ⟨o, vs, e, dd⟩ := w.fld b m
    exact ⟨o, vs, x.fields e dd (w.nρ b m) (w.nfp b m), dd⟩
theorem Own.moved {own : List Addr} {h₁ h h' : Heap} {ρ : Rh} (w : Own W env own h₁ h ρ) (t : ∀ b ∈ own, ∃ o vs, h'.get? b = some o ∧ o.data = .fields vs) : Own W env own h₁ h' ρ := ⟨w.fresh, w.n0, w.nfp, w.nρ, t⟩

structure Src (W : Wd) (own : List Addr) (it : Value) (target : Expr) (nx : Nat → List PO → Option (Option PV)) (Inv : Nat → Heap → Rh → Prop) : Prop where
  fld : ∀ {j h ρ}, Inv j h ρ → ∀ b ∈ own, ∃ o vs, h.get? b = some o ∧ o.data = .fields vs
  keep : ∀ {j h h' ρ ρ'}, Inv j h ρ → Stb h ρ h' ρ' → (∀ b ∈ own, ∀ o, h.get? b = some o → h'.get? b = some o) → Inv j h' ρ'
  item : ∀ {j A s ρ H p} {Q : Option Value → Shared → Prop} {E : Value → Shared → Prop}, A.handled = none → Cells W s.heap ρ H → Inv j s.heap ρ → nx j H = some (some p) →
    (∀ v h' tk, But own s.heap h' → (∀ b ∈ own, ∃ o vs, h'.get? b = some o ∧ o.data = .fields vs) → RepV h' ρ v p →
      (∀ A' s' (Q' : Unit → Shared → Prop) E', s'.heap = h' → (∀ h'', But own h' h'' → Inv (j + 1) h'' ρ → Q' () { s' with heap := h'' }) → wpAny (model W.prog W.w) A' (letOwnedTupleGo target it v) Q' E' s') → Q (some v) { s with heap := h', toks := tk }) →
    wpAny (model W.prog W.w) A (pyNext it) Q E s
  self : ∀ {j A s ρ} {Q : Value → Shared → Prop} {E : Value → Shared → Prop}, Inv j s.heap ρ → Q it s → wpAny (model W.prog W.w) A (pyIter it) Q E s
  stop : ∀ {j A s ρ H} {Q : Option Value → Shared → Prop} {E : Value → Shared → Prop}, A.handled = none → Cells W s.heap ρ H → Inv j s.heap ρ → nx j H = some none →
    (∀ h' tk, But own s.heap h' → Q none { s with heap := h', toks := tk }) → wpAny (model W.prog W.w) A (pyNext it) Q E s

theorem for_run {own : List Addr} {it : Value} {target : Expr} {nx : Nat → List PO → Option (Option PV)} {Inv : Nat → Heap → Rh → Prop} {asg : PV → PM Unit} {body : List Stmt} {b : PM PF} (S : Src W own it target nx Inv) (hasg : SAs W d env target asg) (hb : SB W d env body b)
    {A : Around} {s₀ s : Shared} {ρ₀ ρ : Rh} {σ : PS} {Q : Flow → Shared → Prop} {E : Value → Shared → Prop} {N j : Nat} (es : s = { s₀ with heap := s.heap, toks := s.toks }) (ha : AOk W d A s ρ) (hr : Rel W env s.heap ρ σ) (ow : Own W env own s₀.heap s.heap ρ) (iv : Inv j s.heap ρ) (ex : Ext W (fp env) s₀.heap ρ₀ s.heap ρ)
    (hp : Post W env rrF s₀ ρ₀ Q E (pfor nx asg b N j σ)) : codeAny (model W.prog W.w) A (.forLoop target it body [] env) (fun r s' => match r with | .ok f => Q f s' | .error e => cameBackBy (model W.prog W.w) A env E e s') s := by
  refine codeAny_forLoop_any (fun n s' => ∃ ρ' σ' j', s' = { s₀ with heap := s'.heap, toks := s'.toks } ∧ AOk W d A s' ρ' ∧ Rel W env s'.heap ρ' σ' ∧ Own W env own s₀.heap s'.heap ρ' ∧ Inv j' s'.heap ρ' ∧ Ext W (fp env) s₀.heap ρ₀ s'.heap ρ' ∧ Post W env rrF s₀ ρ₀ Q E (pfor nx asg b n j' σ')) ?_ N ⟨ρ, σ, j, es, ha, hr, ow, iv, ex, hp⟩
  clear es ha hr ow iv ex hp
  rintro n s ⟨ρ, σ, j, es, ha, hr, ow, iv, ex, hp⟩
  cases n with
  | zero => exact hp.elim
  | succ n =>
    unfold pfor at hp
    refine wpAny_with_toks (Nat.le_refl _) ?_
    cases hx : nx j σ.H with
    | none => rw [hx] at hp; exact hp.elim
    | some o =>
      rw [hx] at hp
      cases o with
      | none =>
        refine S.stop ha.handled hr.cells iv hx fun h' tk bt ht => ?_
        have ha' := ow.aok bt ha ht
        refine wpAny_execs_nil ?_
        rw [es]
        exact hp .next h' ρ tk (ow.rel bt hr) (ow.ext bt ex) ⟨ha'.tok, ha'.pos⟩ trivial
      | some p =>
        refine S.item ha.handled hr.cells iv hx fun v h' tk bt fl rv go ht => ?_
        have ha' := ow.aok bt ha ht
        have ow' := ow.moved fl
        refine wpAny_with_toks (n := tk) (Nat.le_refl _) (go A _ _ _ rfl fun h₂ bt₂ iv₂ _ => ?_)
        have ha₂ : AOk W d A { s with heap := h₂, toks := tk } ρ := Own.aok (s := { s with heap := h', toks := tk }) ow' bt₂ ha' (Nat.le_refl _)
        have r₂ : Rel W env h₂ ρ σ := ow'.rel bt₂ (ow.rel bt hr)
        have ow₂ : Own W env own s₀.heap h₂ ρ := ow'.moved (S.fld iv₂)
        have ex₂ : Ext W (fp env) s₀.heap ρ₀ h₂ ρ := ow'.ext bt₂ (ow.ext bt ex)
        have rv₂ : RepV h₂ ρ v p := rv.stb (ow'.stb bt₂)
        refine bind_noexc (s := { s with heap := h₂, toks := tk }) (s₀ := s₀) (by rw [es]) (hasg ⟨fun h ρ => RepV h ρ v p, fun x y => y.stb x⟩ v p fun _ _ g => g) ha₂ r₂ rv₂ ex₂ hp fun _ _ σ₃ h₃ ρ₃ tk₃ ha₃ hr₃ e₃ ex₃ _ hp₃ => ?_
        have ow₃ := ow₂.after e₃
        have iv₃ : Inv (j + 1) h₃ ρ₃ := S.keep iv₂ (r₂.stb e₃) fun b m o e => by
          obtain ⟨o', vs, e', dd⟩ := ow₂.fld b m
          rw [e] at e'; cases e'
          exact e₃.fields e dd (ow₂.nρ b m) (ow₂.nfp b m)
        refine bind_noexc (s := { s₀ with heap := h₃, toks := tk₃ }) rfl (hb GG.tt) ha₃ hr₃ trivial ex₃ hp₃ fun f pf σ₄ h₄ ρ₄ tk₄ ha₄ hr₄ e₄ ex₄ q hp₄ => ?_
        have ow₄ := ow₃.after e₄
        have iv₄ : Inv (j + 1) h₄ ρ₄ := S.keep iv₃ (hr₃.stb e₄) fun b m o e => by
          obtain ⟨o', vs, e', dd⟩ := ow₃.fld b m
          rw [e] at e'; cases e'
          exact e₄.fields e dd (ow₃.nρ b m) (ow₃.nfp b m)
        rcases RepF.inv q with ⟨rfl, rfl⟩ | ⟨rfl, rfl⟩ | ⟨rfl, rfl⟩ | ⟨v, q', rfl, rfl, rv⟩
        · exact ⟨n, Nat.lt_succ_self _, ρ₄, σ₄, j + 1, rfl, ha₄, hr₄, ow₄, iv₄, ex₄, hp₄⟩
        · exact hp₄ .next h₄ ρ₄ tk₄ hr₄ ex₄ ⟨ha₄.tok, ha₄.pos⟩ trivial
        · exact ⟨n, Nat.lt_succ_self _, ρ₄, σ₄, j + 1, rfl, ha₄, hr₄, ow₄, iv₄, ex₄, hp₄⟩
        · exact hp₄ (.ret v) h₄ ρ₄ tk₄ hr₄ ex₄ ⟨ha₄.tok, ha₄.pos⟩ rv
end
end

section
open PySem PySem.W PyProof.Rows
set_option autoImplicit false
set_option linter.unusedVariables false
set_option maxRecDepth 100000
set_option tactic.hygienic false
noncomputable def Gone (hs : Heap) (fr : List Addr) (h h' : Heap) : Prop :=
  ∀ b o, h.get? b = some o → ((∀ vs, o.data ≠ .fields vs) ∨ ∃ o₀, hs.get? b = some o₀) → (b ∉ fr → h'.get? b = some o) ∧ ∃ sl, h'.get? b = some { o with slots := sl }
section
variable {W : Wd} {d : Nat} {env : Env}
theorem Gone.stb {hs h h' : Heap} {fr : List Addr} {ρ : Rh} (g : Gone hs fr h h') : Stb h ρ h' ρ := by
  refine ⟨fun _ _ e => e, fun b its t => ?_, Nat.le_refl _⟩
  have t' := t
  obtain ⟨o', e', c, n, d'⟩ := t'
  refine IsTup.slots t fun o e => ?_
  rw [e] at e'; cases e'
  exact (g b _ e (.inl fun vs q => by rw [d'] at q; cases q)).2
theorem Cells.gone {hs h h' : Heap} {ρ : Rh} {H : List PO} {l : List Env} (c : Cells W h ρ H) (g : Gone hs (l.filterMap (·.frame)) h h') (hout : ∀ L ∈ l.filterMap (·.frame), L ∉ ρ.a) (hb : ∀ b o, W.h₀.get? b = some o → hs.get? b = some o) (ff : h.FunFrames W.h₀ l) : Cells W h' ρ H := by
  refine ⟨fun b o e => ?_, c.len, fun i a o e1 e2 => ?_, c.nd, c.new⟩
  · refine (g b o (c.base b o e) (.inr ⟨_, hb b o e⟩)).1 fun q => ?_
    rw [(ff.mem q).1] at e; cases e
  · have r := c.cell i a o e1 e2
    exact r.moved g.stb fun x ex => (g a x ex (.inl (r.noFields ex))).1 fun q => hout a q (get_mem e1)
theorem Ext.gone {X : List Addr} {hs h₀ h h' : Heap} {ρ ρ' : Rh} {l : List Env} {base : Heap} (x : Ext W X h₀ ρ h ρ') (g : Gone hs (l.filterMap (·.frame)) h h') (hsub : ∀ b o, h₀.get? b = some o → ∃ o', hs.get? b = some o') (ff : h.FunFrames base l) : Ext W X h₀ ρ h' ρ' := by
  refine ⟨x.pre, x.new, fun b o e => ?_, fun b o e n1 n2 => ?_, x.t⟩
  · obtain ⟨o', e'⟩ := x.there b o e
    obtain ⟨sl, e''⟩ := (g b o' e' (.inr (hsub b o e))).2
    exact ⟨_, e''⟩
  · obtain ⟨sl, e', f'⟩ := x.kept b o e n1 n2
    obtain ⟨k1, sl', e''⟩ := g b _ e' (.inr (hsub b o e))
    refine ⟨sl', e'', fun z => ?_⟩
    have hb : b ∉ l.filterMap (·.frame) := fun q => by
      obtain ⟨_, o', ho, hn⟩ := ff.mem q
      rw [e'] at ho; cases ho
      obtain ⟨vs, hv⟩ := z
      exact hn vs hv
    have e3 := k1 hb
    rw [e''] at e3
    have : sl' = sl := congrArg Obj.slots (Option.some.inj e3)
    rw [this]; exact f' z
theorem entry_new {M : Model} {A : Around} {E : Value → Shared → Prop} {s : Shared} {base : Heap} {outer : List Env} {L e : Addr} {oe : Obj} {vs : Array Value} {head : Value} {hadNext : Bool} {Q : Unit → Shared → Prop}
    (hfr : A.frames = some (env :: outer)) (hl : s.heap.FunFrames base (env :: outer)) (hf : env.frame = some L) (he : s.heap.get? e = some oe) (hd : oe.data = .fields vs) (hsz : 1 < vs.size)
    (h : ∀ h' T, s.heap.get? T = none → T ≠ e → (∃ oe' vs', h'.get? e = some oe' ∧ oe'.cls = oe.cls ∧ oe'.data = .fields vs' ∧ vs'[1]? = some (.ref T)) → (∃ oT ts, h'.get? T = some oT ∧ oT.data = .fields ts ∧ ts[3]? = some .none) →
      (∀ b o, s.heap.get? b = some o → b ≠ e → (b ∉ (env :: outer).filterMap (·.frame) → h'.get? b = some o) ∧ ∃ sl, h'.get? b = some { o with slots := sl }) → Q () { s with heap := h' }) :
    wpAny M A (do let a ← frameOf env; let pl ← entryPlaceOf L hadNext; let b ← EntryCells.newEntry head a .none (rawInt L) .none pl; setField (.ref e) 1 b) (fun _ s' => wpAny M A (setFlight (.ref e) none) Q E s') E s := by
  have hne : e ∉ (env :: outer).filterMap (·.frame) := fun q => by
    obtain ⟨_, o, ho, hn⟩ := hl.mem q
    rw [he] at ho; cases ho; exact hn vs hd
  refine wpAny_bind (wpAny_frameOf_fun hfr hl hf fun h₁ hs₁ => wpAny_bind (wpAny_entryPlaceOf fun pl hpl => ?_))
  unfold EntryCells.newEntry newFields
  refine wpAny_bind (wpAny_newObj_type ?_ (hpl.sizeOk5 _ _ _ _ _))
  generalize hts : ([head, .ref L, .none, rawInt L, .none] ++ (if pl.isEmpty then List.replicate 6 Value.none else pl)).toArray = ts
  have htsz : 3 < ts.size := by
    rw [← hts]
    simp only [List.size_toArray, List.length_append, List.length_cons, List.length_nil] <;> lia
  have e1 : h₁.get? e = some oe := (hs₁.2.1 e hne).trans he
  have e2 : (h₁.push { cls := .type "traceback", dict := none, data := .fields ts }).get? e = some oe := Heap.get?_push_of_some _ e1
  have t2 : (h₁.push { cls := .type "traceback", dict := none, data := .fields ts }).get? h₁.objs.size = some { cls := .type "traceback", dict := none, data := .fields ts } := Heap.get?_push_size h₁ rfl
  have hTe : h₁.objs.size ≠ e := fun q => by rw [← q] at e1; exact absurd (Heap.lt_size e1) (Nat.lt_irrefl _)
  refine wpAny_setField e2 hd hsz ?_
  have d3 := Obj.data_mapFields hd (·.setIfInBounds 1 (Value.ref h₁.objs.size))
  have e3 := Heap.get?_update_self (Obj.mapFields (·.setIfInBounds 1 (Value.ref h₁.objs.size))) e2 (Obj.isFreed_of_fields d3)
  have t3 := (Heap.get?_update_other (h₁.push { cls := .type "traceback", dict := none, data := .fields ts }) (Obj.mapFields (·.setIfInBounds 1 (Value.ref h₁.objs.size))) (Ne.symm hTe)).trans t2
  unfold setFlight
  refine wpAny_bind (wpAny_field e3 d3 (x := .ref h₁.objs.size) (by simp [hsz]) ?_)
  rw [if_pos (show (Value.ref h₁.objs.size != Value.none) = true from by simp)]
  have dT : ({ cls := .type "traceback", dict := none, data := .fields ts } : Obj).data = .fields ts := rfl
  refine wpAny_setField t3 rfl htsz (h _ h₁.objs.size ?_ hTe ?_ ?_ fun b o ho hb => ?_)
  · cases q : s.heap.get? h₁.objs.size with
    | none => rfl
    | some o => rw [hs₁.1] at q; exact absurd (Heap.lt_size q) (Nat.lt_irrefl _)
  · refine ⟨_, _, ?_, Obj.cls_mapFields _ _, d3, by simp [hsz]⟩
    rw [Heap.get?_update_other _ _ hTe]; exact e3
  · exact ⟨_, _, Heap.get?_update_self _ t3 (Obj.isFreed_of_fields (Obj.data_mapFields rfl _)), Obj.data_mapFields rfl _, by simp [htsz]⟩
  · have keep : ∀ {o'}, h₁.get? b = some o' → (((h₁.push { cls := .type "traceback", dict := none, data := .fields ts }).update e (Obj.mapFields (·.setIfInBounds 1 (Value.ref h₁.objs.size)))).update h₁.objs.size (Obj.mapFields (·.setIfInBounds 3 ((none : Option Addr).elim Value.none fun f => rawInt f)))).get? b = some o' := fun {o'} q => by
      have hbT : h₁.objs.size ≠ b := fun z => by rw [← z] at q; exact absurd (Heap.lt_size q) (Nat.lt_irrefl _)
      rw [Heap.get?_update_other _ _ hbT, Heap.get?_update_other _ _ (Ne.symm hb)]
      exact Heap.get?_push_of_some _ q
    obtain ⟨sl, q⟩ := hs₁.2.2 b o ho
    exact ⟨fun n => keep ((hs₁.2.1 b n).trans ho), sl, keep q⟩
structure ExcT (hs h : Heap) (x : Value) : Prop where
  ex : ∃ e oe vs T oT ts, x = .ref e ∧ hs.get? e = none ∧ h.get? e = some oe ∧ oe.cls = .type "ValueError" ∧ oe.data = .fields vs ∧ vs[1]? = some (.ref T) ∧ hs.get? T = none ∧ T ≠ e ∧ h.get? T = some oT ∧ oT.data = .fields ts ∧ ts[3]? = some .none
theorem ExcT.at {hs h : Heap} {x : Value} (q : ExcT hs h x) : ExcAt W hs h x := by
  obtain ⟨e, oe, vs, T, oT, ts, h1, h2, h3, h4, h5, h6, h7⟩ := q.ex
  exact ⟨e, oe, vs, h1, h2, h3, h4, h5, .inr ⟨T, oT, ts, h6, h7⟩⟩
theorem note_exc {M : Model} {A : Around} {E : Value → Shared → Prop} {s : Shared} {hs : Heap} {outer : List Env} {L : Addr} {x : Value} {ρ : Rh} {Q : Unit → Shared → Prop}
    (hfr : A.frames = some (env :: outer)) (hl : FrOk W s.heap ρ (env :: outer)) (hf : env.frame = some L) (q : ExcAt W hs s.heap x) (there : ∀ b o, hs.get? b = some o → ∃ o', s.heap.get? b = some o')
    (h : ∀ h', ExcT hs h' x → Gone hs ((env :: outer).filterMap (·.frame)) s.heap h' → Q () { s with heap := h' }) : wpAny M A (noteFrame x env) (fun _ s' => wpAny M A (setFlight x none) Q E s') E s := by
  obtain ⟨e, oe, vs, rfl, hn, he, hc, hd, ht⟩ := q.ex
  have none_back : ∀ T, s.heap.get? T = none → hs.get? T = none := fun T z => by
    cases y : hs.get? T with
    | none => rfl
    | some o => obtain ⟨o', y'⟩ := there T o y; rw [z] at y'; cases y'
  unfold noteFrame
  simp only [hf]
  rcases ht with h1 | ⟨T, oT, ts, h1, hnT, hTe, hT, hdT, h3⟩
  · refine wpAny_bind (wpAny_field he hd h1 ?_)
    rw [if_neg (by decide)]
    refine entry_new hfr hl.ff hf he hd (Array.getElem?_eq_some_iff.mp h1).1 fun h' T hnT hTe ⟨oe', vs', x1, x2, x3, x4⟩ ⟨oT, ts, y1, y2, y3⟩ k => h h' ⟨e, oe', vs', T, oT, ts, rfl, hn, x1, x2.trans hc, x3, x4, none_back T hnT, hTe, y1, y2, y3⟩ fun b o ho hor => ?_
    refine k b o ho fun z => ?_
    subst z
    rw [he] at ho; cases ho
    rcases hor with w | ⟨o₀, w⟩
    · exact w vs hd
    · rw [hn] at w; cases w
  · refine wpAny_bind (wpAny_field he hd h1 ?_)
    rw [if_pos (show (Value.ref T != Value.none) = true from by simp)]
    refine wpAny_bind (wpAny_field hT hdT h3 ?_)
    rw [if_neg (show ¬ ((Value.none == rawInt L) = true) from by simp [rawInt])]
    refine wpAny_bind (wpAny_setField hT hdT (Array.getElem?_eq_some_iff.mp h3).1 ?_)
    have other : ∀ b, b ≠ T → (s.heap.update T (Obj.mapFields (·.setIfInBounds 3 Value.none))).get? b = s.heap.get? b := fun b hb => Heap.get?_update_other _ _ (Ne.symm hb)
    refine entry_new hfr (hl.ff.of_keeps fun b o ho hnf => ⟨o, (other b fun z => by subst z; rw [hT] at ho; cases ho; exact hnf ts hdT).trans ho, rfl⟩) hf ((other e (Ne.symm hTe)).trans he) hd (Array.getElem?_eq_some_iff.mp h1).1
      fun h' T' hnT' hTe' ⟨oe', vs', x1, x2, x3, x4⟩ ⟨oT', ts', y1, y2, y3⟩ k => h h' ⟨e, oe', vs', T', oT', ts', rfl, hn, x1, x2.trans hc, x3, x4, none_back T' ?_, hTe', y1, y2, y3⟩ fun b o ho hor => ?_
    · by_cases z : T' = T
      · subst z
        have := Heap.get?_update_self (Obj.mapFields (·.setIfInBounds 3 Value.none)) hT (Obj.isFreed_of_fields (Obj.data_mapFields hdT _))
        rw [this] at hnT'; cases hnT'
      · exact (other T' z).symm.trans hnT'
    · have hbT : b ≠ T := fun z => by
        subst z
        rw [hT] at ho; cases ho
        rcases hor with w | ⟨o₀, w⟩
        · exact w ts hdT
        · rw [hnT] at w; cases w
      refine k b o ((other b hbT).trans ho) fun z => ?_
      subst z
      rw [he] at ho; cases ho
      rcases hor with w | ⟨o₀, w⟩
      · exact w vs hd
      · rw [hn] at w; cases w
theorem leave_exc {M : Model} {A : Around} {E : Value → Shared → Prop} {s : Shared} {hs : Heap} {outer : List Env} {L : Addr} {x : Value} {ρ : Rh} {Q : Unit → Shared → Prop}
    (hfr : A.frames = some (env :: outer)) (hl : FrOk W s.heap ρ (env :: outer)) (hf : env.frame = some L) (q : ExcAt W hs s.heap x) (there : ∀ b o, hs.get? b = some o → ∃ o', s.heap.get? b = some o')
    (h : ∀ h', ExcAt W hs h' x → Gone hs ((env :: outer).filterMap (·.frame)) s.heap h' → Q () { s with heap := h' }) : wpAny M A (leaving env x) Q E s := by
  unfold leaving
  exact wpAny_bind (note_exc hfr hl hf q there fun h' t g => h h' t.at g)
theorem flight_exc {M : Model} {A : Around} {E : Value → Shared → Prop} {s : Shared} {hs : Heap} {x : Value} {Q : Unit → Shared → Prop} (q : ExcT hs s.heap x) (fr : List Addr)
    (h : ∀ h', Gone hs fr s.heap h' → Q () { s with heap := h' }) : wpAny M A (setFlight x none) Q E s := by
  obtain ⟨e, oe, vs, T, oT, ts, rfl, hn, he, hc, hd, h1, hnT, hTe, hT, hdT, h3⟩ := q.ex
  unfold setFlight
  refine wpAny_bind (wpAny_field he hd h1 ?_)
  rw [if_pos (show (Value.ref T != Value.none) = true from by simp)]
  refine wpAny_setField hT hdT (Array.getElem?_eq_some_iff.mp h3).1 (h _ fun b o ho hor => ?_)
  have hb : b ≠ T := fun z => by
    subst z
    rw [hT] at ho; cases ho
    rcases hor with w | ⟨o₀, w⟩
    · exact w ts hdT
    · rw [hnT] at w; cases w
  have e1 := (Heap.get?_update_other s.heap (Obj.mapFields (·.setIfInBounds 3 ((none : Option Addr).elim Value.none fun f => rawInt f))) (Ne.symm hb)).trans ho
  exact ⟨fun _ => e1, o.slots, e1⟩
theorem Gone.trans {hs h h' h'' : Heap} {fr : List Addr} (x : Gone hs fr h h') (y : Gone hs fr h' h'') : Gone hs fr h h'' := fun b o ho hor => by
  obtain ⟨k1, sl, e1⟩ := x b o ho hor
  obtain ⟨k2, sl2, e2⟩ := y b _ e1 hor
  refine ⟨fun n => ?_, sl2, e2⟩
  have e3 := k1 n
  rw [e1] at e3
  have := (y b _ e1 hor).1 n
  rw [this]; exact e3
theorem Rel.gone {hs h h' : Heap} {ρ : Rh} {σ : PS} {l : List Env} (R : Rel W env h ρ σ) (g : Gone hs (l.filterMap (·.frame)) h h') (hout : ∀ L ∈ l.filterMap (·.frame), L ∉ ρ.a) (hb : ∀ b o, W.h₀.get? b = some o → hs.get? b = some o) (ff : h.FunFrames W.h₀ l) : Rel W env h' ρ σ := by
  obtain ⟨m, hn, hl⟩ := R.lk
  have cell : ∀ {c : Addr} {v : Option Value}, h.IsCell c v → h'.IsCell c v := fun {c v} z => by
    have z' := z
    obtain ⟨o, e, dd⟩ := z'
    refine cell_slots z fun o' e' => ?_
    rw [e] at e'; cases e'
    exact (g c o e (.inl fun vs q => by rw [dd] at q; cases q)).2
  refine ⟨R.eok, R.cells.gone g hout hb ff, ⟨m, ?_, fun n p e => ?_⟩, R.fpn, R.fpd, R.apart, fun x hx => ?_⟩
  · have hn' := hn
    obtain ⟨o, es, ep, e, dd, _⟩ := hn'
    refine ns_slots hn fun o' e' => ?_
    rw [e] at e'; cases e'
    exact (g _ o e (.inl fun vs q => by rw [dd] at q; cases q)).2
  · obtain ⟨v, r, na⟩ := hl n p e
    refine ⟨v, r.stb g.stb, ?_⟩
    rcases na with na | ⟨na, c, e1, e2⟩
    · exact .inl na
    · exact .inr ⟨na, c, e1, cell e2⟩
  · obtain ⟨v, z⟩ := R.isc x hx
    exact ⟨v, cell z⟩
end
end

section
open PySem PySem.W PyProof.Rows PySem.Spec PySem.SeqAt
set_option autoImplicit false
set_option linter.unusedVariables false
set_option maxRecDepth 100000
set_option tactic.hygienic false
noncomputable def BRel (h : Heap) (ρ : Rh) : List (Str × Value) → List (String × PV) → Prop := All2 fun x y => x.1 = Str.ofString y.1 ∧ RepV h ρ x.2 y.2
section
variable {W : Wd} {d : Nat} {env : Env} {G : GG}
theorem bindL_out {kindOf : Str → Option NameKind} {h : Heap} {ρ : Rh} {binds : List (Str × Value)} {l : List (String × PV)} (z : BRel h ρ binds l) {n : String} (hn : n ∉ l.map (·.1)) : ∀ (m : Str → Option Value), bindL kindOf binds m (Str.ofString n) = m (Str.ofString n) ∧ bindC kindOf binds m (Str.ofString n) = m (Str.ofString n) := by
  induction z with
  | nil => intro m; exact ⟨rfl, rfl⟩
  | @cons a b as bs r _ ih =>
    intro m
    obtain ⟨x, v⟩ := a
    obtain ⟨e, _⟩ := r
    simp only [List.map_cons, List.mem_cons, not_or] at hn
    have hne : Str.ofString n ≠ x := fun q => hn.1 (ofString_inj (q.trans e))
    unfold bindL bindC
    obtain ⟨h1, _⟩ := ih hn.2 (if kindOf x = some .local then fun y => if y = x then some v else m y else m)
    obtain ⟨_, h2⟩ := ih hn.2 (if kindOf x = some .local then m else fun y => if y = x then some v else m y)
    rw [h1, h2]
    constructor <;> split <;> simp [hne]
theorem bind_get {kindOf : Str → Option NameKind} {h : Heap} {ρ : Rh} {binds : List (Str × Value)} {l : List (String × PV)} (z : BRel h ρ binds l) {n : String} {p : PV} : ∀ (m m' : Str → Option Value), (l.map (·.1)).Nodup → l.lookup n = some p → ∃ v, RepV h ρ v p ∧ (kindOf (Str.ofString n) = some .local → bindL kindOf binds m (Str.ofString n) = some v) ∧ (kindOf (Str.ofString n) ≠ some .local → bindC kindOf binds m' (Str.ofString n) = some v) := by
  induction z with
  | nil => intro m m' _ h; cases h
  | @cons a b as bs r z ih =>
    intro m m' hnd hl
    obtain ⟨x, v⟩ := a
    obtain ⟨y, q⟩ := b
    obtain ⟨e, rv⟩ := r
    simp only at e rv
    simp only [List.map_cons, List.nodup_cons] at hnd
    rw [List.lookup_cons] at hl
    by_cases hy : n = y
    · subst hy
      simp only [beq_self_eq_true] at hl
      cases hl
      refine ⟨v, rv, fun hk => ?_, fun hk => ?_⟩
      · unfold bindL
        rw [(bindL_out z hnd.1 _).1, if_pos (by rw [e]; exact hk)]; simp [e]
      · unfold bindC
        rw [(bindL_out z hnd.1 _).2, if_neg (by rw [e]; exact hk)]; simp [e]
    · have : (n == y) = false := by simpa using hy
      simp only [this] at hl
      unfold bindL bindC
      exact ih _ _ hnd.2 hl
noncomputable def BindOk (W : Wd) (fd : FuncData) (pb : List PV → List (String × PV) → List PO → Option (List (String × PV) × List PO)) : Prop :=
  ∀ (A : Around) (s : Shared) (ρ : Rh) (H : List PO) (args : List Value) (kw : List (Str × Value)) (pargs : List PV) (pkw : List (String × PV)) (l : List (String × PV)) (H' : List PO) (Q : List (Str × Value) → Shared → Prop) (E : Value → Shared → Prop),
    Cells W s.heap ρ H → All2 (RepV s.heap ρ) args pargs → KwRel s.heap ρ kw pkw → pb pargs pkw H = some (l, H') →
    (∀ binds h' ρ' tk, Cells W h' ρ' H' → Keeps s.heap h' → Ext W [] s.heap ρ h' ρ' → ρ'.t = ρ.t → s.toks ≤ tk → BRel h' ρ' binds l → Q binds { s with heap := h', toks := tk }) → wpAny (model W.prog W.w) A (bindArgs fd ⟨args, kw⟩) Q E s
noncomputable def fspec (pb : List PV → List (String × PV) → List PO → Option (List (String × PV) × List PO)) (p : PM PF) : FSpec := fun a kw H => match pb a kw H with
  | none => none
  | some (l, H₁) => match p ⟨l, H₁⟩ with
    | some (.ok (.ret v), σ) => some (.ok v, σ.H)
    | some (.ok .next, σ) => some (.ok .none, σ.H)
    | _ => none
noncomputable abbrev fenv (fd : FuncData) (L fa : Addr) : Env := callEnvC fd L fa
noncomputable def CHolds (W : Wd) (d : Nat) (f : Value) (spec : FSpec) : Prop :=
  ∀ (A : Around) (s : Shared) (ρ : Rh) (H : List PO) (args : List Value) (kw : List (Str × Value)) (pargs : List PV) (pkw : List (String × PV)) (R : Result → Shared → Prop),
    AOk W d A s ρ → Cells W s.heap ρ H → All2 (RepV s.heap ρ) args pargs → KwRel s.heap ρ kw pkw → FPost W s ρ (fun v s' => R (.ok (.ret v)) s') (fun e s' => R (.error e) s') (spec pargs pkw H) → codeAny (model W.prog W.w) A (.call f ⟨args, kw⟩) R s
theorem CHolds.f {W : Wd} {d : Nat} {f : Value} {spec : FSpec} (h : CHolds W d f spec) : FHolds W d f spec := by
  intro A s ρ H args kw pargs pkw Q E ha hc hra hrk hp
  exact wpAny_call (h A s ρ H args kw pargs pkw _ ha hc hra hrk hp)
theorem AOk.less {W : Wd} {d d' : Nat} {A : Around} {s : Shared} {ρ : Rh} (h : AOk W d A s ρ) (l : d' ≤ d) : AOk W d' A s ρ := ⟨by have := h.depth; lia, by have := h.units; lia, h.handled, h.fr, h.tok, h.pos⟩
theorem CHolds.more {W : Wd} {d d' : Nat} {f : Value} {spec : FSpec} (h : CHolds W d f spec) (l : d ≤ d') : CHolds W d' f spec := fun A s ρ H args kw pargs pkw R ha => h A s ρ H args kw pargs pkw R (ha.less l)
theorem FHolds.more {W : Wd} {d d' : Nat} {f : Value} {spec : FSpec} (h : FHolds W d f spec) (l : d ≤ d') : FHolds W d' f spec := fun A s ρ H args kw pargs pkw Q E ha => h A s ρ H args kw pargs pkw Q E (ha.less l)
structure DefOk (W : Wd) (fa : Addr) (fd : FuncData) (body : List Stmt) (ns : List String) : Prop where
  obj : ∃ o, W.K.lookup fa = some o ∧ o.data = .func fd
  body : fd.body = .stmts body
  code : codeIn W.K fd.code fd.qualname = true
  glob : fd.globals = mainGlobals
  blt : fd.builtins = builtinsNs
  clo : fd.closure = []
  co : fd.scope.isCoroutine = false
  gen : fd.scope.isGenerator = false
  kind : fd.scope.kind = .function
  names : ∀ k, ∀ n ∈ ns, fd.scope.names.lookup (Str.ofString n) = some .local ∨ (fd.scope.names.lookup (Str.ofString n) = some .cell ∧ ((cellsFrom k fd.scope.names []).lookup (Str.ofString n)).isSome = true)
  nd : ns.Nodup
  cnd : ((cellsFrom 0 fd.scope.names []).map (·.1)).Nodup
noncomputable def SBf (W : Wd) (d : Nat) (env : Env) (b : List Stmt) (p : PM PF) : Prop :=
  ∀ (A : Around) (s : Shared) (ρ : Rh) (σ : PS) (Q : Flow → Shared → Prop) (E : Value → Shared → Prop), (∃ outer, A.frames = some (env :: outer)) → AOk W d A s ρ → Rel W env s.heap ρ σ → Post W env rrF s ρ Q E (p σ) → wpAny (model W.prog W.w) A (execs b env) Q E s
theorem SB.f {b : List Stmt} {p : PM PF} (h : SB W d env b p) : SBf W d env b p := fun A s ρ σ Q E _ ha hr hp => h GG.tt A s ρ σ Q E ha hr trivial hp
noncomputable def fspecX (pb : List PV → List (String × PV) → List PO → Option (List (String × PV) × List PO)) (p : PM PF) : FSpec := fun a kw H => match pb a kw H with
  | none => none
  | some (l, H₁) => match p ⟨l, H₁⟩ with
    | some (.ok (.ret v), σ) => some (.ok v, σ.H)
    | some (.ok .next, σ) => some (.ok .none, σ.H)
    | some (.exc, σ) => some (.exc, σ.H)
    | _ => none
theorem fspec_X {pb : List PV → List (String × PV) → List PO → Option (List (String × PV) × List PO)} {p : PM PF} {a : List PV} {kw : List (String × PV)} {H : List PO} {r : Res PV × List PO} (h : fspec pb p a kw H = some r) : fspecX pb p a kw H = some r := by
  unfold fspec at h
  unfold fspecX
  cases hb : pb a kw H with
  | none => rw [hb] at h; cases h
  | some lH =>
    obtain ⟨l, H₁⟩ := lH
    rw [hb] at h
    dsimp only at h ⊢
    generalize p ⟨l, H₁⟩ = q at h ⊢
    match q, h with
    | some (.ok (.ret v), σ), h => exact h
    | some (.ok .next, σ), h => exact h
theorem c_defG {fa : Addr} {fd : FuncData} {body : List Stmt} {ns : List String} {pb : List PV → List (String × PV) → List PO → Option (List (String × PV) × List PO)} {spec : FSpec} (D : DefOk W fa fd body ns) (hb : BindOk W fd pb) (hns : ∀ a kw H l H', pb a kw H = some (l, H') → l.map (·.1) = ns)
    (hbody : ∀ L, ∃ p, SBf W d (fenv fd L fa) body p ∧ ∀ a kw H r, spec a kw H = some r → fspecX pb p a kw H = some r) : CHolds W (d + 1) (.ref fa) spec := by
  intro A s ρ H args kw pargs pkw R₀ ha hc hra hrk hp
  let Q : Value → Shared → Prop := fun v s' => R₀ (.ok (.ret v)) s'
  let E : Value → Shared → Prop := fun e s' => R₀ (.error e) s'
  obtain ⟨o, ho, hd⟩ := D.obj
  have hof := hc.base _ _ (W.X _ _ ho)
  have hK : W.K.In s.heap := W.X.keeps hc.base
  have hlim : s.heap.NoLimit := W.nolimit.keeps hc.base
  refine codeAny_call_function (by have := ha.depth; lia) hof hd D.co D.gen D.body (codeRec_of hK D.code) ?_
  cases hsp : spec pargs pkw H with
  | none => rw [hsp] at hp; exact hp.elim
  | some r₀ =>
  rw [hsp] at hp
  cases hpb : pb pargs pkw H with
  | none =>
    obtain ⟨p, _, hl⟩ := hbody 0
    have := hl _ _ _ _ hsp
    unfold fspecX at this
    rw [hpb] at this; cases this
  | some lH =>
    obtain ⟨l, H₁⟩ := lH
    refine hb _ s ρ H args kw pargs pkw l H₁ _ _ hc hra hrk hpb fun binds h₁ ρ₁ tk₁ hc₁ hk₁ he₁ hrt ht₁ hbr => ?_
    have hnm := hns _ _ _ _ _ hpb
    rw [D.clo]
    refine wpAny_with_toks (n := tk₁) (Nat.le_refl _) (wpAny_newFunctionEnv_cells D.kind (fun x hx => ?_) fun env he s' x htk => ?_)
    · have : ∃ n ∈ ns, x.1 = Str.ofString n := by
        rw [← hnm]
        clear hpb hp hnm
        induction hbr with
        | nil => cases hx
        | @cons a b as bs r z ih =>
          rcases List.mem_cons.mp hx with rfl | hx
          · exact ⟨b.1, by simp, r.1⟩
          · obtain ⟨n, hn, e⟩ := ih hx; exact ⟨n, by simp at hn ⊢; exact .inr hn, e⟩
      obtain ⟨n, hn, e⟩ := this
      rw [e]; exact D.names _ n hn
    · have hE : env = fenv fd h₁.objs.size fa := he
      refine ⟨(hlim.keeps hk₁).keeps x.toInCall.keep, codeAny_func ?_⟩
      obtain ⟨h₂, tk₂, es', hk₂⟩ := x.done
      have hk₂' : Keeps h₁ h₂ := hk₂
      have hns₂ := x.toInCall.ns
      have hcell := x.cell
      have habove := x.above
      have hap := x.apart
      rw [es'] at hns₂ hcell
      have hL : env.locals = h₁.objs.size := by rw [hE]; rfl
      have fresh : ∀ a, h₁.objs.size ≤ a → h₁.get? a = none := fun a q => by
        cases e : h₁.get? a with
        | none => rfl
        | some o' => exact absurd (Heap.lt_size e) (Nat.not_lt.mpr q)
      have hfp : ∀ a ∈ fp env, h₁.get? a = none := fun a q => by
        rcases List.mem_cons.mp q with rfl | q
        · exact fresh _ (by rw [hL]; exact Nat.le_refl _)
        · obtain ⟨y, hy, rfl⟩ := List.mem_map.mp q
          exact fresh _ (Nat.le_of_lt (by rw [← hL]; exact habove y.1 y.2 hy))
      have hcs : Cells W h₂ ρ₁ H₁ := hc₁.keeps hk₂'
      have inh : ∀ a ∈ ρ₁.a, ∃ ob, h₁.get? a = some ob := fun a q => by
        obtain ⟨_, _, _, _, r⟩ := hc₁.get q; exact r.there
      have cellIn : ∀ y ∈ env.cells, ∃ v, h₂.IsCell y.2 v := fun y hy => by
        have : ∃ n, env.cells.lookup n = some y.2 := by
          rw [hE] at hy ⊢
          exact ⟨y.1, lookup_of_mem_nodup (cellsFrom_names fd.scope.names 0 (h₁.objs.size + 1) [] [] rfl ▸ D.cnd) hy⟩
        obtain ⟨n, e⟩ := this
        exact ⟨_, hcell n y.2 e⟩
      have R : Rel W env h₂ ρ₁ ⟨l, H₁⟩ := by
        refine ⟨⟨by rw [hE]; exact D.kind, by rw [hE]; exact D.glob, by rw [hE]; exact D.blt⟩, hcs, ⟨_, hns₂, fun n q hl => ?_⟩, fun a q => ⟨?_, fun z => ?_⟩, fun y hy e => ?_, hap, cellIn⟩
        · obtain ⟨v, rv, h1, h2⟩ := bind_get (kindOf := env.kindOf) hbr (fun _ => none) (fun _ => none) (by rw [hnm]; exact D.nd) hl
          refine ⟨v, rv.stb (hk₂'.stb .refl), ?_⟩
          have hmem : n ∈ ns := by
            rw [← hnm]
            clear hp hpb hnm h1 h2 rv hbr
            induction l with
            | nil => cases hl
            | cons b l ih =>
              rw [List.lookup_cons] at hl
              by_cases q : n = b.1
              · simp [q]
              · have : (n == b.1) = false := by simpa using q
                rw [this] at hl
                have := ih hl
                simp at this ⊢; exact .inr this
          have hk := D.names (h₁.objs.size + 1) n hmem
          have hkk : env.kindOf (Str.ofString n) = fd.scope.names.lookup (Str.ofString n) := by rw [hE]; rfl
          rcases hk with hk | ⟨hk, hc⟩
          · exact .inl ⟨hkk.trans hk, h1 (hkk.trans hk)⟩
          · obtain ⟨c, hc⟩ := Option.isSome_iff_exists.mp hc
            have hc' : env.cells.lookup (Str.ofString n) = some c := by rw [hE]; exact hc
            refine .inr ⟨.inl (hkk.trans hk), c, hc', ?_⟩
            have := hcell _ _ hc'
            rw [h2 (by rw [hkk, hk]; decide)] at this
            exact this
        · cases e : W.h₀.get? a with
          | none => rfl
          | some o' => have := hc₁.base a o' e; rw [hfp a q] at this; cases this
        · obtain ⟨ob, e⟩ := inh a z; rw [hfp a q] at e; cases e
        · exact Nat.ne_of_gt (habove y.1 y.2 hy) e
      have hA : AOk W d (A.deeper env) s' ρ₁ := by
        obtain ⟨fl, hfl, hff⟩ := ha.fr
        refine ⟨by have := ha.depth; show A.depth + 1 + 2 * d + 2 < recursionLimit; lia, by have := ha.units; show A.units + 3 + 100 * d + 100 < cLine; lia, ha.handled, ⟨env :: fl, Around.frames_deeper hfl, ⟨?_, fun Lx m q => ?_⟩⟩, ?_, ?_⟩
        · rw [es']
          refine Heap.FunFrames.cons (by rw [hE]; show fd.scope.kind ≠ _; rw [D.kind]; decide) (L := env.locals) (by rw [hE]; rfl) hns₂ (R.fpn _ (.head _)).1 ?_
          exact hff.ff.of_keeps fun b o e _ => ⟨o, hk₂' b o (hk₁ b o e), rfl⟩
        · have hfe : env.frame = some env.locals := by rw [hE]; rfl
          rw [List.filterMap_cons, hfe] at m
          rcases List.mem_cons.mp m with rfl | m
          · exact (R.fpn _ (.head _)).2 q
          · exact (hff.more (h' := s.heap) hff.ff he₁.new).out Lx m q
        · rw [hrt]; exact Nat.le_trans ha.tok (Nat.le_trans ht₁ htk)
        · exact Nat.lt_of_lt_of_le ha.pos (Nat.le_trans ht₁ htk)
      have hxs : s' = { s with heap := h₂, toks := tk₂ } := es'
      obtain ⟨p, hbp, hlp⟩ := hbody h₁.objs.size
      have hlp := hlp _ _ _ _ hsp
      unfold fspecX at hlp
      rw [hpb] at hlp
      dsimp only at hlp
      have hbb : SBf W d env body p := by rw [hE]; exact hbp
      refine hbb (A.deeper env) s' ρ₁ ⟨l, H₁⟩ _ _ (by obtain ⟨fl, hfl, _⟩ := ha.fr; exact ⟨fl, Around.frames_deeper hfl⟩) hA (by rw [hxs]; exact R) ?_
      have ext0 : Ext W (fp env) s.heap ρ h₂ ρ₁ := Ext.trans (he₁.mono fun _ q => by simp at q) (Ext0.keeps hk₂').toExt
      have out : ∀ {h' : Heap} {ρ' : Rh}, Ext W (fp env) h₂ ρ₁ h' ρ' → Ext W [] s.heap ρ h' ρ' := fun e => (ext0.trans e).mono fun a q => .inr (by
        cases z : s.heap.get? a with
        | none => rfl
        | some o' => have := hk₁ a o' z; rw [hfp a q] at this; cases this)
      have hp : FPost W s ρ Q E (match p ⟨l, H₁⟩ with
        | some (.ok (.ret v), σ) => some (.ok v, σ.H)
        | some (.ok .next, σ) => some (.ok .none, σ.H)
        | some (.exc, σ) => some (.exc, σ.H)
        | _ => none) := by rw [hlp]; exact hp
      generalize p ⟨l, H₁⟩ = r at hp ⊢
      match r, hp with
      | none, hp => exact hp.elim
      | some (.exc, σ), hp =>
        intro x h' ρ' tk r1 e1 lt q
        rw [hxs] at e1 q
        obtain ⟨fl, hfl, hff⟩ := ha.fr
        have hA' := hA.ext r1 (by rw [hxs]; exact e1) lt
        obtain ⟨fl', hfl', hff'⟩ := hA'.fr
        rw [Around.frames_deeper hfl] at hfl'
        cases hfl'
        refine leave_exc (W := W) (hs := h₂) (s := { s' with heap := h', toks := tk }) (Around.frames_deeper hfl) (L := env.locals) hff' (by rw [hE]; rfl) q (fun b o e => e1.there b o e) fun h₃ q₃ g₃ => ?_
        rw [hxs]
        have c₃ := r1.cells.gone g₃ hff'.out hcs.base hff'.ff
        have sub : ∀ b o, s.heap.get? b = some o → ∃ o', h₂.get? b = some o' := fun b o e => ⟨o, hk₂' b o (hk₁ b o e)⟩
        exact hp x h₃ ρ' tk c₃ ((out e1).gone (base := W.h₀) g₃ sub hff'.ff) lt (q₃.back sub)
      | some (.ok .brk, _), hp => exact hp.elim
      | some (.ok .cont, _), hp => exact hp.elim
      | some (.ok (.ret v), σ), hp =>
        intro f h' ρ' tk r1 e1 lt q
        rw [hxs] at e1
        rcases RepF.inv q with ⟨_, q2⟩ | ⟨_, q2⟩ | ⟨_, q2⟩ | ⟨v', q', rfl, q2, rv⟩
        · cases q2
        · cases q2
        · cases q2
        · cases q2
          rw [hxs]
          exact hp v' h' ρ' tk r1.cells (out e1) lt rv
      | some (.ok .next, σ), hp =>
        intro f h' ρ' tk r1 e1 lt q
        rw [hxs] at e1
        rcases RepF.inv q with ⟨rfl, _⟩ | ⟨_, q2⟩ | ⟨_, q2⟩ | ⟨v', q', _, q2, rv⟩
        · rw [hxs]
          exact hp .none h' ρ' tk r1.cells (out e1) lt rfl
        · cases q2
        · cases q2
        · cases q2
theorem c_def2 {fa : Addr} {fd : FuncData} {body : List Stmt} {ns : List String} {pb : List PV → List (String × PV) → List PO → Option (List (String × PV) × List PO)} {spec : FSpec} (D : DefOk W fa fd body ns) (hb : BindOk W fd pb) (hns : ∀ a kw H l H', pb a kw H = some (l, H') → l.map (·.1) = ns)
    (hbody : ∀ L, ∃ p, SB W d (fenv fd L fa) body p ∧ ∀ a kw H r, spec a kw H = some r → fspec pb p a kw H = some r) : CHolds W (d + 1) (.ref fa) spec :=
  c_defG D hb hns fun L => by obtain ⟨p, h1, h2⟩ := hbody L; exact ⟨p, h1.f, fun a kw H r h => fspec_X (h2 a kw H r h)⟩
end
end

section
open PySem PySem.W PyProof.Rows PySem.Spec PySem.SeqAt
set_option autoImplicit false
set_option linter.unusedVariables false
set_option maxRecDepth 100000
set_option tactic.hygienic false
noncomputable abbrev NX := Nat → List PO → Option (Option PV)
noncomputable def SI (W : Wd) (d : Nat) (env : Env) (e tg : Expr) (p : PM NX) : Prop :=
  ∀ (G : GG) (A : Around) (s : Shared) (ρ : Rh) (σ : PS) (Q : Value → Shared → Prop) (E : Value → Shared → Prop), AOk W d A s ρ → Rel W env s.heap ρ σ → G.P s.heap ρ →
    (match p σ with
      | some (.ok nx, σ') => ∀ own it Inv h' ρ' tk, Rel W env h' ρ' σ' → Ext W (fp env) s.heap ρ h' ρ' → (ρ'.t ≤ tk ∧ 0 < tk) → Src W own it tg nx Inv → Own W env own s.heap h' ρ' → Inv 0 h' ρ' → Q it { s with heap := h', toks := tk }
      | _ => False) → wpAny (model W.prog W.w) A (eval e env) (fun x s₁ => wpAny (model W.prog W.w) A (pyIter x) Q E s₁) E s
section
variable {W : Wd} {d : Nat} {env : Env} {G : GG}
theorem own_mk {h₀ h₁ h' : Heap} {ρ ρ₁ : Rh} {σ : PS} {own : List Addr} (R : Rel W env h₁ ρ₁ σ) (ex : Ext W (fp env) h₀ ρ h₁ ρ₁) (hn : ∀ b ∈ own, h₁.get? b = none) (fl : ∀ b ∈ own, ∃ o vs, h'.get? b = some o ∧ o.data = .fields vs) : Own W env own h₀ h' ρ₁ := by
  refine ⟨fun b m => ?_, fun b m => ?_, fun b m q => ?_, fun b m q => ?_, fl⟩
  · cases e : h₀.get? b with
    | none => rfl
    | some o => obtain ⟨o', e'⟩ := ex.there b o e; rw [hn b m] at e'; cases e'
  · cases e : W.h₀.get? b with
    | none => rfl
    | some o => have := R.base b o e; rw [hn b m] at this; cases this
  · obtain ⟨o, e⟩ := R.fpIn q; rw [hn b m] at e; cases e
  · obtain ⟨_, _, _, _, r⟩ := R.cells.get q
    obtain ⟨o, e⟩ := r.there; rw [hn b m] at e; cases e
set_option tactic.hygienic true in
theorem letgo_plain {tg : Expr} {I : Addr} {v : Value} {T : String} {o : Obj} {vs : Array Value} {A : Around} {s : Shared} {Q : Unit → Shared → Prop} {E : Value → Shared → Prop} (ho : s.heap.get? I = some o) (hc : o.cls = .type T) (hd : o.data = .fields vs)
    (hT : (["enumerate", "zip", "dict_itemiterator", "dict_reverseitemiterator", "odict_iterator", "itertools.zip_longest", "itertools.pairwise"].contains T) = false) (hq : Q () s) : wpAny (model W.prog W.w) A (letOwnedTupleGo tg (.ref I) v) Q E s := by
  unfold letOwnedTupleGo
  split
  all_goals first
    | exact wpAny_pure hq
    | (split
       · rename_i h
         refine wpAny_bind (wpAny_load (by cases h; exact ho) ?_)
         rw [hc, hd]
         show wpAny _ A (if _ then _ else _) Q E s
         rw [if_neg (by rw [hT]; simp)]
         exact wpAny_pure hq
       · exact wpAny_pure hq)
theorem but_of {I : Addr} {h h' : Heap} (sb : Heap.ExtBut I h h') : But [I] h h' := fun b o n e => sb b o (by simpa using n) e
noncomputable def nxList (i : Nat) : NX := fun j H => match H[i]? with
  | some (.list l) => some l[j]?
  | _ => none
set_option tactic.hygienic true in
theorem nxList_inv {i j : Nat} {H : List PO} {r : Option PV} (h : nxList i j H = some r) : ∃ l, H[i]? = some (.list l) ∧ l[j]? = r := by
  unfold nxList at h
  split at h
  · rename_i l e; exact ⟨l, e, Option.some.inj h⟩
  · cases h
theorem src_list {I : Addr} {i : Nat} {tg : Expr} : Src W [I] (.ref I) tg (nxList i) (fun j h ρ => ∃ a, ρ.a[i]? = some a ∧ h.IsListIter I a j) where
  fld := by
    rintro j h ρ ⟨a, _, o, ho, hc, hd⟩ b m
    rw [List.mem_singleton.mp m]; exact ⟨o, _, ho, hd⟩
  keep := by
    rintro j h h' ρ ρ' ⟨a, e, o, ho, r⟩ st k
    exact ⟨a, st.pre _ _ e, o, k I (by simp) o ho, r⟩
  item := by
    rintro j A s ρ H p Q E hh hc ⟨a, ea, hit⟩ hx hq
    obtain ⟨l, hl, e⟩ := nxList_inv hx
    obtain ⟨vs, n, ho, z⟩ := hc.cell i a _ ea hl
    obtain ⟨v, ev, rv⟩ := z.get e
    refine wpAny_pyNext_list_item hit (items := vs.toArray) ⟨_, ho, rfl, n, rfl⟩ (by simpa using ev) fun h' hit' sb => ?_
    have nI : I ∉ ρ.a := fun q => by
      obtain ⟨_, _, _, _, r⟩ := hc.get q
      obtain ⟨o, ho, hc', hd⟩ := hit
      exact r.noFields ho _ hd
    have st : Stb s.heap ρ h' ρ := by
      refine ⟨fun _ _ e => e, fun b its t => ?_, Nat.le_refl _⟩
      obtain ⟨o, ho, r⟩ := t
      have : b ≠ I := fun q => by
        obtain ⟨o', ho', _, hd'⟩ := hit
        rw [q] at ho; rw [ho] at ho'; cases ho'
        obtain ⟨_, n, hd⟩ := r
        rw [hd] at hd'; cases hd'
      exact ⟨o, by rw [sb.2 b this]; exact ho, r⟩
    refine hq v h' s.toks (but_of sb.extBut) (fun b m => ?_) (rv.stb st) fun A' s' Q' E' es hq' => ?_
    · rw [List.mem_singleton.mp m]; obtain ⟨o, ho, _, hd⟩ := hit'; exact ⟨o, _, ho, hd⟩
    · obtain ⟨o, ho, hc', hd⟩ := id hit'
      refine letgo_plain (by rw [es]; exact ho) hc' hd (by decide) ?_
      have := hq' h' (fun _ _ _ e => e) ⟨a, ea, hit'⟩
      rw [← es] at this; exact this
  self := by
    rintro j A s ρ Q E ⟨a, ea, hit⟩ hq
    exact wpAny_pyIter_listiter hit hq
  stop := by
    rintro j A s ρ H Q E hh hc ⟨a, ea, hit⟩ hx hq
    obtain ⟨l, hl, e⟩ := nxList_inv hx
    obtain ⟨vs, n, ho, z⟩ := hc.cell i a _ ea hl
    refine wpAny_pyNext_list_end hh hit (items := vs.toArray) ⟨_, ho, rfl, n, rfl⟩ ?_ fun h' sb => hq h' s.toks (but_of sb)
    rw [List.getElem?_toArray, List.getElem?_eq_none_iff, z.length, ← List.getElem?_eq_none_iff]; exact e
noncomputable def pnxList (v : PV) : PM NX := match v with
  | .ref i => plist i fun _ => PM.pure (nxList i)
  | _ => pfail
theorem si_list {e tg : Expr} {q : PM PV} (he : SE W d env e q) : SI W d env e tg (PM.bind (pnoexc q) pnxList) := by
  intro G A s ρ σ Q E ha hr hg hp
  refine he G A s ρ σ _ _ ha hr hg ?_
  unfold PM.bind pnoexc at hp
  match hq : q σ, hp with
  | some (.ok v, σ₁), hp =>
    intro x h₁ ρ₁ tk₁ r1 e1 l1 rx
    cases v with
    | ref i =>
      have hp : (match plist i (fun _ => PM.pure (nxList i)) σ₁ with | some (.ok nx, σ') => _ | _ => False) := hp
      unfold plist at hp
      cases hl : σ₁.H[i]? with
      | none => rw [hl] at hp; exact hp.elim
      | some o =>
        rw [hl] at hp
        cases o with
        | dct _ => exact hp.elim
        | inst _ => exact hp.elim
        | list l =>
          obtain ⟨a, rfl, ea, vs, n, ho, z⟩ := ref_inv r1.cells rx hl
          refine wpAny_pyIter_list (s := { s with heap := h₁, toks := tk₁ }) (items := vs.toArray) ⟨_, ho, rfl, n, rfl⟩ ?_
          have k := Keeps.push (h := h₁) { cls := .type "list_iterator", data := .fields #[.ref a, .int 0 0] }
          refine hp [h₁.objs.size] (.ref h₁.objs.size) _ _ ρ₁ tk₁ (r1.keeps k) (e1.trans (Ext0.keeps k).toExt) l1 src_list (own_mk r1 e1 (fun b m => by rw [List.mem_singleton.mp m]; exact fresh_none) fun b m => ?_) ⟨a, ea, ?_⟩
          · rw [List.mem_singleton.mp m]; exact ⟨_, _, Heap.get?_push_size _ rfl, rfl⟩
          · exact ⟨_, Heap.get?_push_size _ rfl, rfl, rfl⟩
    | _ => exact hp.elim
theorem st_for {tg e : Expr} {body : List Stmt} {pos : Pos} {p : PM NX} {asg : PV → PM Unit} {b : PM PF} (N : Nat) (hi : SI W d env e tg p) (hasg : SAs W d env tg asg) (hb : SB W d env body b) (hs : ∀ x, foldedSetIterable e env x = pure x) :
    SSt W d env (.For tg e body [] pos) (PM.bind (pnoexc p) fun nx => pfor nx asg b N 0) := by
  intro G A s ρ σ Q E ha hr hg hp
  refine wpAny_For (hi G A s ρ σ _ _ ha hr hg ?_) hs
  unfold PM.bind pnoexc at hp
  match hq : p σ, hp with
  | some (.ok nx, σ₁), hp =>
    intro own it Inv h₁ ρ₁ tk₁ r1 e1 l1 S ow iv
    exact for_run S hasg hb (s₀ := s) (s := { s with heap := h₁, toks := tk₁ }) rfl (ha.ext r1 e1 l1) r1 ow iv e1 hp
end
end

section
open PySem PySem.W PyProof.Rows PySem.Spec PySem.SeqAt
set_option autoImplicit false
set_option linter.unusedVariables false
set_option maxRecDepth 100000
set_option tactic.hygienic false
section
variable {W : Wd} {d : Nat} {env : Env} {G : GG}
theorem wp_tcall {x : Str} {px pos : Pos} {T : String} {es : List Expr} {q : PM (List PV)} {A : Around} {s : Shared} {ρ : Rh} {σ : PS} {Q : Value → Shared → Prop} {E : Value → Shared → Prop} (hx : env.kindOf x = some .globalImplicit) (e : nsIn W.K mainGlobals x = some none) (eb : bootBuiltins x = some (.type T))
    (hes : SEs W d env es q) (hn : noStar es = true) (ha : AOk W d A s ρ) (hr : Rel W env s.heap ρ σ)
    (h : match q σ with
      | some (.ok l, σ₁) => ∀ vs h₁ ρ₁ tk, AOk W d A { s with heap := h₁, toks := tk } ρ₁ → Rel W env h₁ ρ₁ σ₁ → Ext W (fp env) s.heap ρ h₁ ρ₁ → All2 (RepV h₁ ρ₁) vs l → wpAny (model W.prog W.w) A (call (.type T) vs) Q E { s with heap := h₁, toks := tk }
      | _ => False)
    (hnm : x ≠ "__name__" := by decide) (hd : (x == ("__debug__" : Str)) = false := by decide) : wpAny (model W.prog W.w) A (eval (.Call (.Name x px) es [] pos) env) Q E s := by
  rw [arm_eval_Call_Name']
  refine wpAny_bind (s_bname (d := d) (G := GG.tt) (p := .typ T) hx e eb (fun _ _ => rfl) hnm hd A s ρ σ _ _ ha hr trivial ?_)
  intro g h' ρ' tk r1 e1 l1 rf
  cases rf
  show wpAny _ _ (callWith pos (.type T) [] (backTo pos (starEach es env)) []) _ _ _
  refine PySem.callWith_type (noStar_any hn) ?_
  refine sa_posR (R := rrL) hes hn GG.tt (.type T) pos A _ ρ' σ _ _ (ha.ext r1 e1 l1) r1 trivial ?_
  match hq : q σ, h with
  | some (.ok b, σ₁), h =>
    intro x h₂ ρ₂ tk₂ r2 e2 l2 ra
    obtain ⟨ek, r3⟩ := ra
    rw [ek]
    exact h x.pos h₂ ρ₂ tk₂ ((ha.ext r1 e1 l1).ext r2 e2 l2) r2 (e1.trans e2) r3
noncomputable def nxRange (a n : Int) : NX := fun j _ => if (j : Int) < n then some (some (.int (a + j))) else some none
set_option tactic.hygienic true in
theorem src_range {I : Addr} {a n : Int} {tg : Expr} : Src W [I] (.ref I) tg (nxRange a n) (fun j h ρ => IsRangeIter h I (a + j) (n - j) 1) where
  fld := by
    rintro j h ρ ho b m
    rw [List.mem_singleton.mp m]; exact ⟨_, _, ho, rfl⟩
  keep := by
    rintro j h h' ρ ρ' ho st k
    exact k I (by simp) _ ho
  item := by
    rintro j A s ρ H p Q E hh hc hit hx hq
    unfold nxRange at hx
    split at hx
    · rename_i hj
      cases hx
      refine wpAny_pyNext_range_item hit (by lia) fun h' hit' sb => ?_
      have e1 : a + (j : Int) + 1 = a + ((j + 1 : Nat) : Int) := by lia
      have e2 : n - (j : Int) - 1 = n - ((j + 1 : Nat) : Int) := by lia
      rw [e1, e2] at hit'
      refine hq _ h' _ (but_of sb.extBut) (fun b m => ?_) ⟨_, rfl⟩ fun A' s' Q' E' es hq' => ?_
      · rw [List.mem_singleton.mp m]; exact ⟨_, _, hit', rfl⟩
      · refine letgo_plain (by rw [es]; exact hit') rfl rfl (by decide) ?_
        have := hq' h' (fun _ _ _ e => e) hit'
        rw [← es] at this; exact this
    · cases hx
  self := by
    rintro j A s ρ Q E hit hq
    exact wpAny_pyIter_rangeiter hit hq
  stop := by
    rintro j A s ρ H Q E hh hc hit hx hq
    unfold nxRange at hx
    split at hx
    · cases hx
    · exact wpAny_pyNext_range_end hh hit (by lia) fun h' sb => hq h' s.toks (but_of sb)
noncomputable def pnxRange (l : List PV) : PM NX := match l with
  | [.int n] => pguard (n.natAbs < 2 ^ 62) (PM.pure (nxRange 0 n))
  | [.int a, .int b] => pguard (a.natAbs < 2 ^ 62 ∧ b.natAbs < 2 ^ 62) (PM.pure (nxRange a (b - a)))
  | _ => pfail
theorem range_go {A : Around} {s s₀ : Shared} {ρ ρ₀ : Rh} {σ : PS} {tg : Expr} {a b : Int} {t u v : Tok} {r : Addr} {Q : Value → Shared → Prop} {E : Value → Shared → Prop} (es : s = { s₀ with heap := s.heap, toks := s.toks }) (ha : AOk W d A s ρ) (hr : Rel W env s.heap ρ σ) (ex : Ext W (fp env) s₀.heap ρ₀ s.heap ρ)
    (h1 : a.natAbs < 2 ^ 62) (h2 : b.natAbs < 2 ^ 62) (hR : IsRange s.heap r a b 1 t u v)
    (h : ∀ own it Inv h' ρ' tk, Rel W env h' ρ' σ → Ext W (fp env) s₀.heap ρ₀ h' ρ' → (ρ'.t ≤ tk ∧ 0 < tk) → Src W own it tg (nxRange a (b - a)) Inv → Own W env own s₀.heap h' ρ' → Inv 0 h' ρ' → Q it { s₀ with heap := h', toks := tk }) :
    wpAny (model W.prog W.w) A (pyIter (.ref r)) Q E s := by
  refine wpAny_pyIter_range hR (small_one (by lia) (by lia) (by lia) (by lia)) ?_
  have k := Keeps.push (h := s.heap) { cls := .type "range_iterator", data := .fields #[rawInt a, rawInt (Builtin.Range.rangeSize a b 1), rawInt 1] }
  have q := h [s.heap.objs.size] (.ref s.heap.objs.size) _ _ ρ s.toks (hr.keeps k) (ex.trans (Ext0.keeps k).toExt) ⟨ha.tok, ha.pos⟩ src_range
  rw [es]
  by_cases hab : a < b
  · refine q (own_mk hr ex (fun b m => by rw [List.mem_singleton.mp m]; exact fresh_none) fun b m => ?_) ?_
    · rw [List.mem_singleton.mp m]; exact ⟨_, _, Heap.get?_push_size _ rfl, rfl⟩
    · have e1 : a + ((0 : Nat) : Int) = a := by lia
      have e2 : b - a - ((0 : Nat) : Int) = Builtin.Range.rangeSize a b 1 := by rw [rangeSize_one, if_pos hab]; lia
      show IsRangeIter _ _ (a + ((0 : Nat) : Int)) (b - a - ((0 : Nat) : Int)) 1
      rw [e1, e2]
      exact Heap.get?_push_size _ rfl
  · clear q
    have S : Src W [s.heap.objs.size] (.ref s.heap.objs.size) tg (nxRange a (b - a)) (fun j h ρ => j = 0 ∧ IsRangeIter h s.heap.objs.size a 0 1) := by
      refine ⟨?_, ?_, ?_, ?_, ?_⟩
      · rintro j h ρ ⟨_, ho⟩ b m
        rw [List.mem_singleton.mp m]; exact ⟨_, _, ho, rfl⟩
      · rintro j h h' ρ ρ' ⟨e, ho⟩ st k
        exact ⟨e, k _ (by simp) _ ho⟩
      · rintro j A s ρ H p Q E hh hc ⟨rfl, hit⟩ hx hq
        unfold nxRange at hx
        rw [if_neg (by lia)] at hx; cases hx
      · rintro j A s ρ Q E ⟨_, hit⟩ hq
        exact wpAny_pyIter_rangeiter hit hq
      · rintro j A s ρ H Q E hh hc ⟨_, hit⟩ hx hq
        exact wpAny_pyNext_range_end hh hit (by lia) fun h' sb => hq h' s.toks (but_of sb)
    refine h [s.heap.objs.size] (.ref s.heap.objs.size) _ _ ρ s.toks (hr.keeps k) (ex.trans (Ext0.keeps k).toExt) ⟨ha.tok, ha.pos⟩ S (own_mk hr ex (fun b m => by rw [List.mem_singleton.mp m]; exact fresh_none) fun b m => ?_) ⟨rfl, ?_⟩
    · rw [List.mem_singleton.mp m]; exact ⟨_, _, Heap.get?_push_size _ rfl, rfl⟩
    · have e2 : Builtin.Range.rangeSize a b 1 = 0 := by rw [rangeSize_one, if_neg hab]
      have := Heap.get?_push_size s.heap (o := { cls := .type "range_iterator", data := .fields #[rawInt a, rawInt (Builtin.Range.rangeSize a b 1), rawInt 1] }) rfl
      rw [e2] at this ⊢; exact this
set_option tactic.hygienic true in
theorem pnxRange_inv {l : List PV} {σ : PS} {X : NX → PS → Prop} (h : match pnxRange l σ with | some (.ok nx, σ') => X nx σ' | _ => False) :
    (∃ n : Int, l = [.int n] ∧ n.natAbs < 2 ^ 62 ∧ X (nxRange 0 n) σ) ∨ (∃ a b : Int, l = [.int a, .int b] ∧ (a.natAbs < 2 ^ 62 ∧ b.natAbs < 2 ^ 62) ∧ X (nxRange a (b - a)) σ) := by
  generalize hz : pnxRange l = z at h
  unfold pnxRange at hz
  split at hz
  · rename_i n
    unfold pguard at hz
    split at hz
    · rename_i hn; subst hz; exact .inl ⟨n, rfl, hn, h⟩
    · subst hz; exact h.elim
  · rename_i a b
    unfold pguard at hz
    split at hz
    · rename_i hn; subst hz; exact .inr ⟨a, b, rfl, hn, h⟩
    · subst hz; exact h.elim
  · subst hz; exact h.elim
theorem si_range {es : List Expr} {px pos : Pos} {tg : Expr} {q : PM (List PV)} (hx : env.kindOf "range" = some .globalImplicit) (e : nsIn W.K mainGlobals "range" = some none) (hes : SEs W d env es q) (hn : noStar es = true) :
    SI W d env (.Call (.Name "range" px) es [] pos) tg (PM.bind (pnoexc q) pnxRange) := by
  intro G A s ρ σ Q E ha hr hg hp
  refine wp_tcall (T := "range") hx e (by decide +kernel) hes hn ha hr ?_
  unfold PM.bind pnoexc at hp
  match hq : q σ, hp with
  | some (.ok l, σ₁), hp =>
    intro vs h₁ ρ₁ tk₁ ha₁ r1 e1 rl
    rcases pnxRange_inv hp with ⟨n, rfl, hn, hp⟩ | ⟨a, b, rfl, hn, hp⟩
    · obtain ⟨v, rfl, t, rfl⟩ := one_inv rl
      refine call_range_1 ?_
      have k := Keeps.push (h := h₁) { cls := .type "range", data := .fields #[.int 0 tk₁, .int n t, .int 1 (tk₁ + 1)] }
      have r2 := r1.keeps k
      have ex2 := e1.trans (Ext0.keeps (W := W) (X := fp env) (ρ := ρ₁) k).toExt
      have ha2 := ha₁.ext r2 (Ext0.keeps k).toExt (tk := tk₁ + 1 + 1) ⟨Nat.le_trans ha₁.tok (by show tk₁ ≤ _; lia), by lia⟩
      refine range_go (tg := tg) (s₀ := s) (ρ₀ := ρ) (a := 0) (b := n) (s := { s with heap := h₁.push { cls := .type "range", data := .fields #[.int 0 tk₁, .int n t, .int 1 (tk₁ + 1)] }, toks := tk₁ + 1 + 1 }) rfl ha2 r2 ex2 (by decide) hn (Heap.get?_push_size _ rfl) ?_
      rw [Int.sub_zero]; exact hp
    · obtain ⟨v, w, rfl, ⟨t, rfl⟩, u, rfl⟩ := two_inv rl
      refine call_range_2 ?_
      have k := Keeps.push (h := h₁) { cls := .type "range", data := .fields #[.int a t, .int b u, .int 1 tk₁] }
      have r2 := r1.keeps k
      have ex2 := e1.trans (Ext0.keeps (W := W) (X := fp env) (ρ := ρ₁) k).toExt
      have ha2 := ha₁.ext r2 (Ext0.keeps k).toExt (tk := tk₁ + 1) ⟨Nat.le_trans ha₁.tok (by show tk₁ ≤ _; lia), by lia⟩
      exact range_go (tg := tg) (s₀ := s) (ρ₀ := ρ) (s := { s with heap := h₁.push { cls := .type "range", data := .fields #[.int a t, .int b u, .int 1 tk₁] }, toks := tk₁ + 1 }) rfl ha2 r2 ex2 hn.1 hn.2 (Heap.get?_push_size _ rfl) hp
end
end

section
open PySem PySem.W PyProof.Rows PySem.Spec PySem.SeqAt
set_option autoImplicit false
set_option linter.unusedVariables false
set_option maxRecDepth 100000
set_option tactic.hygienic false
noncomputable def pinner (capt : List String) (σ : PS) : PS := ⟨capt.filterMap fun n => (σ.loc.lookup n).map fun p => (n, p), σ.H⟩
noncomputable def pback : List String → List (String × PV) → List (String × PV) → Option (List (String × PV))
  | [], _, loc => some loc
  | n :: r, inn, loc => match inn.lookup n with
    | some p => pback r inn (lset n p loc)
    | none => none
noncomputable def pcompL (nx : NX) (asg : PV → PM Unit) (test : PM Bool) (elt : PM PV) (acc : Nat) : Nat → Nat → PM Unit
  | 0, _ => pfail
  | f + 1, j => fun σ => match nx j σ.H with
    | none => none
    | some none => some (.ok (), σ)
    | some (some p) => PM.bind (pnoexc (asg p)) (fun _ => PM.bind (pnoexc test) fun t => if t = true then PM.bind (pnoexc elt) fun v => PM.bind (mAppend acc [v]) fun _ => pcompL nx asg test elt acc f (j + 1) else pcompL nx asg test elt acc f (j + 1)) σ
noncomputable def pcomp (capt : List String) (p : PM NX) (asg : PV → PM Unit) (test : PM Bool) (elt : PM PV) (N : Nat) : PM PV := PM.bind (pnoexc p) fun nx => fun σ =>
  match pcompL nx asg test elt σ.H.length N 0 (pinner capt { σ with H := σ.H ++ [.list []] }) with
  | some (.ok (), σ') => (match pback capt σ'.loc σ.loc with
    | some loc => some (.ok (.ref σ.H.length), ⟨loc, σ'.H⟩)
    | none => none)
  | _ => none
noncomputable def TestsOk (W : Wd) (d : Nat) (env : Env) (ifs : List Expr) (p : PM Bool) : Prop := ∀ G, Sim W d env rrB G (forIn ifs true fun c r => if r = true then do let ok ← isTrue c env (eval c env); pure (ForInStep.yield ok) else pure (ForInStep.yield r)) p
noncomputable def POk {β : Type} (X : β → PS → Prop) : Option (Res β × PS) → Prop
  | some (.ok b, σ) => X b σ
  | _ => False
theorem POk.bind {α β : Type} {X : β → PS → Prop} {p : PM α} {q : α → PM β} {σ : PS} (h : POk X (PM.bind p q σ)) : ∃ a σ', p σ = some (.ok a, σ') ∧ POk X (q a σ') := by
  unfold PM.bind at h
  cases e : p σ with
  | none => rw [e] at h; exact h.elim
  | some r =>
    obtain ⟨r, σ'⟩ := r
    rw [e] at h
    cases r with
    | exc => exact h.elim
    | ok a => exact ⟨a, σ', rfl, h⟩
set_option tactic.hygienic true in
theorem POk.noexc {α : Type} {p : PM α} {σ σ' : PS} {a : α} (h : pnoexc p σ = some (.ok a, σ')) : p σ = some (.ok a, σ') := by
  unfold pnoexc at h
  split at h
  · rename_i e; rw [e]; exact h
  · cases h
theorem POk.bindN {α β : Type} {X : β → PS → Prop} {p : PM α} {q : α → PM β} {σ : PS} (h : POk X (PM.bind (pnoexc p) q σ)) : ∃ a σ', p σ = some (.ok a, σ') ∧ POk X (q a σ') := by
  obtain ⟨a, σ', e, h⟩ := h.bind
  exact ⟨a, σ', POk.noexc e, h⟩
section
variable {W : Wd} {d : Nat} {env : Env} {G : GG}
theorem tests_nil : TestsOk W d env [] (PM.pure true) := fun G => Sim.of0 fun A s ρ σ Q E ha hr hg hp => wpAny_tests_nil (hp true s.heap ρ s.toks hr .refl rfl)
theorem tests_one {c : Expr} {p : PM Bool} (h : ST W d env c p) : TestsOk W d env [c] p := fun G A s ρ σ Q E ha hr hg hp => wpAny_tests_one (h G A s ρ σ Q E ha hr hg hp)
theorem wp_append {A : Around} {s : Shared} {ρ : Rh} {σ : PS} {i : Nat} {a : Addr} {v : Value} {p : PV} {Q : Value → Shared → Prop} {E : Value → Shared → Prop} (hr : Rel W env s.heap ρ σ) (ei : ρ.a[i]? = some a) (rv : RepV s.heap ρ v p) (hp : Post0 W env rrV s ρ Q E (mAppend i [p] σ)) :
    wpAny (model W.prog W.w) A (call (.builtin "list.append") [.ref a, v]) Q E s := by
  unfold mAppend at hp
  obtain ⟨l, e1, hp⟩ := plist_inv hp
  obtain ⟨h1, hp⟩ := pguard_inv hp
  obtain ⟨ws, n, hw, zw⟩ := hr.cells.cell i a _ ei e1
  refine append_at hw (fun h' sb ho => ?_) (by rw [List.size_toArray, zw.length]; exact h1)
  have st := hr.cells.stbSet (get_mem ei) sb.2
  refine post_set hr hp ei sb.2 ?_ rfl s.toks
  exact ⟨ws ++ [v], n + 1, by rw [ho]; simp, (zw.mono fun _ _ y => y.stb st).append (.cons (rv.stb st) .nil)⟩
theorem compLoop_any {prog : Program} {w : World} {A : Around} {s : Shared} {elt target iter : Expr} {ifs : List Expr} {scope : Scope} {pos : Pos} {it acc : Value} {env : Env} {R : Result → Shared → Prop} (I : Nat → Shared → Prop)
    (turn : ∀ n s, I n s → wpAny (model prog w) A (pyNext it) (fun r s₁ => match r with
      | none => R (.ok .next) s₁
      | some v => wpAny (model prog w) A (letOwnedTupleGo target it v) (fun _ s₁' => wpAny (model prog w) A (assign target env v) (fun _ s₂ =>
          wpAny (model prog w) A (forIn ifs true fun c r => if r = true then do let ok ← isTrue c env (eval c env); pure (ForInStep.yield ok) else pure (ForInStep.yield r)) (fun ok s₃ =>
            if ok = true then wpAny (model prog w) A (eval elt env) (fun x s₄ =>
              wpAny (model prog w) A (call (.builtin "list.append") [acc, x]) (fun _ s₅ => ∃ m, m < n ∧ I m s₅) (notedBy (model prog w) A env fun e s' => R (.error e) s') s₄) (notedBy (model prog w) A env fun e s' => R (.error e) s') s₃
            else ∃ m, m < n ∧ I m s₃) (notedBy (model prog w) A env fun e s' => R (.error e) s') s₂) (notedBy (model prog w) A env fun e s' => R (.error e) s') s₁') (notedBy (model prog w) A env fun e s' => R (.error e) s') s₁) (notedBy (model prog w) A env fun e s' => R (.error e) s') s)
    (n : Nat) (h : I n s) : codeAny (model prog w) A (.compLoop (.ListComp elt [⟨target, iter, ifs, 0⟩] scope pos) 0 it acc env) R s := by
  refine codeAny_loop rfl I (fun n s hI => ?_) n h
  show wpAny _ A ((compTurn (.ListComp elt [⟨target, iter, ifs, 0⟩] scope pos) 0 it acc env).onRaise (fun x => do noteFrame x env; theTreesLotGoes x)) _ _ s
  refine wpAny_noted ?_
  rw [compTurn_list]
  refine wpAny_bind (wpAny_standAt (wpAny_bind (wpAny_mono (turn n s hI) (fun r s₁ h₁ => ?_) fun _ _ h' => h')))
  cases r with
  | none => exact wpAny_pure h₁
  | some v =>
    refine wpAny_bind (wpAny_mono h₁ (fun _ s₁' h₁' => ?_) fun _ _ h' => h')
    refine wpAny_bind (wpAny_mono h₁' (fun _ s₂ h₂ => wpAny_bind (wpAny_mono h₂ (fun ok s₃ h₃ => ?_) fun _ _ h' => h')) fun _ _ h' => h')
    cases ok with
    | false => exact wpAny_pure ⟨rfl, h₃⟩
    | true =>
      exact wpAny_bind (wpAny_bind (wpAny_mono h₃ (fun x s₄ h₄ => wpAny_bind (wpAny_mono h₄ (fun _ s₅ h₅ => wpAny_pure (wpAny_pure ⟨rfl, h₅⟩)) fun _ _ h' => h')) fun _ _ h' => h'))

theorem Own.extX {own X : List Addr} {h₁ h h' : Heap} {ρ₁ ρ : Rh} (w : Own W env own h₁ h ρ) (bt : But own h h') (x : Ext W X h₁ ρ₁ h ρ) : Ext W X h₁ ρ₁ h' ρ := by
  refine ⟨x.pre, x.new, fun b o e => ?_, fun b o e n1 n2 => ?_, x.t⟩
  · obtain ⟨o', e'⟩ := x.there b o e
    exact ⟨o', bt b o' (fun q => by rw [w.fresh b q] at e; cases e) e'⟩
  · obtain ⟨sl, e', f⟩ := x.kept b o e n1 n2
    exact ⟨sl, bt b _ (fun q => by rw [w.fresh b q] at e; cases e) e', f⟩
structure CI (W : Wd) (d : Nat) (env : Env) (own : List Addr) (Inv : Nat → Heap → Rh → Prop) (X : List Addr) (Out : Heap → Rh → Prop) (i : Nat) (a : Addr) (s₀ : Shared) (ρ₀ : Rh) (A : Around) (j : Nat) (s : Shared) (ρ : Rh) (σ : PS) : Prop where
  es : s = { s₀ with heap := s.heap, toks := s.toks }
  ha : AOk W d A s ρ
  hr : Rel W env s.heap ρ σ
  ow : Own W env own s₀.heap s.heap ρ
  iv : Inv j s.heap ρ
  ex : Ext W X s₀.heap ρ₀ s.heap ρ
  hi : ρ.a[i]? = some a
  ho : Out s.heap ρ
theorem CI.after {own : List Addr} {it : Value} {target : Expr} {nx : NX} {Inv : Nat → Heap → Rh → Prop} {X : List Addr} {Out : Heap → Rh → Prop} {i j : Nat} {a : Addr} {s₀ : Shared} {ρ₀ : Rh} {A : Around} {h h' : Heap} {t t' : Nat} {ρ ρ' : Rh} {σ σ' : PS} (c : CI W d env own Inv X Out i a s₀ ρ₀ A j { s₀ with heap := h, toks := t } ρ σ)
    (hX : ∀ a ∈ fp env, a ∈ X) (S : Src W own it target nx Inv) (hO2 : ∀ h ρ σ h' ρ', Rel W env h ρ σ → Ext W (fp env) h ρ h' ρ' → Out h ρ → Out h' ρ') (r : Rel W env h' ρ' σ') (e : Ext W (fp env) h ρ h' ρ') (l : ρ'.t ≤ t' ∧ 0 < t') : CI W d env own Inv X Out i a s₀ ρ₀ A j { s₀ with heap := h', toks := t' } ρ' σ' := by
  refine ⟨rfl, c.ha.ext r e l, r, c.ow.after e, S.keep c.iv (c.hr.stb e) fun b m o eo => ?_, c.ex.trans (e.mono fun a q => .inl (hX a q)), e.pre _ _ c.hi, hO2 _ _ _ _ _ c.hr e c.ho⟩
  obtain ⟨o', vs, e', dd⟩ := c.ow.fld b m
  have eo : h.get? b = some o := eo
  have e' : h.get? b = some o' := e'
  rw [eo] at e'; cases e'
  exact e.fields eo dd (c.ow.nρ b m) (c.ow.nfp b m)
theorem comp_run {own : List Addr} {it : Value} {target iter : Expr} {nx : NX} {Inv : Nat → Heap → Rh → Prop} {asg : PV → PM Unit} {ifs : List Expr} {test : PM Bool} {elt : Expr} {ep : PM PV} {scope : Scope} {pos : Pos} {X : List Addr} {Out : Heap → Rh → Prop} (hX : ∀ a ∈ fp env, a ∈ X) (S : Src W own it target nx Inv) (hasg : SAs W d env target asg) (ht : TestsOk W d env ifs test) (he : SE W d env elt ep)
    {A : Around} {s₀ s : Shared} {ρ₀ ρ : Rh} {σ : PS} {R : Result → Shared → Prop} {N j i : Nat} {a : Addr} (es : s = { s₀ with heap := s.heap, toks := s.toks }) (ha : AOk W d A s ρ) (hr : Rel W env s.heap ρ σ) (ow : Own W env own s₀.heap s.heap ρ) (iv : Inv j s.heap ρ) (ex : Ext W X s₀.heap ρ₀ s.heap ρ) (hi : ρ.a[i]? = some a) (hout : Out s.heap ρ) (hO1 : ∀ h h' ρ, Own W env own s₀.heap h ρ → But own h h' → Out h ρ → Out h' ρ) (hO2 : ∀ h ρ σ h' ρ', Rel W env h ρ σ → Ext W (fp env) h ρ h' ρ' → Out h ρ → Out h' ρ')
    (hp : POk (fun _ σ' => ∀ h' ρ' tk, Rel W env h' ρ' σ' → Ext W X s₀.heap ρ₀ h' ρ' → (ρ'.t ≤ tk ∧ 0 < tk) → ρ'.a[i]? = some a → Out h' ρ' → R (.ok .next) { s₀ with heap := h', toks := tk }) (pcompL nx asg test ep i N j σ)) :
    codeAny (model W.prog W.w) A (.compLoop (.ListComp elt [⟨target, iter, ifs, 0⟩] scope pos) 0 it (.ref a) env) R s := by
  refine compLoop_any (fun n s' => ∃ ρ' σ' j', CI W d env own Inv X Out i a s₀ ρ₀ A j' s' ρ' σ' ∧ POk (fun _ σ' => ∀ h' ρ' tk, Rel W env h' ρ' σ' → Ext W X s₀.heap ρ₀ h' ρ' → (ρ'.t ≤ tk ∧ 0 < tk) → ρ'.a[i]? = some a → Out h' ρ' → R (.ok .next) { s₀ with heap := h', toks := tk }) (pcompL nx asg test ep i n j' σ')) ?_ N ⟨ρ, σ, j, ⟨es, ha, hr, ow, iv, ex, hi, hout⟩, hp⟩
  clear es ha hr ow iv ex hp hi hout
  rintro n s ⟨ρ, σ, j, c, hp⟩
  cases n with
  | zero => exact hp.elim
  | succ n =>
    unfold pcompL at hp
    refine wpAny_with_toks (Nat.le_refl _) ?_
    cases hx : nx j σ.H with
    | none => rw [hx] at hp; exact hp.elim
    | some o =>
      rw [hx] at hp
      cases o with
      | none =>
        refine S.stop c.ha.handled c.hr.cells c.iv hx fun h' tk bt htk => ?_
        have ha' := c.ow.aok bt c.ha htk
        rw [c.es]
        exact hp h' ρ tk (c.ow.rel bt c.hr) (c.ow.extX bt c.ex) ⟨ha'.tok, ha'.pos⟩ c.hi (hO1 _ _ _ c.ow bt c.ho)
      | some p =>
        refine S.item c.ha.handled c.hr.cells c.iv hx fun v h' tk bt fl rv go htk => ?_
        have ha' := c.ow.aok bt c.ha htk
        have ow' := c.ow.moved fl
        refine wpAny_with_toks (n := tk) (Nat.le_refl _) (go A _ _ _ rfl fun h₂ bt₂ iv₂ _ => ?_)
        have e₀ : ({ s with heap := h₂, toks := tk } : Shared) = { s₀ with heap := h₂, toks := tk } := by rw [c.es]
        have c₂ : CI W d env own Inv X Out i a s₀ ρ₀ A (j + 1) { s₀ with heap := h₂, toks := tk } ρ σ := by
          refine ⟨rfl, ?_, ow'.rel bt₂ (c.ow.rel bt c.hr), ow'.moved (S.fld iv₂), iv₂, ow'.extX bt₂ (c.ow.extX bt c.ex), c.hi, hO1 _ _ _ ow' bt₂ (hO1 _ _ _ c.ow bt c.ho)⟩
          rw [← e₀]
          exact Own.aok (s := { s with heap := h', toks := tk }) ow' bt₂ ha' (Nat.le_refl _)
        have rv₂ : RepV h₂ ρ v p := rv.stb (ow'.stb bt₂)
        rw [e₀]
        refine hasg ⟨fun h ρ => RepV h ρ v p, fun x y => y.stb x⟩ v p (fun _ _ g => g) A _ ρ σ _ _ c₂.ha c₂.hr rv₂ ?_
        obtain ⟨_, σ₃, hq, hp⟩ := hp.bindN
        rw [hq]
        intro _ h₃ ρ₃ tk₃ r₃ e₃ l₃ _
        have c₃ := c₂.after hX S hO2 r₃ e₃ l₃
        refine ht GG.tt A _ ρ₃ σ₃ _ _ c₃.ha r₃ trivial ?_
        obtain ⟨t, σ₄, hq2, hp⟩ := hp.bindN
        rw [hq2]
        intro t' h₄ ρ₄ tk₄ r₄ e₄ l₄ et
        have et : t' = t := et
        subst et
        have c₄ := c₃.after hX S hO2 r₄ e₄ l₄
        cases t' with
        | false => exact ⟨n, Nat.lt_succ_self _, ρ₄, σ₄, j + 1, c₄, hp⟩
        | true =>
          refine he GG.tt A _ ρ₄ σ₄ _ _ c₄.ha r₄ trivial ?_
          rw [if_pos rfl] at hp
          obtain ⟨pv, σ₅, hq3, hp⟩ := hp.bindN
          rw [hq3]
          intro x h₅ ρ₅ tk₅ r₅ e₅ l₅ rx
          have c₅ := c₄.after hX S hO2 r₅ e₅ l₅
          refine wpAny_with_toks (n := tk₅) (Nat.le_refl _) (wp_append (s := { s₀ with heap := h₅, toks := tk₅ }) r₅ c₅.hi rx ?_)
          obtain ⟨_, σ₆, hq4, hp⟩ := hp.bind
          rw [hq4]
          intro _ h₆ ρ₆ tk₆ r₆ e₆ _ htk₆
          exact ⟨n, Nat.lt_succ_self _, ρ₆, σ₆, j + 1, c₅.after hX S hO2 r₆ e₆.toExt ⟨by rw [e₆.teq]; exact Nat.le_trans l₅.1 htk₆, Nat.lt_of_lt_of_le l₅.2 htk₆⟩, hp⟩
end
end

section
open PySem PySem.W PyProof.Rows PySem.Spec PySem.SeqAt
set_option autoImplicit false
set_option linter.unusedVariables false
set_option maxRecDepth 100000
set_option tactic.hygienic false
theorem pback_lookup : ∀ {capt : List String} {inn loc loc' : List (String × PV)}, pback capt inn loc = some loc' → ∀ n, (n ∈ capt → loc'.lookup n = inn.lookup n) ∧ (n ∉ capt → loc'.lookup n = loc.lookup n)
  | [], inn, loc, loc', h, n => by cases h; exact ⟨fun z => (nomatch z), fun _ => rfl⟩
  | c :: r, inn, loc, loc', h, n => by
    unfold pback at h
    cases e : inn.lookup c with
    | none => rw [e] at h; cases h
    | some p =>
      rw [e] at h
      obtain ⟨h1, h2⟩ := pback_lookup h n
      by_cases m : n ∈ r
      · exact ⟨fun _ => h1 m, fun q => absurd (List.mem_cons_of_mem _ m) q⟩
      · have h2 := h2 m
        rw [lset_lookup] at h2
        by_cases q : n = c
        · subst q
          rw [if_pos rfl] at h2
          exact ⟨fun _ => h2.trans e.symm, fun z => absurd (List.mem_cons_self) z⟩
        · rw [if_neg q] at h2
          exact ⟨fun z => (by rcases List.mem_cons.mp z with z | z <;> contradiction), fun _ => h2⟩
theorem pinner_lookup {capt : List String} {σ : PS} {n : String} {p : PV} (h : (pinner capt σ).loc.lookup n = some p) : n ∈ capt ∧ σ.loc.lookup n = some p := by
  unfold pinner at h
  simp only at h
  induction capt with
  | nil => cases h
  | cons c r ih =>
    rw [List.filterMap_cons] at h
    cases e : σ.loc.lookup c with
    | none =>
      rw [e] at h
      obtain ⟨h1, h2⟩ := ih h
      exact ⟨List.mem_cons_of_mem _ h1, h2⟩
    | some q =>
      rw [e] at h
      simp only [Option.map_some, List.lookup_cons] at h
      by_cases z : n = c
      · subst z
        simp only [beq_self_eq_true] at h
        cases h
        exact ⟨List.mem_cons_self, e⟩
      · have : (n == c) = false := by simpa using z
        rw [this] at h
        obtain ⟨h1, h2⟩ := ih h
        exact ⟨List.mem_cons_of_mem _ h1, h2⟩
structure CapOk (env : Env) (scope : Scope) (cl : List (Str × Addr)) (capt : List String) : Prop where
  all : All2 (fun (x : Str × Addr) n => x.1 = Str.ofString n ∧ env.cells.lookup x.1 = some x.2 ∧ env.kindOf x.1 = some .cell ∧ ((relabel scope env).names.lookup x.1 = some .cell ∨ (relabel scope env).names.lookup x.1 = some .free)) cl capt
  nd : capt.Nodup
section
variable {W : Wd} {d : Nat} {env : Env} {G : GG}
theorem CapOk.at {scope : Scope} {cl : List (Str × Addr)} {capt : List String} (c : CapOk env scope cl capt) {n : String} (h : n ∈ capt) : ∃ a, cl.lookup (Str.ofString n) = some a ∧ env.cells.lookup (Str.ofString n) = some a ∧ env.kindOf (Str.ofString n) = some .cell ∧ ((relabel scope env).names.lookup (Str.ofString n) = some .cell ∨ (relabel scope env).names.lookup (Str.ofString n) = some .free) := by
  obtain ⟨z, nd⟩ := c
  induction z with
  | nil => cases h
  | @cons x m xs ms r _ ih =>
    obtain ⟨x, a⟩ := x
    obtain ⟨e, h1, h2, h3⟩ := r
    simp only at e h1 h2 h3
    by_cases q : n = m
    · subst q
      subst e
      exact ⟨a, by simp, h1, h2, h3⟩
    · have hne : (Str.ofString n == x) = false := by
        rw [e]; simpa using fun z : Str.ofString n = Str.ofString m => q (ofString_inj z)
      rcases List.mem_cons.mp h with h | h
      · exact absurd h q
      · obtain ⟨a', e1, r⟩ := ih h (List.nodup_cons.mp nd).2
        exact ⟨a', by rw [List.lookup_cons, hne]; exact e1, r⟩
theorem CapOk.mem {scope : Scope} {cl : List (Str × Addr)} {capt : List String} (c : CapOk env scope cl capt) {x : Str × Addr} (h : x ∈ cl) : ∃ n ∈ capt, x.1 = Str.ofString n ∧ env.cells.lookup x.1 = some x.2 := by
  obtain ⟨z, nd⟩ := c
  clear nd
  induction z with
  | nil => cases h
  | @cons y m xs ms r _ ih =>
    rcases List.mem_cons.mp h with rfl | h
    · exact ⟨m, List.mem_cons_self, r.1, r.2.1⟩
    · obtain ⟨n, h1, h2⟩ := ih h
      exact ⟨n, List.mem_cons_of_mem _ h1, h2⟩
theorem CapOk.sub {scope : Scope} {cl : List (Str × Addr)} {capt : List String} (c : CapOk env scope cl capt) : ∀ a ∈ cl.map (·.2), a ∈ fp env := fun a m => by
  obtain ⟨x, hx, rfl⟩ := List.mem_map.mp m
  obtain ⟨n, _, _, e⟩ := c.mem hx
  exact .tail _ (List.mem_map.mpr ⟨_, mem_of_lookup e, rfl⟩)
theorem CapOk.pw {scope : Scope} {cl : List (Str × Addr)} {capt : List String} (c : CapOk env scope cl capt) (ap : env.cells.Pairwise fun x y => x.2 ≠ y.2) : cl.Pairwise fun x y => x.2 ≠ y.2 := by
  obtain ⟨z, nd⟩ := c
  induction z with
  | nil => exact .nil
  | @cons y m xs ms r z ih =>
    refine .cons (fun x hx => ?_) (ih (List.nodup_cons.mp nd).2)
    have c' : CapOk env scope xs ms := ⟨z, (List.nodup_cons.mp nd).2⟩
    obtain ⟨n, hn, e1, e2⟩ := c'.mem hx
    refine lookup_apart ap r.2.1 e2 ?_
    rw [r.1, e1]
    intro q
    exact (List.nodup_cons.mp nd).1 (ofString_inj q ▸ hn)

theorem pcomp_ref {capt : List String} {p : PM NX} {asg : PV → PM Unit} {test : PM Bool} {ep : PM PV} {N : Nat} {σ : PS} (v : PV) (τ : PS) (h : pcomp capt p asg test ep N σ = some (.ok v, τ)) : ∃ i, v = .ref i := by
  unfold pcomp PM.bind at h
  cases e : pnoexc p σ with
  | none => rw [e] at h; cases h
  | some r =>
    obtain ⟨r, σ₁⟩ := r
    rw [e] at h
    cases r with
    | exc => cases h
    | ok nx =>
      dsimp only at h
      split at h
      · split at h
        · cases h; exact ⟨_, rfl⟩
        · cases h
      · cases h
theorem pcomp_exc {capt : List String} {p : PM NX} {asg : PV → PM Unit} {test : PM Bool} {ep : PM PV} {N : Nat} {σ τ : PS} : pcomp capt p asg test ep N σ ≠ some (.exc, τ) := by
  intro h
  unfold pcomp PM.bind at h
  cases e : pnoexc p σ with
  | none => rw [e] at h; cases h
  | some r =>
    obtain ⟨r, σ₁⟩ := r
    rw [e] at h
    cases r with
    | exc =>
      unfold pnoexc at e
      split at e <;> cases e
    | ok nx =>
      dsimp only at h
      split at h
      · split at h <;> cases h
      · cases h
noncomputable def ownC (o : Option Str) (C : Addr) (cl : List (Str × Addr)) : List (Str × Addr) := match o with
  | none => cl
  | some xn => (xn, C + 1) :: cl
theorem ownC_mem {o : Option Str} {C : Addr} {cl : List (Str × Addr)} {x : Str × Addr} (h : x ∈ ownC o C cl) : (o ≠ none ∧ x.2 = C + 1) ∨ x ∈ cl := by
  cases o with
  | none => exact .inr h
  | some xn =>
    rcases List.mem_cons.mp h with rfl | h
    · exact .inl ⟨Option.some_ne_none _, rfl⟩
    · exact .inr h
theorem ownC_sub {o : Option Str} {C : Addr} {cl : List (Str × Addr)} {x : Str × Addr} (h : x ∈ cl) : x ∈ ownC o C cl := by
  cases o with
  | none => exact h
  | some xn => exact List.mem_cons_of_mem _ h
theorem ownC_lookup {o : Option Str} {C : Addr} {cl : List (Str × Addr)} {n : Str} (h : o ≠ some n) : (ownC o C cl).lookup n = cl.lookup n := by
  cases o with
  | none => rfl
  | some xn =>
    have : (n == xn) = false := by simpa using fun z : n = xn => h (z ▸ rfl)
    show List.lookup _ ((xn, C + 1) :: cl) = _
    rw [List.lookup_cons, this]
theorem ownC_pw {o : Option Str} {C : Addr} {cl : List (Str × Addr)} (h : cl.Pairwise fun x y => x.2 ≠ y.2) (n : C + 1 ∉ cl.map (·.2)) : (ownC o C cl).Pairwise fun x y => x.2 ≠ y.2 := by
  cases o with
  | none => exact h
  | some xn => exact .cons (fun x hx e => n (List.mem_map.mpr ⟨x, hx, e.symm⟩)) h
noncomputable def NewOk (M : Model) (scope : Scope) (env : Env) (cl : List (Str × Addr)) (o : Option Str) : Prop := ∀ (A : Around) (E : Value → Shared → Prop) (s : Shared) (Q : Env → Shared → Prop),
  (∀ h', h'.Ns s.heap.objs.size (fun _ => none) → (∀ b ob, s.heap.get? b = some ob → h'.get? b = some ob) → (o ≠ none → h'.IsCell (s.heap.objs.size + 1) none) → Q (newEnv scope s.heap.objs.size env.globals (ownC o s.heap.objs.size cl) env.qual none .none (some env) builtinsNs) { s with heap := h' }) →
  wpAny M A (newFunctionEnv scope env.globals cl [] env.qual none .none (some env)) Q E s
theorem comp_core {elt tg iter : Expr} {scope : Scope} {pos : Pos} {ifs : List Expr} {p : PM NX} {asg : PV → PM Unit} {test : PM Bool} {ep : PM PV} {cl : List (Str × Addr)} {capt : List String} {o : Option Str} (N : Nat)
    (hi : SI W d env iter tg p) (hasg : ∀ C, SAs W d (compEnvC scope (ownC o C cl) C env) tg asg) (ht : ∀ C, TestsOk W d (compEnvC scope (ownC o C cl) C env) ifs test) (he : ∀ C, SE W d (compEnvC scope (ownC o C cl) C env) elt ep)
    (hs : ∀ x, foldedSetIterable iter env x = pure x) (hclos : closureFor scope env = pure cl) (hnew : NewOk (model W.prog W.w) scope env cl o) (hkind : scope.kind = .function) (hnames : ∀ y ∈ scope.names, y.2 = .local → scope.names.lookup y.1 = some .local)
    (hc : CapOk env scope cl capt) (hxn : ∀ n ∈ capt, o ≠ some (Str.ofString n)) {use : Option (Value → Sem Unit)} {pos' : Pos} (G : GG) (A : Around) (s : Shared) (ρ : Rh) (σ : PS) (Q : Value → Shared → Prop) (E : Value → Shared → Prop) (ha : AOk W d A s ρ) (hr : Rel W env s.heap ρ σ) (hg : G.P s.heap ρ)
    (hp : POk (fun v τ => ∃ i, v = .ref i ∧ ∀ C D h' ρ' tk, (∀ h₅, Heap.SameBut C h' h₅ → Rel W env h₅ ρ' τ ∧ Ext W (fp env) s.heap ρ h₅ ρ') → (ρ'.t ≤ tk ∧ 0 < tk) → ρ'.a[i]? = some D → C ∉ fp env → C ∉ ρ'.a → W.h₀.get? C = none → (∃ m, h'.Ns C m) → s.heap.get? C = none → compPost (model W.prog W.w) A E use Q (.ref D) C (.ok .next) { s with heap := h', toks := tk }) (pcomp capt p asg test ep N σ)) :
    wpAny (model W.prog W.w) A (comprehension (.ListComp elt [⟨tg, iter, ifs, 0⟩] scope pos) scope env pos' (newList []) false (firstIter [⟨tg, iter, ifs, 0⟩] env) use) Q E s := by
  refine wpAny_comprehension_free rfl hs hclos hkind hnames (hi G A s ρ σ _ _ ha hr hg ?_)
  unfold pcomp PM.bind pnoexc at hp
  match hq : p σ, hp with
  | some (.ok nx, σ₁), hp =>
    intro own it Inv h₁ ρ₁ tk₁ r1 e1 l1 S ow iv
    dsimp only at hp
    have hfr : ∀ a o, s.heap.get? a = some o → ∃ o', h₁.get? a = some o' := e1.there
    refine wpAny_newObj_type (hnew _ _ _ _ fun h₃ hns hsb hcK => ?_)
    dsimp only at hns hsb hcK ⊢
    generalize hH2 : h₁.push { cls := .type "list", dict := none, data := .seq ([] : List Value).toArray } = H2 at hns hsb hcK ⊢
    have hC : H2.objs.size = h₁.objs.size + 1 := by rw [← hH2, Heap.size_push]
    have fresh : ∀ a, h₁.objs.size ≤ a → h₁.get? a = none := fun a ha => by
      cases e : h₁.get? a with
      | none => rfl
      | some o' => exact absurd (Heap.lt_size e) (Nat.not_lt.mpr ha)
    generalize hCn : H2.objs.size = C at hns hsb hcK hC ⊢
    generalize hDn : h₁.objs.size = D at hC fresh ⊢
    have hD1 : h₁.get? D = none := fresh _ (Nat.le_refl _)
    have hC1 : h₁.get? C = none := fresh _ (by rw [hC]; exact Nat.le_succ _)
    have hK1 : h₁.get? (C + 1) = none := fresh _ (by rw [hC]; exact Nat.le_succ_of_le (Nat.le_succ _))
    have hKC : C + 1 ≠ C := Nat.succ_ne_self C
    have hDK : D ≠ C + 1 := by rw [hC]; exact Nat.ne_of_lt (Nat.lt_succ_of_lt (Nat.lt_succ_self _))
    have hDC : D ≠ C := by rw [hC]; exact Nat.ne_of_lt (Nat.lt_succ_self _)
    have k3 : Keeps h₁ h₃ := fun b o e => hsb b o (by rw [← hH2]; exact Heap.get?_push_of_some _ e)
    have hD3 : h₃.get? D = some ⟨.type "list", none, .seq (List.toArray []) 0, #[]⟩ := hsb D _ (by rw [← hH2, ← hDn]; exact Heap.get?_push_size _ rfl)
    have r3 : Rel W env h₃ (ρ₁.add D) { σ₁ with H := σ₁.H ++ [.list []] } := r1.snoc k3 hD1 ⟨[], 0, hD3, .nil⟩
    have e3 : Ext W (fp env) s.heap ρ h₃ (ρ₁.add D) := e1.trans (Ext0.snoc k3 hD1).toExt
    have hs1 : ∀ a, h₁.get? a = none → s.heap.get? a = none := fun a z => by
      cases q : s.heap.get? a with
      | none => rfl
      | some o => obtain ⟨o', e'⟩ := hfr a o q; rw [z] at e'; cases e'
    have hb1 : ∀ a, h₁.get? a = none → W.h₀.get? a = none := fun a z => by
      cases q : W.h₀.get? a with
      | none => rfl
      | some o => have := r1.base a o q; rw [z] at this; cases this
    have hρ1 : ∀ a ∈ ρ₁.a, ∃ o, h₁.get? a = some o := fun a q => by obtain ⟨_, _, _, _, r⟩ := r1.cells.get q; exact r.there
    have hCρ : C ∉ (ρ₁.add D).a := fun q => by
      rcases List.mem_append.mp q with q | q
      · obtain ⟨o, e⟩ := hρ1 C q; rw [hC1] at e; cases e
      · exact hDC (List.mem_singleton.mp q).symm
    have hCf : C ∉ fp env := fun q => by obtain ⟨o, e⟩ := r1.fpIn q; rw [hC1] at e; cases e
    have hKf : C + 1 ∉ fp env := fun q => by obtain ⟨o, e⟩ := r1.fpIn q; rw [hK1] at e; cases e
    have hKρ : C + 1 ∉ (ρ₁.add D).a := fun q => by
      rcases List.mem_append.mp q with q | q
      · obtain ⟨o, e⟩ := hρ1 (C + 1) q; rw [hK1] at e; cases e
      · exact hDK (List.mem_singleton.mp q).symm
    have hclf := hc.sub
    have hfp' : ∀ {C}, fp (compEnvC scope (ownC o C cl) C env) = C :: (ownC o C cl).map (·.2) := fun {C} => rfl
    have hmem : ∀ a ∈ fp (compEnvC scope (ownC o C cl) C env), a = C ∨ a = C + 1 ∨ a ∈ cl.map (·.2) := fun a m => by
      rw [hfp'] at m
      rcases List.mem_cons.mp m with m | m
      · exact .inl m
      · obtain ⟨x, hx, rfl⟩ := List.mem_map.mp m
        rcases ownC_mem hx with ⟨_, e⟩ | hx
        · exact .inr (.inl e)
        · exact .inr (.inr (List.mem_map.mpr ⟨x, hx, rfl⟩))
    have hKcl : C + 1 ∉ cl.map (·.2) := fun q => hKf (hclf _ q)
    have r3' : Rel W (compEnvC scope (ownC o C cl) C env) h₃ (ρ₁.add D) (pinner capt { σ₁ with H := σ₁.H ++ [.list []] }) := by
      refine ⟨⟨hkind, r1.eok.glob, r1.eok.blt⟩, r3.cells, ⟨_, hns, fun n p e => ?_⟩, fun a m => ?_, fun x hx e => ?_, ownC_pw (hc.pw r1.apart) hKcl, fun x hx => ?_⟩
      · obtain ⟨hn, hl⟩ := pinner_lookup e
        obtain ⟨a, c1, c2, c3, c4⟩ := hc.at hn
        obtain ⟨m, _, hlk⟩ := r3.lk
        obtain ⟨v, rv, na⟩ := hlk n p hl
        refine ⟨v, rv, .inr ⟨c4, a, (ownC_lookup (hxn n hn)).trans c1, ?_⟩⟩
        rcases na with ⟨k, _⟩ | ⟨_, c, e1, e2⟩
        · rw [c3] at k; cases k
        · rw [c2] at e1; cases e1; exact e2
      · rcases hmem a m with rfl | rfl | m
        · exact ⟨hb1 _ hC1, hCρ⟩
        · exact ⟨hb1 _ hK1, hKρ⟩
        · exact r3.fpn a (hclf a m)
      · rcases ownC_mem hx with ⟨_, hx⟩ | hx
        · exact hKC (hx.symm.trans e)
        · exact hCf (by rw [← show x.2 = C from e]; exact hclf _ (List.mem_map.mpr ⟨x, hx, rfl⟩))
      · rcases ownC_mem hx with ⟨ho, hx⟩ | hx
        · exact ⟨none, by rw [hx]; exact hcK ho⟩
        · obtain ⟨n, _, _, e⟩ := hc.mem hx
          exact r3.isc _ (mem_of_lookup e)
    have hfr0 : ∀ a ∈ fp env, ∃ o, s.heap.get? a = some o := fun a m => hr.fpIn m
    have ow3 : Own W (compEnvC scope (ownC o C cl) C env) own s.heap h₃ (ρ₁.add D) := by
      refine ⟨ow.fresh, ow.n0, fun b m q => ?_, fun b m q => ?_, fun b m => ?_⟩
      · obtain ⟨o, vs, e, _⟩ := ow.fld b m
        rcases hmem _ q with rfl | rfl | q
        · rw [hC1] at e; cases e
        · rw [hK1] at e; cases e
        · exact ow.nfp b m (hclf b q)
      · rcases List.mem_append.mp q with q | q
        · exact ow.nρ b m q
        · obtain ⟨o, vs, e, _⟩ := ow.fld b m
          rw [List.mem_singleton.mp q, hD1] at e; cases e
      · obtain ⟨o, vs, e, dd⟩ := ow.fld b m
        exact ⟨o, vs, k3 _ _ e, dd⟩
    have iv3 : Inv 0 h₃ (ρ₁.add D) := S.keep iv (k3.stb pre_snoc) fun b _ o e => k3 _ _ e
    have ha3 : AOk W d A { s with heap := h₃, toks := tk₁ } (ρ₁.add D) := ha.ext r3 e3 l1
    let Out : Heap → Rh → Prop := fun h ρ' => (∃ m, h.Ns env.locals m ∧ ∀ n p, σ₁.loc.lookup n = some p → n ∉ capt → ∃ v, RepV h ρ' v p ∧ NameAt env h m (Str.ofString n) v) ∧ (∀ x ∈ env.cells, x.2 ∉ cl.map (·.2) → ∃ v, h.IsCell x.2 v) ∧ (∀ a ∈ fp env, a ∉ ρ'.a)
    have hcn : ∀ {n : String} {c : Addr}, n ∉ capt → env.cells.lookup (Str.ofString n) = some c → c ∉ cl.map (·.2) := fun {n c} hn e q => by
      obtain ⟨x, hx, rfl⟩ := List.mem_map.mp q
      obtain ⟨n', hn', e1, e2⟩ := hc.mem hx
      exact lookup_apart r1.apart e e2 (fun z => hn (by rw [ofString_inj (z.trans e1)]; exact hn')) rfl
    have hLcl : env.locals ∉ cl.map (·.2) := fun q => by
      obtain ⟨x, hx, e⟩ := List.mem_map.mp q
      obtain ⟨n', _, _, e2⟩ := hc.mem hx
      exact r1.fpd _ (mem_of_lookup e2) e
    have hcC : ∀ a ∈ fp env, a ≠ C := fun a m e => hCf (e ▸ m)
    have hcK' : ∀ a ∈ fp env, a ≠ C + 1 := fun a m e => hKf (e ▸ m)
    have out3 : Out h₃ (ρ₁.add D) := by
      obtain ⟨m, hn, hlk⟩ := r3.lk
      exact ⟨⟨m, hn, fun n p e _ => hlk n p e⟩, fun x hx _ => r3.isc x hx, fun a m => (r3.fpn a m).2⟩
    have outStep : ∀ {h h' : Heap} {ρ ρ' : Rh}, Stb h ρ h' ρ' → (∀ a ∈ fp env, a ∉ cl.map (·.2) → ∀ o, h.get? a = some o → ∃ sl, h'.get? a = some { o with slots := sl }) → (∀ a ∈ fp env, a ∉ ρ'.a) → Out h ρ → Out h' ρ' := by
      rintro h h' ρ ρ' st kp np ⟨⟨m, hn, hlk⟩, ic, _⟩
      refine ⟨⟨m, ns_slots hn (kp _ (.head _) hLcl), fun n p e hn' => ?_⟩, fun x hx hxc => ?_, np⟩
      · obtain ⟨v, rv, na⟩ := hlk n p e hn'
        refine ⟨v, rv.stb st, ?_⟩
        rcases na with na | ⟨na, c, e1, e2⟩
        · exact .inl na
        · exact .inr ⟨na, c, e1, cell_slots e2 (kp c (.tail _ (List.mem_map.mpr ⟨_, mem_of_lookup e1, rfl⟩)) (hcn hn' e1))⟩
      · obtain ⟨v, z⟩ := ic x hx hxc
        exact ⟨v, cell_slots z (kp x.2 (.tail _ (List.mem_map.mpr ⟨x, hx, rfl⟩)) hxc)⟩
    have eOr : ∀ {Y : PV → PS → Prop} (X : Option (Res Unit × PS)), POk Y (match X with
        | some (.ok (), σ') => (match pback capt σ'.loc σ₁.loc with
          | some loc => some (.ok (.ref σ₁.H.length), ⟨loc, σ'.H⟩)
          | none => none)
        | _ => none) → POk (fun _ σ' => ∃ loc, pback capt σ'.loc σ₁.loc = some loc ∧ Y (.ref σ₁.H.length) ⟨loc, σ'.H⟩) X := by
      intro Y X hX
      match X, hX with
      | none, hX => exact hX.elim
      | some (.exc, _), hX => exact hX.elim
      | some (.ok (), σ'), hX =>
        dsimp only at hX
        cases e : pback capt σ'.loc σ₁.loc with
        | none => rw [e] at hX; exact hX.elim
        | some loc => rw [e] at hX; exact ⟨loc, e, hX⟩
    have POk.imp : ∀ {X Y : Unit → PS → Prop} {r : Option (Res Unit × PS)}, (∀ a b, X a b → Y a b) → POk X r → POk Y r := by
      intro X Y r h z
      match r, z with
      | some (.ok b, σ), z => exact h _ _ z
    have hp := eOr _ hp
    have loop : codeAny (model W.prog W.w) A (.compLoop (.ListComp elt [⟨tg, iter, ifs, 0⟩] scope pos) 0 it (.ref D) (compEnvC scope (ownC o C cl) C env)) (compPost (model W.prog W.w) A E use Q (.ref D) C) { s with heap := h₃, toks := tk₁ } := by
      refine comp_run (env := compEnvC scope (ownC o C cl) C env) (X := C :: (C + 1) :: fp env) (Out := Out) (fun a m => ?_) S (hasg C) (ht C) (he C) (s₀ := s) (ρ₀ := ρ) (i := σ₁.H.length) (N := N) (j := 0) rfl ha3 r3' ow3 iv3 (e3.mono fun a q => .inl (.tail _ (.tail _ q))) ?_ out3 ?_ ?_ (POk.imp (fun _ σ' hb => ?_) hp)
      · rcases hmem a m with rfl | rfl | m
        · exact .head _
        · exact .tail _ (.head _)
        · exact .tail _ (.tail _ (hclf a m))
      · show (ρ₁.a ++ [D])[σ₁.H.length]? = some D
        rw [← r1.cells.len, List.getElem?_append_right (Nat.le_refl _)]; simp
      · intro h h' ρ' w bt ho
        refine outStep (w.stb bt) (fun a m hm o e => ⟨o.slots, bt a o (fun q => ?_) e⟩) ho.2.2 ho
        obtain ⟨o', e'⟩ := hfr0 a m
        rw [w.fresh a q] at e'; cases e'
      · intro h ρ' σ' h' ρ'' R ex ho
        refine outStep (R.stb ex) (fun a m hm o e => ex.keep a o e (ho.2.2 a m) (fun q => ?_)) (fun a m q => ?_) ho
        · rcases hmem a q with q | q | q
          · exact hcC a m q
          · exact hcK' a m q
          · exact hm q
        · rcases ex.new a q with q | q
          · exact ho.2.2 a m q
          · obtain ⟨⟨m', hn, _⟩, hcells, _⟩ := ho
            rcases List.mem_cons.mp m with rfl | m
            · obtain ⟨o, _, _, e, _⟩ := hn; rw [q] at e; cases e
            · obtain ⟨x, hx, rfl⟩ := List.mem_map.mp m
              by_cases hxc : x.2 ∈ cl.map (·.2)
              · obtain ⟨o, e⟩ := R.fpIn (by rw [hfp']; obtain ⟨y, hy, ey⟩ := List.mem_map.mp hxc; exact .tail _ (List.mem_map.mpr ⟨y, ownC_sub hy, ey⟩)); rw [q] at e; cases e
              · obtain ⟨v, o, e, _⟩ := hcells x hx hxc; rw [q] at e; cases e
      · obtain ⟨loc, hloc, hb⟩ := hb
        intro h₄ ρ₄ tk₄ r4 e4 l4 hi4 o4
        obtain ⟨mC, hnC, hlkC⟩ := r4.lk
        obtain ⟨i, hi', hb⟩ := hb
        cases hi'
        have hCρ4 : C ∉ ρ₄.a := (r4.fpn C (by rw [hfp']; exact .head _)).2
        have hC0 : W.h₀.get? C = none := hb1 C hC1
        refine hb C D h₄ ρ₄ tk₄ (fun h₅ hs5 => ?_) l4 hi4 hCf hCρ4 hC0 ⟨mC, hnC⟩ (hs1 C hC1)
        have st5 : Stb h₄ ρ₄ h₅ ρ₄ := r4.stbFp (a := C) (by rw [hfp']; exact .head _) hs5.2
        have kp5 : ∀ a, a ≠ C → ∀ o, h₄.get? a = some o → ∃ sl, h₅.get? a = some { o with slots := sl } := fun a n o e => ⟨o.slots, by rw [hs5.2 a n]; exact e⟩
        obtain ⟨⟨mo, hno, hlo⟩, hco, hfo⟩ := o4
        refine ⟨?_, ?_⟩
        · refine ⟨r1.eok, r4.cells.fpSet st5 hC0 hCρ4 hs5.2, ⟨mo, ns_slots hno (kp5 _ (hcC _ (.head _))), fun n p e => ?_⟩, fun a m => ⟨(r1.fpn a m).1, hfo a m⟩, r1.fpd, r1.apart, fun x hx => ?_⟩
          · obtain ⟨b1, b2⟩ := pback_lookup hloc n
            by_cases hn : n ∈ capt
            · rw [show loc.lookup n = σ'.loc.lookup n from b1 hn] at e
              obtain ⟨v, rv, na⟩ := hlkC n p e
              obtain ⟨a, c1, c2, c3, c4⟩ := hc.at hn
              refine ⟨v, rv.stb st5, .inr ⟨.inl c3, a, c2, ?_⟩⟩
              rcases na with ⟨k, _⟩ | ⟨_, c, e1, e2⟩
              · have k : (relabel scope env).names.lookup (Str.ofString n) = some .local := k
                rcases c4 with c4 | c4 <;> (rw [c4] at k; cases k)
              · have e1 : (ownC o C cl).lookup (Str.ofString n) = some c := e1
                rw [ownC_lookup (hxn n hn)] at e1
                rw [c1] at e1; cases e1
                exact cell_slots e2 (kp5 _ (hcC _ (.tail _ (List.mem_map.mpr ⟨_, mem_of_lookup c2, rfl⟩))))
            · rw [show loc.lookup n = σ₁.loc.lookup n from b2 hn] at e
              obtain ⟨v, rv, na⟩ := hlo n p e hn
              refine ⟨v, rv.stb st5, ?_⟩
              rcases na with na | ⟨na, c, e1, e2⟩
              · exact .inl na
              · exact .inr ⟨na, c, e1, cell_slots e2 (kp5 _ (hcC _ (.tail _ (List.mem_map.mpr ⟨_, mem_of_lookup e1, rfl⟩))))⟩
          · have hx5 := kp5 x.2 (hcC _ (.tail _ (List.mem_map.mpr ⟨x, hx, rfl⟩)))
            by_cases hxc : x.2 ∈ cl.map (·.2)
            · obtain ⟨y, hy, ey⟩ := List.mem_map.mp hxc
              obtain ⟨v, z⟩ := r4.isc y (ownC_sub hy)
              rw [ey] at z
              exact ⟨v, cell_slots z hx5⟩
            · obtain ⟨v, z⟩ := hco x hx hxc
              exact ⟨v, cell_slots z hx5⟩
        · have e5 : Ext W (C :: (C + 1) :: fp env) s.heap ρ h₅ ρ₄ := by
            refine ⟨e4.pre, e4.new, fun b o e => ?_, fun b o e n1 n2 => ?_, e4.t⟩
            · obtain ⟨o', e'⟩ := e4.there b o e
              exact ⟨o', by rw [hs5.2 b (fun q => by rw [q, hs1 C hC1] at e; cases e)]; exact e'⟩
            · obtain ⟨sl, e', f⟩ := e4.kept b o e n1 n2
              exact ⟨sl, by rw [hs5.2 b (fun q => n2 (q ▸ .head _))]; exact e', f⟩
          exact e5.mono fun a q => by
            rcases List.mem_cons.mp q with rfl | q
            · exact .inr (hs1 _ hC1)
            rcases List.mem_cons.mp q with rfl | q
            · exact .inr (hs1 _ hK1)
            · exact .inl q
    refine codeAny_compStart_list loop (S.self iv3 loop)
theorem s_compG {elt tg iter : Expr} {scope : Scope} {pos : Pos} {ifs : List Expr} {p : PM NX} {asg : PV → PM Unit} {test : PM Bool} {ep : PM PV} {cl : List (Str × Addr)} {capt : List String} {o : Option Str} (N : Nat)
    (hi : SI W d env iter tg p) (hasg : ∀ C, SAs W d (compEnvC scope (ownC o C cl) C env) tg asg) (ht : ∀ C, TestsOk W d (compEnvC scope (ownC o C cl) C env) ifs test) (he : ∀ C, SE W d (compEnvC scope (ownC o C cl) C env) elt ep)
    (hs : ∀ x, foldedSetIterable iter env x = pure x) (hclos : closureFor scope env = pure cl) (hnew : NewOk (model W.prog W.w) scope env cl o) (hkind : scope.kind = .function) (hnames : ∀ y ∈ scope.names, y.2 = .local → scope.names.lookup y.1 = some .local)
    (hc : CapOk env scope cl capt) (hxn : ∀ n ∈ capt, o ≠ some (Str.ofString n)) : SE W d env (.ListComp elt [⟨tg, iter, ifs, 0⟩] scope pos) (pcomp capt p asg test ep N) := by
  intro G A s ρ σ Q E ha hr hg hp
  rw [eval_ListComp]
  refine comp_core N hi hasg ht he hs hclos hnew hkind hnames hc hxn G A s ρ σ Q E ha hr hg ?_
  have href : ∀ v τ, pcomp capt p asg test ep N σ = some (.ok v, τ) → ∃ i, v = .ref i := pcomp_ref
  match hq : pcomp capt p asg test ep N σ, hp with
  | some (.exc, τ), hp => exact absurd hq pcomp_exc
  | some (.ok v, τ), hp =>
    obtain ⟨i, rfl⟩ := href v τ hq
    refine ⟨i, rfl, fun C D h' ρ' tk key l hi h1 h2 h3 hm hsC => ?_⟩
    obtain ⟨m, hm⟩ := hm
    exact ⟨m, hm, fun h₅ hs5 => hp (.ref D) h₅ ρ' tk (key h₅ hs5).1 (key h₅ hs5).2 l ⟨D, rfl, hi⟩⟩
theorem new_plain {M : Model} {scope : Scope} {cl : List (Str × Addr)} (hcell : ∀ y ∈ scope.names, y.2 ≠ .cell) (hkind : scope.kind = .function) : NewOk M scope env cl none := fun A E s Q h =>
  wpAny_newFunctionEnv hcell (fun y hy => nomatch hy) (fun h₃ hns hsb => h h₃ hns (fun b o e => hsb.extBut b o (Nat.ne_of_lt (Heap.lt_size e)) (Heap.get?_push_of_some _ e)) fun q => absurd rfl q) hkind
theorem s_comp {elt tg iter : Expr} {scope : Scope} {pos : Pos} {ifs : List Expr} {p : PM NX} {asg : PV → PM Unit} {test : PM Bool} {ep : PM PV} {cl : List (Str × Addr)} {capt : List String} (N : Nat)
    (hi : SI W d env iter tg p) (hasg : ∀ C, SAs W d (compEnvC scope cl C env) tg asg) (ht : ∀ C, TestsOk W d (compEnvC scope cl C env) ifs test) (he : ∀ C, SE W d (compEnvC scope cl C env) elt ep)
    (hs : ∀ x, foldedSetIterable iter env x = pure x) (hclos : closureFor scope env = pure cl) (hcell : ∀ y ∈ scope.names, y.2 ≠ .cell) (hkind : scope.kind = .function) (hnames : ∀ y ∈ scope.names, y.2 = .local → scope.names.lookup y.1 = some .local)
    (hc : CapOk env scope cl capt) : SE W d env (.ListComp elt [⟨tg, iter, ifs, 0⟩] scope pos) (pcomp capt p asg test ep N) :=
  s_compG (o := none) N hi hasg ht he hs hclos (new_plain hcell hkind) hkind hnames hc fun _ _ => nofun
theorem s_comp0 {elt tg iter : Expr} {scope : Scope} {pos : Pos} {ifs : List Expr} {p : PM NX} {asg : PV → PM Unit} {test : PM Bool} {ep : PM PV} {cl : List (Str × Addr)} {capt : List String} (N : Nat)
    (hclos : closureFor scope env = pure cl) (hi : SI W d env iter tg p) (hasg0 : SAs W d (compEnvC scope cl 0 env) tg asg) (ht0 : TestsOk W d (compEnvC scope cl 0 env) ifs test) (he0 : SE W d (compEnvC scope cl 0 env) elt ep)
    (hasg : ∀ C, SAs W d (compEnvC scope cl C env) tg asg) (ht : ∀ C, TestsOk W d (compEnvC scope cl C env) ifs test) (he : ∀ C, SE W d (compEnvC scope cl C env) elt ep)
    (hs : ∀ x, foldedSetIterable iter env x = pure x) (hcell : ∀ y ∈ scope.names, y.2 ≠ .cell) (hkind : scope.kind = .function) (hnames : ∀ y ∈ scope.names, y.2 = .local → scope.names.lookup y.1 = some .local)
    (hc : CapOk env scope cl capt) : SE W d env (.ListComp elt [⟨tg, iter, ifs, 0⟩] scope pos) (pcomp capt p asg test ep N) := s_comp N hi hasg ht he hs hclos hcell hkind hnames hc
theorem Rel.letgo {h h' : Heap} {ρ : Rh} {σ : PS} {C : Addr} {m : Str → Option Value} (R : Rel W env h ρ σ) (hn : h.Ns C m) (sb : ∀ b, b ≠ C → h'.get? b = h.get? b) (h1 : C ∉ fp env) (h2 : C ∉ ρ.a) (h0 : W.h₀.get? C = none) : Rel W env h' ρ σ := by
  obtain ⟨oC, es, ep, hC, dC, _⟩ := hn
  have st : Stb h ρ h' ρ := by
    refine ⟨fun _ _ e => e, fun a its t => ?_, Nat.le_refl _⟩
    refine IsTup.slots t fun o e => ⟨o.slots, ?_⟩
    rw [sb a fun q => ?_]
    · exact e
    · subst q
      obtain ⟨o', e', c, k, d'⟩ := t
      rw [hC] at e'; cases e'; rw [dC] at d'; cases d'
  have kp : ∀ a ∈ fp env, ∀ o, h.get? a = some o → ∃ sl, h'.get? a = some { o with slots := sl } := fun a ma o e => ⟨o.slots, by rw [sb a fun q => h1 (q ▸ ma)]; exact e⟩
  obtain ⟨m', hn', hl⟩ := R.lk
  refine ⟨R.eok, R.cells.fpSet st h0 h2 sb, ⟨m', ns_slots hn' (kp _ (.head _)), fun n p e => ?_⟩, R.fpn, R.fpd, R.apart, fun x hx => ?_⟩
  · obtain ⟨v, rv, na⟩ := hl n p e
    refine ⟨v, rv.stb st, ?_⟩
    rcases na with na | ⟨na, c, e1, e2⟩
    · exact .inl na
    · exact .inr ⟨na, c, e1, cell_slots e2 (kp c (.tail _ (List.mem_map.mpr ⟨_, mem_of_lookup e1, rfl⟩)))⟩
  · obtain ⟨v, z⟩ := R.isc x hx
    exact ⟨v, cell_slots z (kp x.2 (.tail _ (List.mem_map.mpr ⟨x, hx, rfl⟩)))⟩
theorem st_compS {elt tg iter : Expr} {scope : Scope} {pos npos spos : Pos} {n : String} {ifs : List Expr} {p : PM NX} {asg : PV → PM Unit} {test : PM Bool} {ep : PM PV} {cl : List (Str × Addr)} {capt : List String} (N : Nat) (hsw : swapsWith (.ListComp elt [⟨tg, iter, ifs, 0⟩] scope pos) (some (.Name (Str.ofString n) npos)) spos.line env = pure true)
    (hclos : closureFor scope env = pure cl) (hi : SI W d env iter tg p) (hasg0 : SAs W d (compEnvC scope cl 0 env) tg asg) (ht0 : TestsOk W d (compEnvC scope cl 0 env) ifs test) (he0 : SE W d (compEnvC scope cl 0 env) elt ep)
    (hasg : ∀ C, SAs W d (compEnvC scope cl C env) tg asg) (ht : ∀ C, TestsOk W d (compEnvC scope cl C env) ifs test) (he : ∀ C, SE W d (compEnvC scope cl C env) elt ep)
    (hs : ∀ x, foldedSetIterable iter env x = pure x) (hcell : ∀ y ∈ scope.names, y.2 ≠ .cell) (hkind : scope.kind = .function) (hnames : ∀ y ∈ scope.names, y.2 = .local → scope.names.lookup y.1 = some .local)
    (hc : CapOk env scope cl capt) (hst : Stores env n) : SSt W d env (.Assign [.Name (Str.ofString n) npos] (.ListComp elt [⟨tg, iter, ifs, 0⟩] scope pos) spos) (PM.bind (pcomp capt p asg test ep N) fun v => PM.bind (pput n v) fun _ => PM.pure .next) := by
  intro G A s ρ σ Q E ha hr hg hp
  rw [exec_Assign_Name_used _ _ _ _ hsw]
  refine wpAny_bind (wpAny_standAt ?_)
  have e1 : evalThenUse (.ListComp elt [⟨tg, iter, ifs, 0⟩] scope pos) env (assign (.Name (Str.ofString n) npos) env) = (comprehension (.ListComp elt [⟨tg, iter, ifs, 0⟩] scope pos) scope env (firstIterPos [⟨tg, iter, ifs, 0⟩] pos) (newList []) false (firstIter [⟨tg, iter, ifs, 0⟩] env) (some (assign (.Name (Str.ofString n) npos) env)) >>= fun _ => pure ()) := rfl
  rw [e1]
  refine wpAny_bind (wpAny_bind (comp_core (o := none) N hi hasg ht he hs hclos (new_plain hcell hkind) hkind hnames hc (fun _ _ => nofun) G A s ρ σ _ _ ha hr hg ?_))
  unfold PM.bind at hp
  match hq : pcomp capt p asg test ep N σ, hp with
  | some (.exc, τ), hp => exact absurd hq pcomp_exc
  | some (.ok v, τ), hp =>
    obtain ⟨i, rfl⟩ := pcomp_ref v τ hq
    refine ⟨i, rfl, fun C D h' ρ' tk key l hi' h1 h2 h3 hm hsC => ?_⟩
    obtain ⟨m, hm⟩ := hm
    obtain ⟨R4, X4⟩ := key h' (Heap.SameBut.refl _ _)
    show wpAny _ A (assign (.Name (Str.ofString n) npos) env (.ref D)) _ E _
    rw [PySem.assign_Name]
    refine wpAny_bind (wpAny_standAt (wpAny_with_toks (n := tk) (Nat.le_refl _) (wpAny_bindName (wp_store (s := { s with heap := h', toks := tk }) hst R4 (p := .ref i) ⟨D, rfl, hi'⟩ fun h₅ tk₅ R5 X5 htk => ?_))))
    obtain ⟨oC, es, ep', hC, dC, sk⟩ := id hm
    have hm5 : h₅.Ns C m := ns_slots hm fun o e => X5.keep C o e h2 h1
    refine ⟨m, hm5, fun h₆ hs6 => wpAny_pure (wpAny_pure ?_)⟩
    have R6 := R5.letgo hm5 hs6.2 h1 h2 h3
    refine hp .next h₆ ρ' tk₅ R6 ?_ ⟨Nat.le_trans l.1 htk, Nat.lt_of_lt_of_le l.2 htk⟩ trivial
    have X5' := X4.trans X5.toExt
    refine ⟨X5'.pre, X5'.new, fun b o e => ?_, fun b o e n1 n2 => ?_, X5'.t⟩
    · obtain ⟨o', e'⟩ := X5'.there b o e
      exact ⟨o', by rw [hs6.2 b fun q => by rw [q, hsC] at e; cases e]; exact e'⟩
    · obtain ⟨sl, e', f⟩ := X5'.kept b o e n1 n2
      exact ⟨sl, by rw [hs6.2 b fun q => by rw [q, hsC] at e; cases e]; exact e', f⟩
end
end

section
open PySem PySem.W PyProof.Rows PySem.Spec PySem.SeqAt
set_option autoImplicit false
set_option linter.unusedVariables false
set_option maxRecDepth 100000
set_option tactic.hygienic false
structure ClsOk (W : Wd) : Prop where
  makes : makesIn W.K W.C = true
  setattr : findIn W.K (.ref W.C) "__setattr__" = some (some (.builtin "object.__setattr__"))
  over : plainOver W.K W.C = true
  noseq : noSeq W.K W.C = true
  keep : keepIn W.K (.ref W.C) = true
noncomputable def pinst {α : Type} (i : Nat) (f : Nat → List (String × PV) → PM α) : PM α := fun σ => match σ.H[i]? with
  | some (.inst k) => (match σ.H[k]? with
    | some (.dct fs) => f k fs σ
    | _ => none)
  | _ => none
theorem lookIn_ns {h : Heap} {a : Addr} {m : Str → Option Value} {o : Obj} (hn : h.Ns a m) (e : h.get? a = some o) (name : Str) : lookIn name o = some (m name) := by
  obtain ⟨o', es, ep, e', d, sk, f⟩ := hn
  rw [e] at e'; cases e'
  unfold lookIn
  rw [d, ← f]
  dsimp only
  unfold nsFind findBy
  rw [← Array.find?_toList]
  cases hz : es.toList.find? (·.key.isStr name) with
  | some en => rfl
  | none =>
    have : es.toList.any (·.refKey) = false := by
      rw [List.any_eq_false]
      intro x hx
      obtain ⟨n, t, h⟩ := sk x (Array.mem_toList_iff.mp hx)
      simp [DictEntry.refKey, h]
    rw [this]; rfl
section
variable {W : Wd} {d : Nat} {env : Env} {G : GG}
set_option tactic.hygienic true in
theorem pinst_inv {α β : Type} {R : RR α β} {s : Shared} {ρ : Rh} {σ : PS} {Q : α → Shared → Prop} {E : Value → Shared → Prop} {i : Nat} {f : Nat → List (String × PV) → PM β} (hp : Post0 W env R s ρ Q E (pinst i f σ)) : ∃ k fs, σ.H[i]? = some (.inst k) ∧ σ.H[k]? = some (.dct fs) ∧ Post0 W env R s ρ Q E (f k fs σ) := by
  unfold pinst at hp
  split at hp
  · rename_i k e
    split at hp
    · rename_i fs e2; exact ⟨k, fs, e, e2, hp⟩
    · exact hp.elim
  · exact hp.elim
set_option tactic.hygienic true in
theorem pinst_invP {α β : Type} {R : RR α β} {s : Shared} {ρ : Rh} {σ : PS} {Q : α → Shared → Prop} {E : Value → Shared → Prop} {i : Nat} {f : Nat → List (String × PV) → PM β} (hp : Post W env R s ρ Q E (pinst i f σ)) : ∃ k fs, σ.H[i]? = some (.inst k) ∧ σ.H[k]? = some (.dct fs) ∧ Post W env R s ρ Q E (f k fs σ) := by
  unfold pinst at hp
  split at hp
  · rename_i k e
    split at hp
    · rename_i fs e2; exact ⟨k, fs, e, e2, hp⟩
    · exact hp.elim
  · exact hp.elim
structure InstOf (W : Wd) (h : Heap) (ρ : Rh) (i k : Nat) (fs : List (String × PV)) (v : Value) (x dd : Addr) (es : Array DictEntry) (n : Nat) (m : Str → Option Value) : Prop where
  ref : v = .ref x
  ax : ρ.a[i]? = some x
  ad : ρ.a[k]? = some dd
  od : h.get? dd = some ⟨.type "dict", none, .dict es n, #[]⟩
  ns : h.Ns dd m
  get : ∀ y : String, (∀ p, fs.lookup y = some p → ∃ v, m (Str.ofString y) = some v ∧ RepV h ρ v p) ∧ (fs.lookup y = none → m (Str.ofString y) = none)
  sz : DctOk W dd es n fs
  at_ : InstAt h x ⟨.ref W.C, some dd, .plain, #[]⟩ W.C (some ⟨.type "dict", none, .dict es n, #[]⟩)
theorem inst_of {h : Heap} {ρ : Rh} {H : List PO} {v : Value} {i k : Nat} {fs : List (String × PV)} (c : Cells W h ρ H) (r : RepV h ρ v (.ref i)) (e : H[i]? = some (.inst k)) (e2 : H[k]? = some (.dct fs)) : ∃ x dd es n m, InstOf W h ρ i k fs v x dd es n m := by
  obtain ⟨x, rfl, ex, dd, ed, ox⟩ := ref_inv c r e
  obtain ⟨es, n, m, od, hn, g, sz⟩ := c.cell k dd _ ed e2
  exact ⟨x, dd, es, n, m, rfl, ex, ed, od, hn, g, sz, ox, rfl, rfl, od⟩
theorem Rel.X {h : Heap} {ρ : Rh} {σ : PS} (R : Rel W env h ρ σ) : W.K.In h := W.X.keeps R.base

noncomputable def pfield (n : String) (a : PV) : PM PV := match a with
  | .ref i => pinst i fun _ fs => match fs.lookup n with
    | some (.ref j) => PM.pure (.ref j)
    | _ => pfail
  | _ => pfail
set_option tactic.hygienic true in
theorem s_field {x : Str} {n : String} {xp pos : Pos} {p : PM PV} (ho : SE W d env (.Name x xp) p) (hf : findIn W.K (.ref W.C) (Str.ofString n) = some none) : SE W d env (.Attribute (.Name x xp) (Str.ofString n) pos) (PM.bind p (pfield n)) := by
  intro G
  rw [arm_eval_Attribute]
  have e1 : attributeBase (.Name x xp) (Str.ofString n) env (eval (.Name x xp) env) = eval (.Name x xp) env := rfl
  rw [e1]
  refine Sim.bind (ho G) fun a pa => Sim.stand ?_
  refine Sim.of0 ?_
  intro A s ρ σ Q E ha hr hg hp
  have ra : RepV s.heap ρ a pa := hg.2
  unfold pfield at hp
  split at hp
  · rename_i i
    obtain ⟨k, fs, h1, h2, hp⟩ := pinst_inv hp
    obtain ⟨y, dd, es, nn, m, I⟩ := inst_of hr.cells ra h1 h2
    cases hl : fs.lookup n with
    | none => rw [hl] at hp; exact hp.elim
    | some q =>
      rw [hl] at hp
      cases q with
      | ref j =>
        obtain ⟨v, e, rv⟩ := (I.get n).1 _ hl
        have hv : handedIn v = true := by obtain ⟨z, rfl, _⟩ := rv; rfl
        rw [I.ref]
        have hlk : lookIn (Str.ofString n) ⟨.type "dict", none, .dict es nn, #[]⟩ = some (some v) := by rw [lookIn_ns I.ns I.od, e]
        have hfo : findObj W.K W.C (some ⟨.type "dict", none, .dict es nn, #[]⟩) (Str.ofString n) = some (.value v) := findObj_own (by unfold hasDictIn; rw [W.hcd]; exact W.hasDict) hf rfl hlk
        refine wpAny_bind (wpAny_holding (get_value hr.X I.at_ W.hga hfo hv ?_))
        have e2 : letTemporaryGo (.Name x xp) (.ref y) v = pure () := rfl
        rw [e2]
        exact wpAny_bind (wpAny_pure (wpAny_pure (post_val hr hp rv _)))
      | _ => exact hp.elim
  · exact hp.elim

theorem wpAny_nsSetD {M : Model} {A : Around} {E : Value → Shared → Prop} {s : Shared} {a : Addr} {m : Str → Option Value} {name : Str} {v : Value} {es : Array DictEntry} {n : Nat} {Q : Unit → Shared → Prop} (hn : s.heap.Ns a m) (ho : s.heap.get? a = some ⟨.type "dict", none, .dict es n, #[]⟩)
    (h : ∀ h' es' n', h'.Ns a (fun x => if x = name then some v else m x) → h'.get? a = some ⟨.type "dict", none, .dict es' n', #[]⟩ → Heap.SameBut a s.heap h' → (m name = none → es'.size = es.size + 1 ∧ n' = n + 1) → (m name ≠ none → es'.size = es.size ∧ n' = n) → ((∀ e ∈ es, ∃ x t, e.key = .str x t ∧ e.hash = hashStr M.w x) → ∀ e ∈ es', ∃ x t, e.key = .str x t ∧ e.hash = hashStr M.w x) → Q () { s with heap := h', toks := s.toks + 1 }) : wpAny M A (nsSet a name v) Q E s := by
  intro Γ p _
  obtain ⟨o, es₀, ep, ho', hd, hk, hm⟩ := hn
  rw [ho] at ho'; cases ho'; cases hd
  simp only [nsSet, strHash, Sem.wp_bind', Sem.wp_cmd_ask, Sem.wp_pure', Sem.wp_cmd_mkText]
  rw [Sem.wp_loadPart_of M Γ _ p { s with toks := s.toks + 1 } _ ho]
  have hany : es.any (·.refKey) = false := by
    rw [Array.any_eq_false']; intro e he; obtain ⟨n, t, h⟩ := hk e he; simp [DictEntry.refKey, h]
  simp only [aRefKeyMayBeTheName_eq, aRefKeyMayBeTheNameByArray, hany, Bool.and_false, Bool.false_eq_true, if_false, Sem.wp_cmd_updatePart]
  refine ⟨by rw [ho]; rfl, ?_⟩
  have hmn : m name = (es.find? (·.key.isStr name)).map (·.val) := (hm name).symm
  cases hi : es.findIdx? (·.key.isStr name) with
  | some i =>
    refine h _ (es.modify i fun e => { e with val := v }) n ⟨_, _, n, Heap.get?_update_self _ ho (by simp only [Obj.putName_eq, Obj.putNameByArray, hi]; rfl), by simp only [Obj.putName_eq, Obj.putNameByArray, hi]; rfl, hk.modify _ _, fun x => ?_⟩ ?_ (Heap.SameBut.update ..) (fun e => ?_) (fun _ => ⟨by simp, rfl⟩) fun hh e he => ?_
    · show _ = if x = name then some v else m x
      rw [← hm]; exact findBy_modify (fun n v => v.isStr n) Value.isStr_inj es name x v i hi
    · rw [Heap.get?_update_self _ ho (by simp only [Obj.putName_eq, Obj.putNameByArray, hi]; rfl)]
      simp only [Obj.putName_eq, Obj.putNameByArray, hi]
    · rw [hmn, Option.map_eq_none_iff] at e
      have h1 := Array.findIdx?_eq_some_iff_getElem.mp hi
      obtain ⟨hlt, h2, _⟩ := h1
      rw [Array.find?_eq_none] at e
      exact absurd h2 (by simpa using e es[i] (Array.getElem_mem hlt))
    · obtain ⟨j, hj, rfl⟩ := Array.mem_iff_getElem.mp he
      rw [Array.size_modify] at hj
      rw [Array.getElem_modify]
      obtain ⟨x, t, h1, h2⟩ := hh es[j] (Array.getElem_mem hj)
      split <;> exact ⟨x, t, h1, h2⟩
  | none =>
    refine h _ (es.push ⟨if name.cps.isEmpty = true then 0 else reduceHash (M.w.params.strHash name.cps), .str name s.toks, v⟩) (n + 1) ⟨_, _, n + 1, Heap.get?_update_self _ ho (by simp only [Obj.putName_eq, Obj.putNameByArray, hi]; rfl), by simp only [Obj.putName_eq, Obj.putNameByArray, hi]; rfl, hk.push _ _ _ _, fun x => ?_⟩ ?_ (Heap.SameBut.update ..) (fun e => ?_) (fun e => ?_) fun hh e he => ?_
    · show _ = if x = name then some v else m x
      rw [← hm]
      exact findBy_push (fun n v => v.isStr n) es name x _ _ v (fun y => by
        show (name == y) = decide (y = name)
        by_cases h : y = name
        · subst h; simp
        · have : ¬ name = y := fun e => h e.symm
          simp [h, this]) hi
    · rw [Heap.get?_update_self _ ho (by simp only [Obj.putName_eq, Obj.putNameByArray, hi]; rfl)]
      simp only [Obj.putName_eq, Obj.putNameByArray, hi]
    · exact ⟨by simp, rfl⟩
    · exact absurd (by rw [hmn]; simp only [Option.map_eq_none_iff, Array.find?_eq_none]; intro e he; simpa using (Array.findIdx?_eq_none_iff.mp hi) e he) e
    · rcases Array.mem_push.mp he with he | rfl
      · exact hh e he
      · exact ⟨name, s.toks, rfl, rfl⟩
theorem lset_same (n : String) (v : PV) : ∀ (l : List (String × PV)), l.lookup n ≠ none → (lset n v l).length = l.length
  | [], h => absurd rfl h
  | (m, w) :: r, h => by
    unfold lset
    by_cases hm : m = n
    · rw [if_pos hm]; rfl
    · rw [if_neg hm]
      rw [List.lookup_cons] at h
      have : (n == m) = false := by simpa using fun e : n = m => hm e.symm
      rw [this] at h
      simp [lset_same n v r h]
theorem lset_length (n : String) (v : PV) : ∀ (l : List (String × PV)), (l.lookup n = none → (lset n v l).length = l.length + 1) ∧ l.length ≤ (lset n v l).length
  | [] => ⟨fun _ => rfl, Nat.zero_le _⟩
  | (m, w) :: r => by
    obtain ⟨h1, h2⟩ := lset_length n v r
    unfold lset
    by_cases hm : m = n
    · subst hm
      rw [if_pos rfl]
      exact ⟨fun h => by simp at h, Nat.le_refl _⟩
    · rw [if_neg hm]
      refine ⟨fun h => ?_, by simpa using h2⟩
      rw [List.lookup_cons] at h
      have : (n == m) = false := by simpa using fun e : n = m => hm e.symm
      rw [this] at h
      simp [h1 h]
noncomputable def pstoreF (n : String) (a v : PV) : PM Unit := match a with
  | .ref i => pinst i fun k fs => pguard (fs.length ≤ 100) (fun σ => some (.ok (), { σ with H := σ.H.set k (.dct (lset n v fs)) }))
  | _ => pfail
set_option tactic.hygienic true in
theorem a_field {x : Str} {n : String} {xp pos : Pos} {p : PM PV} (hC : ClsOk W) (ho : SE W d env (.Name x xp) p) (hf : takerIn W.K W.C (Str.ofString n) = some none) : SAs W d env (.Attribute (.Name x xp) (Str.ofString n) pos) (fun v => PM.bind p fun a => pstoreF n a v) := by
  intro G v pv gv
  rw [arm_assign_Attribute]
  refine Sim.bind (Sim.holding (ho G)) fun a pa => Sim.stand ?_
  refine Sim.of0 ?_
  intro A s ρ σ Q E ha hr hg hp
  have ra : RepV s.heap ρ a pa := hg.2
  have rv := gv _ _ hg.1
  unfold pstoreF at hp
  split at hp
  · rename_i i
    obtain ⟨k, fs, h1, h2, hp⟩ := pinst_inv hp
    obtain ⟨hsz, hp⟩ := pguard_inv hp
    obtain ⟨y, dd, es, nn, m, I⟩ := inst_of hr.cells ra h1 h2
    rw [I.ref]
    refine wpAny_bind (wpAny_holding (set_plain hr.X I.at_ hC.setattr (osa_open hr.X I.at_ hC.over hf fun b => ?_)))
    obtain ⟨hx, hcl, hn, -⟩ := I.at_
    refine wpAny_bind (wpAny_pure (wpAny_bind (wpAny_bind (wpAny_loadPart hx (wpAny_bind (looks_clsIn hr.X W.hcd _ _ _ _ (fun _ _ e => e) ?_))))))
    rw [W.hasDict]
    refine wpAny_pure (a := some dd) (wpAny_bind (wpAny_pure (wpAny_bind ?_)))
    refine wpAny_nsSetD (s := { s with toks := s.toks + 1 }) I.ns I.od fun h' es' n' hns' hod' sb z1 z2 z3 => ?_
    have hz := I.sz
    have hok : DctOk W dd es' n' (lset n pv fs) := by
      cases hm : m (Str.ofString n) with
      | none =>
        have hl : fs.lookup n = none := by
          cases e : fs.lookup n with
          | none => rfl
          | some q => obtain ⟨w, e', _⟩ := (I.get n).1 q e; rw [hm] at e'; cases e'
        have l1 := (lset_length n pv fs).1 hl
        obtain ⟨y1, y2⟩ := z1 hm
        exact ⟨by rw [y2, l1, hz.n], by rw [y1, l1, hz.sz], hz.na, z3 hz.hash⟩
      | some w =>
        have hl : fs.lookup n ≠ none := fun e => by rw [(I.get n).2 e] at hm; cases hm
        have l1 := lset_same n pv fs hl
        obtain ⟨y1, y2⟩ := z2 (by rw [hm]; simp)
        exact ⟨by rw [y2, l1, hz.n], by rw [y1, l1, hz.sz], hz.na, z3 hz.hash⟩
    have hle2 : es'.size ≤ 101 := by
      have h1 := hok.sz
      have h2 : (lset n pv fs).length ≤ fs.length + 1 := by
        cases e : fs.lookup n with
        | none => rw [(lset_length n pv fs).1 e]; exact Nat.le_refl _
        | some q => rw [lset_same n pv fs (by rw [e]; simp)]; lia
      lia
    refine wpAny_bind (wpAny_lookBehind hod' (pastItsLine_dict (by rw [sizeLine_eq]; lia)) ?_)
    refine wpAny_pure ?_
    refine wp_release ?_
    have st := hr.cells.stbSet (get_mem I.ad) sb.2
    have ro : RepO W h' ρ dd (.dct (lset n pv fs)) := by
      refine ⟨es', n', _, hod', hns', fun z => ⟨fun q e => ?_, fun e => ?_⟩, hok⟩
      · rw [lset_lookup] at e
        by_cases hz : z = n
        · subst hz
          rw [if_pos rfl] at e; cases e
          exact ⟨v, by simp, rv.stb st⟩
        · rw [if_neg hz] at e
          obtain ⟨w, e1, e2⟩ := (I.get z).1 q e
          have hne : Str.ofString z ≠ Str.ofString n := fun q => hz (ofString_inj q)
          exact ⟨w, by simp [hne, e1], e2.stb st⟩
      · rw [lset_lookup] at e
        by_cases hz : z = n
        · rw [if_pos hz] at e; cases e
        · rw [if_neg hz] at e
          have hne : Str.ofString z ≠ Str.ofString n := fun q => hz (ofString_inj q)
          simp [hne, (I.get z).2 e]
    exact hp () h' ρ _ (hr.set I.ad sb.2 ro) (Ext0.set (get_mem I.ad) sb.2 ro) trivial
  · exact hp.elim
end
end

section
open PySem PySem.W PyProof.Rows PySem.Spec PySem.SeqAt
set_option autoImplicit false
set_option linter.unusedVariables false
set_option maxRecDepth 100000
set_option tactic.hygienic false
noncomputable def clsSpec (spec : FSpec) : FSpec := fun args kw H => match spec (.ref (H.length + 1) :: args) kw (H ++ [.dct []] ++ [.inst H.length]) with
  | some (.ok .none, H') => some (.ok (.ref (H.length + 1)), H')
  | some (.exc, H') => some (.exc, H')
  | _ => none
section
variable {W : Wd} {d : Nat} {env : Env} {G : GG}
theorem not_sys {h : Heap} {ρ : Rh} {H : List PO} (hc : Cells W h ρ H) : h.objs.size ≠ sysModules := by
  obtain ⟨o, es, ep, ho, _⟩ := W.g
  have := Heap.lt_size (hc.base _ _ ho)
  intro e
  rw [e] at this
  exact absurd this (by decide)
theorem AOk.under {A : Around} {s : Shared} {ρ ρ' : Rh} {c : Code} {h' : Heap} (ha : AOk W (d + 1) A s ρ) (hw : c.weight ≤ 1) (hu : c.cUnits ≤ 3) (he : c.envs = []) (k : Keeps s.heap h') (ht : ρ'.t = ρ.t) (hn : ∀ a ∈ ρ'.a, a ∈ ρ.a ∨ s.heap.get? a = none) : AOk W d (A.under c) { s with heap := h' } ρ' := by
  obtain ⟨l, h1, h2⟩ := ha.fr
  refine ⟨?_, ?_, ha.handled, ⟨l, ?_, ?_⟩, by rw [ht]; exact ha.tok, ha.pos⟩
  · have := ha.depth; show A.depth + c.weight + 2 * d + 2 < recursionLimit; lia
  · have := ha.units; show A.units + c.cUnits + 100 * d + 100 < cLine; lia
  · show pushEnvs c.envs A.frames = some l
    rw [he]; exact h1
  · exact h2.more (h2.ff.of_keeps fun b o e _ => ⟨o, k b o e, rfl⟩) hn
theorem c_class {spec : FSpec} {fI : Addr} (hC : ClsOk W) (hi : findIn W.K (.ref W.C) "__init__" = some (some (.ref fI))) (hf : typeIn W.K (.ref fI) = some (.type "function")) (F : CHolds W d (.ref fI) spec) : CHolds W (d + 1) (.ref W.C) (clsSpec spec) := by
  intro A s ρ H args kw pargs pkw R ha hc hra hrk hp
  have X : W.K.In s.heap := W.X.keeps hc.base
  obtain ⟨h, g, dr, t, os⟩ := s
  dsimp only at X hc hra hrk
  refine make_core (makes_of X hC.makes) (looks_findIn X hi) (fun self => bind_fn X self hf) (.inl rfl) ?_
  have k1 : Keeps h (h.push emptyDict) := Keeps.push _
  have n1 : h.get? h.objs.size = none := fresh_none
  have hsz : (h.push emptyDict).objs.size = h.objs.size + 1 := Heap.size_push ..
  have k2 : Keeps (h.push emptyDict) ((h.push emptyDict).push (instObj W.C h.objs.size)) := Keeps.push _
  have n2 : (h.push emptyDict).get? (h.objs.size + 1) = none := by rw [← hsz]; exact fresh_none
  have o1 : (h.push emptyDict).get? h.objs.size = some emptyDict := Heap.get?_push_size _ rfl
  have c1 : Cells W (h.push emptyDict) (ρ.add h.objs.size) (H ++ [.dct []]) := hc.snoc k1 n1 ⟨#[], 0, fun _ => none, o1, Heap.Ns.new h (.type "dict"), fun x => ⟨fun p e => (by cases e), fun _ => rfl⟩, ⟨rfl, rfl, not_sys hc, fun e he => by simp at he⟩⟩
  have hlen : (ρ.add h.objs.size).a[H.length]? = some h.objs.size := by
    show (ρ.a ++ [h.objs.size])[H.length]? = _
    rw [← hc.len, List.getElem?_append_right (Nat.le_refl _)]; simp
  have o2 : ((h.push emptyDict).push (instObj W.C h.objs.size)).get? (h.objs.size + 1) = some (instObj W.C h.objs.size) := by rw [← hsz]; exact Heap.get?_push_size _ rfl
  have c2 : Cells W ((h.push emptyDict).push (instObj W.C h.objs.size)) ((ρ.add h.objs.size).add (h.objs.size + 1)) (H ++ [.dct []] ++ [.inst H.length]) := c1.snoc k2 n2 ⟨h.objs.size, pre_snoc.pre _ _ hlen, o2⟩
  have hx : ((ρ.add h.objs.size).add (h.objs.size + 1)).a[H.length + 1]? = some (h.objs.size + 1) := by
    show ((ρ.a ++ [h.objs.size]) ++ [h.objs.size + 1])[H.length + 1]? = _
    have : (ρ.a ++ [h.objs.size]).length = H.length + 1 := by rw [List.length_append, hc.len]; rfl
    rw [← this, List.getElem?_append_right (Nat.le_refl _)]; simp
  have pr : Pre ρ ((ρ.add h.objs.size).add (h.objs.size + 1)) := ⟨fun i a e => pre_snoc.pre _ _ (pre_snoc.pre _ _ e), Nat.le_refl _⟩
  have kk := k1.trans k2
  have ex : Ext W [] h ρ ((h.push emptyDict).push (instObj W.C h.objs.size)) ((ρ.add h.objs.size).add (h.objs.size + 1)) := (Ext0.snoc k1 n1).toExt.trans (Ext0.snoc k2 n2).toExt
  refine F (A.under (.builtin "type.__call__" ⟨.ref W.C :: args, kw⟩)) ⟨(h.push emptyDict).push (instObj W.C h.objs.size), g, dr, t, os⟩ ((ρ.add h.objs.size).add (h.objs.size + 1)) (H ++ [.dct []] ++ [.inst H.length]) (.ref (h.objs.size + 1) :: args) kw (.ref (H.length + 1) :: pargs) pkw (InitBack (h.objs.size + 1) R) ?_ c2 (.cons ⟨_, rfl, hx⟩ (hra.mono fun _ _ y => y.stb (kk.stb pr))) (hrk.mono fun _ _ y => ⟨y.1, y.2.stb (kk.stb pr)⟩) ?_
  · refine AOk.under (s := ⟨h, g, dr, t, os⟩) ha ?_ ?_ ?_ kk rfl ex.new
    · exact Nat.le_of_eq (by rfl)
    · exact Nat.le_of_ble_eq_true rfl
    · rfl
  · unfold clsSpec at hp
    generalize spec (.ref (H.length + 1) :: pargs) pkw (H ++ [.dct []] ++ [.inst H.length]) = r at hp ⊢
    cases r with
    | none => exact hp.elim
    | some r =>
      obtain ⟨r, H'⟩ := r
      cases r with
      | exc => exact fun x h' ρ' tk c e l r => hp x h' ρ' tk c (ex.trans e) l (r.back ex.there)
      | ok v =>
        cases v with
        | none =>
          intro x h' ρ' tk c e l r
          cases r
          exact ⟨rfl, hp (.ref (h.objs.size + 1)) h' ρ' tk c (ex.trans e) l ⟨_, rfl, e.pre _ _ hx⟩⟩
        | _ => exact hp.elim

theorem s_kcall {x : Str} {px pos : Pos} {fa : Addr} {spec : FSpec} {es : List Expr} {ks : List Keyword} {q : PM (List PV × List (String × PV))} (F : FHolds W d (.ref fa) spec) (hx : env.kindOf x = some .globalImplicit)
    (e : nsIn W.K mainGlobals x = some (some (.ref fa))) (hk : keepIn W.K (.ref fa) = true) (ha : SA W d env es ks q) (hdb : (x == ("__debug__" : Str)) = false) (hplain : ∀ pos, ((backTo pos (starEach es env)).any (·.1) || (backToKw pos (keywordEach ks env)).any (·.1.isNone)) = false) :
    SE W d env (.Call (.Name x px) es ks pos) (PM.bind q fun a => pcall spec a.1 a.2) := by
  intro G
  rw [arm_eval_Call_Name']
  intro A s ρ σ Q E hA hr hg hp
  refine wpAny_bind (s_gname (d := d) (p := .glob fa) hx e (fun _ _ => rfl) hdb A s ρ σ _ _ hA hr hg ?_)
  intro f h' ρ' tk r1 e1 l1 rf
  cases rf
  refine callWith_of (first := []) (P := fun h => W.K.In h) (hplain _) (fun h X => keeps_K hk h X) (ha G (.ref fa) pos A _ ρ' σ _ _ (hA.ext r1 e1 l1) r1 (G.stb (hr.stb e1) hg) ?_)
  unfold PM.bind at hp
  match hq : q σ, hp with
  | some (.ok b, σ₁), hp =>
    intro a h₂ ρ₂ tk₂ r2 e2 l2 ra
    refine ⟨r2.X, ?_⟩
    exact sim_call (G := ⟨fun h ρ => rrA.rel h ρ a b, fun x y => rrA.stb x y⟩) F (fun _ _ g => g.1) (fun _ _ g => g.2) A _ ρ₂ σ₁ Q E ((hA.ext r1 e1 l1).ext r2 e2 l2) r2 ra (Post.trans (s := s) rfl (e1.trans e2) hp)
  | some (.exc, σ₁), hp =>
    exact fun y h₂ ρ₂ tk₂ r2 e2 l2 re => hp y h₂ ρ₂ tk₂ r2 (e1.trans e2) l2 (re.back e1.there)

set_option tactic.hygienic true in
theorem s_icall {o : Expr} {n : String} {apos pos : Pos} {fa : Addr} {spec : FSpec} {es : List Expr} {ks : List Keyword} {p : PM PV} {q : PM (List PV × List (String × PV))} (ho : SE W d env o p) (F : FHolds W d (.ref fa) spec)
    (hf : findIn W.K (.ref W.C) (Str.ofString n) = some (some (.ref fa))) (ht : typeIn W.K (.ref fa) = some (.type "function")) (hk : keepIn W.K (.ref fa) = true) (ha : SA W d env es ks q)
    (hb : ∀ t, attributeBase o (Str.ofString n) env t = t) (hff : methodCallForm (es.length + ks.length) (backTo pos (starEach es env)) (backToKw pos (keywordEach ks env)) = true) (hpos : (apos.endLine == pos.line) = true)
    (hplain : ((backTo pos (starEach es env)).any (·.1) || (backToKw pos (keywordEach ks env)).any (·.1.isNone)) = false) :
    SE W d env (.Call (.Attribute o (Str.ofString n) apos) es ks pos) (PM.bind p fun a => match a with
      | .ref i => pinst i fun _ fs => pguard (fs.lookup n = none) (PM.bind q fun l => pcall spec (.ref i :: l.1) l.2)
      | _ => pfail) := by
  refine s_meth_ ho (fun G a pa ga => ?_) hb hff hpos
  cases pa with
  | ref i =>
    intro A s ρ σ Q E hA hr hg hp
    obtain ⟨k, fs, h1, h2, hp⟩ := pinst_invP hp
    unfold pguard at hp
    split at hp
    · rename_i hl
      obtain ⟨y, dd, es', nn, m, I⟩ := inst_of hr.cells (ga _ _ hg) h1 h2
      have hlk : shadowIn (some ⟨.type "dict", none, .dict es' nn, #[]⟩) (Str.ofString n) = some false := by
        unfold shadowIn
        dsimp only
        rw [lookIn_ns I.ns I.od, (I.get n).2 hl]; rfl
      have ga' := I.ref
      subst ga'
      refine wpAny_bind (method_fn hr.X I.at_ W.hga W.hgk hf ht hlk ?_)
      refine callWith_of (first := [.ref y]) (P := fun h => W.K.In h) hplain (fun h X => keeps_K hk h X) (ha (G.add rrV (.ref y) (.ref i)) (.ref fa) pos A _ ρ σ _ _ hA hr ⟨hg, ga _ _ hg⟩ ?_)
      unfold PM.bind at hp
      match hq : q σ, hp with
      | some (.ok b, σ₁), hp =>
        intro a h₂ ρ₂ tk₂ r2 e2 l2 ra
        refine ⟨r2.X, ?_⟩
        exact sim_call (G := ⟨fun h ρ => RepV h ρ (.ref y) (.ref i) ∧ rrA.rel h ρ a b, fun x z => ⟨z.1.stb x, rrA.stb x z.2⟩⟩) (args := .ref y :: a.pos) (pargs := .ref i :: b.1) F (fun _ _ g => .cons g.1 g.2.1) (fun _ _ g => g.2.2) A _ ρ₂ σ₁ Q E (hA.ext r2 e2 l2) r2 ⟨(ga _ _ hg).stb (hr.stb e2), ra⟩ (Post.trans (s := s) rfl e2 hp)
      | some (.exc, σ₁), hp => exact hp
    · exact hp.elim
  | _ => exact s_fail
end
end

section
open PySem PySem.W PyProof.Rows PySem.Spec PySem.SeqAt PySem.Calls
set_option autoImplicit false
set_option linter.unusedVariables false
set_option maxRecDepth 100000
set_option tactic.hygienic false
section
variable {W : Wd} {d : Nat} {env : Env} {G : GG}
open Builtin in
theorem wp_strOwn {prog : Program} {w : World} {A : Around} {E : Value → Shared → Prop} {s : Shared} {K : Frag} {x C f : Addr} {ox : Obj} {od : Option Obj} {Q : Value → Shared → Prop} (hu : A.in1.in1.units < cLine) (X : K.In s.heap) (I : InstAt s.heap x ox C od) (hs : findIn K (.ref C) "__str__" = some (some (.ref f))) (hf : typeIn K (.ref f) = some (.type "function"))
    (h : wpAny (model prog w) A.in1.in1 (call (.ref f) [.ref x]) (StrBack Q) E s) : wpAny (model prog w) A (call (.type "str") [.ref x]) Q E s := by
  refine callType_codes (T := "str") (Bi := Builtin.«object.__init__») (Q₁ := fun r s₁ => ∃ y u, r = .str y u ∧ Q r s₁) PySem.F.called_str (PySem.F.typeCall_str_1 _) PySem.F.entry_object_init ?_ ?_
  · refine codeAny_of_tree ?_
    show wpAny _ A.in1.in1 (do checkBuiltinCall "str.__new__" ⟨[.type "str", .ref x], []⟩; again (.builtin "str.__new__" ⟨[.type "str", .ref x], []⟩)) _ _ s
    refine wpAny_bind (wpAny_of_eq (PySem.F.newCall_str_1 _) (wpAny_pure ⟨plainId_quiet (by decide +kernel) _, codeAny_builtin PySem.F.entry_str_new ?_⟩))
    rw [Around.under_plainId (by decide +kernel) _]
    rw [str_new_tree]
    refine wpAny_bind (wpAny_pure ?_)
    refine wpAny_bind (wpAny_of_eq isSubtype_str_str ?_)
    have key : wpAny (model prog w) A.in1.in1 (PySem.Builtin.Str.strOf (.ref x)) (fun r s₁ => ∃ y u, r = .str y u ∧ Q r s₁) E s := by
      unfold PySem.Builtin.Str.strOf
      rw [show PySem.Builtin.Str.isExactStr (.ref x) = false from rfl]
      refine wpAny_bind (m := cRoomFor _ _) (wpAny_cRoomFor hu ?_)
      refine wpAny_bind (m := callSpecial? (.ref x) (Str.ofString "__str__")) (special_fn X I hs hf (wpAny_mono h (fun r s' z => ?_) fun _ _ y => y))
      cases r <;> first | exact z.elim | exact wpAny_pure ⟨_, _, rfl, z⟩
    exact wpAny_bind (wpAny_mono key (fun r s₁ hr => wpAny_pure hr) fun _ _ y => y)
  · rintro obj s₁ ⟨y, u, rfl, hq⟩
    exact ⟨typeIs_str _ _ _, PySem.F.args_object_init_2 _ _, object_init_meets PySem.F.called_str.init.lookup PySem.F.called_str.made (by decide) prog w A.in1 _ s₁ ⟨typeIs_str _ _ _, rfl, hq⟩⟩
noncomputable def fStrI (spec : FSpec) : List PV → PM PV
  | [.ref i] => pinst i fun _ _ => fun σ => match spec [.ref i] [] σ.H with
    | some (.ok (.str x), H') => some (.ok (.str x), { σ with H := H' })
    | _ => none
  | _ => pfail
theorem AOk.in2 {A : Around} {s : Shared} {ρ : Rh} (ha : AOk W (d + 1) A s ρ) : AOk W d A.in1.in1 s ρ := by
  obtain ⟨l, h1, h2⟩ := ha.fr
  refine ⟨?_, ?_, ha.handled, ⟨l, h1, h2⟩, ha.tok, ha.pos⟩
  · have := ha.depth; show A.depth + 2 * d + 2 < recursionLimit; lia
  · have := ha.units; show A.units + 1 + 1 + 100 * d + 100 < cLine; lia
set_option tactic.hygienic true in
theorem c_strI {spec : FSpec} {fa : Addr} (F : FHolds W d (.ref fa) spec) (hs : findIn W.K (.ref W.C) "__str__" = some (some (.ref fa))) (hf : typeIn W.K (.ref fa) = some (.type "function")) : CallOk W (d + 1) env (.type "str") (fStrI spec) := by
  intro G vs l gl
  intro A s ρ σ Q E ha hr hg hp
  have rl := gl _ _ hg
  unfold fStrI at hp
  split at hp
  · rename_i i
    obtain ⟨v, rfl, rv⟩ := one_inv rl
    obtain ⟨k, fs, h1, h2, hp⟩ := pinst_invP hp
    obtain ⟨y, dd, es', nn, m, I⟩ := inst_of hr.cells rv h1 h2
    have e := I.ref
    subst e
    have hu : A.in1.in1.units < cLine := by have := ha.units; show A.units + 1 + 1 < cLine; omega
    refine wp_strOwn hu hr.X I.at_ hs hf ?_
    refine F A.in1.in1 s ρ σ.H [.ref y] [] [.ref i] [] _ _ ha.in2 hr.cells (.cons rv .nil) .nil ?_
    match hq : spec [.ref i] [] σ.H, hp with
    | some (.ok (.str x), H'), hp =>
      intro z h' ρ' tk c e l r
      obtain ⟨t, rfl⟩ := r
      exact hp _ h' ρ' tk (hr.after c e) (e.mono fun _ q => by simp at q) l ⟨t, rfl⟩
  · exact hp.elim

noncomputable def pdelI (spec : FSpec) (a b : PV) : PM Unit := match a with
  | .ref i => pinst i fun _ _ => PM.bind (pcall spec [.ref i, b] []) fun _ => PM.pure ()
  | _ => pfail
theorem wp_delItem {M : Model} {A : Around} {E : Value → Shared → Prop} {s : Shared} {K : Frag} {x C f : Addr} {ox : Obj} {od : Option Obj} {i : Value} {Q : Unit → Shared → Prop} (X : K.In s.heap) (I : InstAt s.heap x ox C od) (hq : noSeq K C = true) (hs : findIn K (.ref C) "__delitem__" = some (some (.ref f))) (hf : typeIn K (.ref f) = some (.type "function"))
    (h : wpAny M A (call (.ref f) [.ref x, i]) (fun _ s' => Q () s') E s) : wpAny M A (delItem (.ref x) i) Q E s := by
  unfold delItem sequenceKey
  refine wpAny_holding (wpAny_bind (wpAny_bind (I.type.here ?_)))
  refine wpAny_bind ((anyM_none X hq).here ?_)
  rw [if_pos (show (!false) = true from rfl)]
  exact wpAny_pure (wpAny_bind (special_fn X I hs hf (wpAny_mono h (fun _ _ z => wpAny_pure z) fun _ _ z => z)))
theorem wp_setItem {M : Model} {A : Around} {E : Value → Shared → Prop} {s : Shared} {K : Frag} {x C f : Addr} {ox : Obj} {od : Option Obj} {i v : Value} {Q : Unit → Shared → Prop} (X : K.In s.heap) (I : InstAt s.heap x ox C od) (hq : noSeq K C = true) (hs : findIn K (.ref C) "__setitem__" = some (some (.ref f))) (hf : typeIn K (.ref f) = some (.type "function"))
    (h : wpAny M A (call (.ref f) [.ref x, i, v]) (fun _ s' => Q () s') E s) : wpAny M A (setItem (.ref x) i v) Q E s := by
  unfold setItem sequenceKey
  refine wpAny_holding (wpAny_bind (wpAny_bind (I.type.here ?_)))
  refine wpAny_bind ((anyM_none X hq).here ?_)
  rw [if_pos (show (!false) = true from rfl)]
  exact wpAny_pure (wpAny_bind (special_fn X I hs hf (wpAny_mono h (fun _ _ z => wpAny_pure z) fun _ _ z => z)))
theorem wp_drop {f : Value} {spec : FSpec} (F : FHolds W d f spec) {args : List Value} {pargs : List PV} {A : Around} {s : Shared} {ρ : Rh} {σ : PS} {Q : Unit → Shared → Prop} {E : Value → Shared → Prop} (ha : AOk W d A s ρ) (hr : Rel W env s.heap ρ σ) (ra : All2 (RepV s.heap ρ) args pargs)
    (hp : Post W env rrU s ρ Q E (PM.bind (pcall spec pargs []) (fun _ => PM.pure ()) σ)) : wpAny (model W.prog W.w) A (call f args) (fun _ s' => Q () s') E s := by
  refine sim_call (G := ⟨fun h ρ => All2 (RepV h ρ) args pargs, fun x y => rrL.stb x y⟩) F (fun _ _ g => g) (fun _ _ _ => .nil) A s ρ σ _ _ ha hr ra ?_
  unfold PM.bind at hp
  match hq : pcall spec pargs [] σ, hp with
  | some (.ok b, σ₁), hp => exact fun a h' ρ' tk r1 e1 l _ => hp () h' ρ' tk r1 e1 l trivial
  | some (.exc, σ₁), hp => exact hp
set_option tactic.hygienic true in
theorem o_delI {spec : FSpec} {fa : Addr} (hC : ClsOk W) (F : FHolds W d (.ref fa) spec) (hs : findIn W.K (.ref W.C) "__delitem__" = some (some (.ref fa))) (hf : typeIn W.K (.ref fa) = some (.type "function")) {a b : Value} {pa pb : PV} (ga : ∀ h ρ, G.P h ρ → RepV h ρ a pa) (gb : ∀ h ρ, G.P h ρ → RepV h ρ b pb) :
    Sim W d env rrU G (delItem a b) (pdelI spec pa pb) := by
  intro A s ρ σ Q E ha hr hg hp
  unfold pdelI at hp
  split at hp
  · rename_i i
    obtain ⟨k, fs, h1, h2, hp⟩ := pinst_invP hp
    obtain ⟨y, dd, es', nn, m, I⟩ := inst_of hr.cells (ga _ _ hg) h1 h2
    have e := I.ref
    subst e
    exact wp_delItem hr.X I.at_ hC.noseq hs hf (wp_drop F ha hr (.cons (ga _ _ hg) (.cons (gb _ _ hg) .nil)) hp)
  · exact hp.elim
theorem st_delI {o i : Expr} {sp pos : Pos} {spec : FSpec} {fa : Addr} {p q : PM PV} (hC : ClsOk W) (F : FHolds W d (.ref fa) spec) (hs : findIn W.K (.ref W.C) "__delitem__" = some (some (.ref fa))) (hf : typeIn W.K (.ref fa) = some (.type "function")) (ho : SE W d env o p) (hi : SE W d env i q) :
    SSt W d env (.Delete [.Subscript o i sp] pos) (PM.bind p fun a => PM.bind q fun b => PM.bind (pdelI spec a b) fun _ => PM.pure .next) := by
  intro G
  rw [arm_exec_Delete]
  refine Sim.stand ?_
  have e1 : deleteEach [.Subscript o i sp] env = (delete (.Subscript o i sp) env >>= fun _ => deleteEach [] env) := rfl
  rw [e1, arm_delete_Subscript]
  refine Sim.eq (t' := eval o env >>= fun ov => holding [ov] (eval i env) >>= fun iv => standAt sp >>= fun _ => holding [ov, iv] (delItem ov iv) >>= fun _ => PySem.release [ov, iv] [] >>= fun _ => pure .next) ?_ ?_ rfl
  · exact Sim.bind (ho G) fun a pa => Sim.bind (Sim.holding (hi _)) fun b pb => Sim.stand (Sim.bind (Sim.holding (o_delI hC F hs hf (fun _ _ g => g.1.2) fun _ _ g => g.2)) fun _ _ => Sim.release (Sim.pure (R := rrF) fun _ _ _ => trivial))
  · simp only [bind_assoc]
    rfl
noncomputable def psetI (spec : FSpec) (a b v : PV) : PM Unit := match a with
  | .ref i => pinst i fun _ _ => PM.bind (pcall spec [.ref i, b, v] []) fun _ => PM.pure ()
  | _ => pfail
set_option tactic.hygienic true in
theorem o_setI {spec : FSpec} {fa : Addr} (hC : ClsOk W) (F : FHolds W d (.ref fa) spec) (hs : findIn W.K (.ref W.C) "__setitem__" = some (some (.ref fa))) (hf : typeIn W.K (.ref fa) = some (.type "function")) {a b v : Value} {pa pb pv : PV} (ga : ∀ h ρ, G.P h ρ → RepV h ρ a pa) (gb : ∀ h ρ, G.P h ρ → RepV h ρ b pb) (gv : ∀ h ρ, G.P h ρ → RepV h ρ v pv) :
    Sim W d env rrU G (setItem a b v) (psetI spec pa pb pv) := by
  intro A s ρ σ Q E ha hr hg hp
  unfold psetI at hp
  split at hp
  · rename_i i
    obtain ⟨k, fs, h1, h2, hp⟩ := pinst_invP hp
    obtain ⟨y, dd, es', nn, m, I⟩ := inst_of hr.cells (ga _ _ hg) h1 h2
    have e := I.ref
    subst e
    exact wp_setItem hr.X I.at_ hC.noseq hs hf (wp_drop F ha hr (.cons (ga _ _ hg) (.cons (gb _ _ hg) (.cons (gv _ _ hg) .nil))) hp)
  · exact hp.elim
noncomputable def relOf (i : Expr) (v ov iv : Value) : List Value := match i with
  | .Slice _ _ none _ => [iv, v, ov]
  | _ => [v, ov, iv]
end
end

section
open PySem PySem.W PyProof.Rows
open PySem.F
set_option autoImplicit false
set_option maxRecDepth 100000
set_option tactic.hygienic false
theorem plainAttrs_pat : PlainAttrs "re.Pattern" :=
  ⟨⟨"object.__getattribute__", by rw [typeLookup_type, builtinLookup_eq_fast]; kernel_rfl, by decide +kernel⟩, by rw [typeLookup_type, builtinLookup_eq_fast]; kernel_rfl⟩
theorem owner_pat : Manifest.owners.lookup (String.ofList ['n', 'r', 'e', 't', 't', 'a', 'P', '.', 'e', 'r'].reverse) = some Manifest.sig_re_Pattern := by kernel_rfl
theorem slot_pat_search : Slot "re.Pattern" "search" "re.Pattern.search" :=
  .of (owner := "re.Pattern") (n := "search") (by rw [typeLookup_type, builtinLookup_eq_fast]; kernel_rfl) (by decide +kernel) (by decide +kernel) (by decide +kernel)
    (by first | exact .inl (by decide +kernel) | exact .inr (by decide +kernel)) (by rw [isSubtype_type]; kernel_rfl)
theorem type_pat_search : typeOf (.builtin "re.Pattern.search") = pure (.type "method_descriptor") := by show builtinType _ = _; rw [builtinType_eq_fast]; kernel_rfl
theorem entry_pat_search : entryFor table "re.Pattern.search" = some Builtin.«re.Pattern.search» := entryFor_of_tree (by kernel_rfl)
theorem slot_pat_sub : Slot "re.Pattern" "sub" "re.Pattern.sub" :=
  .of (owner := "re.Pattern") (n := "sub") (by rw [typeLookup_type, builtinLookup_eq_fast]; kernel_rfl) (by decide +kernel) (by decide +kernel) (by decide +kernel)
    (by first | exact .inl (by decide +kernel) | exact .inr (by decide +kernel)) (by rw [isSubtype_type]; kernel_rfl)
theorem type_pat_sub : typeOf (.builtin "re.Pattern.sub") = pure (.type "method_descriptor") := by show builtinType _ = _; rw [builtinType_eq_fast]; kernel_rfl
theorem entry_pat_sub : entryFor table "re.Pattern.sub" = some Builtin.«re.Pattern.sub» := entryFor_of_tree (by kernel_rfl)
theorem entry_pat_loop : entryFor table "re.Pattern.sub.loop" = some Builtin.«re.Pattern.sub.loop» := entryFor_of_tree (by kernel_rfl)
theorem args_pat_search (a b : Value) : argsOk "re.Pattern.search" ⟨[a, b], []⟩ := by
  unfold argsOk; rw [signature?_of (id := "re.Pattern.search") (n := ['h', 'c', 'r', 'a', 'e', 's']) (o := ['n', 'r', 'e', 't', 't', 'a', 'P', '.', 'e', 'r']) (by kernel_rfl) owner_pat]; kernel_rfl
theorem args_pat_sub (a b c : Value) : argsOk "re.Pattern.sub" ⟨[a, b, c], []⟩ := by
  unfold argsOk; rw [signature?_of (id := "re.Pattern.sub") (n := ['b', 'u', 's']) (o := ['n', 'r', 'e', 't', 't', 'a', 'P', '.', 'e', 'r']) (by kernel_rfl) owner_pat]; kernel_rfl
end

section
open PySem PySem.W PyProof.Rows
open PySem.Sre PySem.Sre.M
set_option autoImplicit false
set_option linter.unusedVariables false
set_option maxRecDepth 100000
set_option tactic.hygienic false
theorem runFor_done (m : M) (h : m.outcome.isSome = true) : ∀ n, runFor n m = m
  | 0 => rfl
  | n + 1 => by unfold runFor; rw [if_pos h]
theorem runFor_add (a b : Nat) (m : M) : runFor (a + b) m = runFor b (runFor a m) := by
  induction a generalizing m with
  | zero => rw [Nat.zero_add]; rfl
  | succ a ih =>
    rw [Nat.succ_add]
    show (if m.outcome.isSome then m else runFor (a + b) m.step) = runFor b (if m.outcome.isSome then m else runFor a m.step)
    by_cases h : m.outcome.isSome = true
    · rw [if_pos h, if_pos h, runFor_done m h]
    · rw [if_neg h, if_neg h]; exact ih _
noncomputable def Ends (k : Nat) (m : M) (r : Option (Nat × Nat)) : Prop := match r with
  | none => (match (runFor k m).outcome with | some .failed => True | _ => False)
  | some (s, e) => (match (runFor k m).outcome with | some .matched => True | _ => False) ∧ (runFor k m).start = s ∧ (runFor k m).handed = e
theorem Ends.step {k : Nat} {m : M} {r : Option (Nat × Nat)} (h : Ends k m.step r) : Ends (k + 1) m r := by
  have e : m.outcome.isSome = true → m.step = m := fun h => by unfold M.step; rw [if_pos h]
  have : runFor (k + 1) m = runFor k m.step := by
    show (if m.outcome.isSome then m else runFor k m.step) = _
    by_cases q : m.outcome.isSome = true
    · rw [if_pos q, e q, runFor_done m q]
    · rw [if_neg q]
  unfold Ends at h ⊢
  rw [this]; exact h
theorem Ends.isSome {k : Nat} {m : M} {r : Option (Nat × Nat)} (h : Ends k m r) : (runFor k m).outcome.isSome = true := by
  unfold Ends at h
  cases e : (runFor k m).outcome with
  | some o => rfl
  | none => rw [e] at h; cases r with
    | none => exact h.elim
    | some x => exact h.1.elim
theorem Ends.more {k k' : Nat} {m : M} {r : Option (Nat × Nat)} (h : Ends k m r) (hk : k ≤ k') : Ends k' m r := by
  have e : runFor k' m = runFor k m := by
    have : k' = k + (k' - k) := by lia
    rw [this, runFor_add, runFor_done _ h.isSome]
  unfold Ends at h ⊢
  rw [e]; exact h

noncomputable def mk (code text : Array Nat) (lim start pc pos handed : Nat) (outer : Bool) (frames : List Sre.Frame) (weight : Nat) (answer : Option Bool) (seen : Sre.Seen) : M :=
  { code := code, text := text, lim := lim, start := start, lastStart := lim, pc := pc, pos := pos, handed := handed, outermost := outer, marks := #[], frames := frames, weight := weight, answer := answer, seen := seen }
noncomputable def code1 : Array Nat := #[14, 4, 0, 1, 1, 6, 1, 16, 46, 1]
noncomputable def code2 : Array Nat := #[14, 9, 4, 1, 2, 16, 10, 16, 13, 0, 7, 7, 16, 13, 16, 10, 15, 18, 5, 16, 10, 15, 13, 11, 16, 13, 5, 5, 0, 16, 10, 1, 15, 2, 0, 1]
noncomputable def codeN : Array Nat := #[14, 10, 4, 1, 1, 22, 0, 31, 16, 127, 0, 13, 7, 22, 0, 31, 16, 127, 0, 1]
noncomputable def codeV : Array Nat := #[14, 14, 4, 1, 1, 9, 4294966783, 0, 0, 2147483648, 0, 0, 0, 0, 0, 13, 11, 9, 4294966783, 0, 0, 2147483648, 0, 0, 0, 0, 0, 1]

section
variable {text : Array Nat} {lim start pos handed w : Nat} {o : Bool} {fr : List Sre.Frame} {sn : Sre.Seen}
theorem at_yes (h : (pos == 0 || text.getD (pos - 1) 0 == 10) = true) : ∃ sn', (mk code1 text lim start 5 pos handed o fr w none sn).step = mk code1 text lim start 7 pos handed o fr w none sn' := by
  refine ⟨(sn.add 6).add 44, ?_⟩
  have e : (mk code1 text lim start 5 pos handed o fr w none sn).step = (if (pos == 0 || text.getD (pos - 1) 0 == 10) = true then mk code1 text lim start 7 pos handed o fr w none ((sn.add 6).add 44) else mk code1 text lim start 5 pos handed o fr w (some false) ((sn.add 6).add 44)) := rfl
  rw [e, if_pos h]
theorem at_no (h : (pos == 0 || text.getD (pos - 1) 0 == 10) = false) : ∃ sn', (mk code1 text lim start 5 pos handed o fr w none sn).step = mk code1 text lim start 5 pos handed o fr w (some false) sn' := by
  refine ⟨(sn.add 6).add 44, ?_⟩
  have e : (mk code1 text lim start 5 pos handed o fr w none sn).step = (if (pos == 0 || text.getD (pos - 1) 0 == 10) = true then mk code1 text lim start 7 pos handed o fr w none ((sn.add 6).add 44) else mk code1 text lim start 5 pos handed o fr w (some false) ((sn.add 6).add 44)) := rfl
  rw [e, if_neg (by rw [h]; decide)]
theorem lit_step : (mk code1 text lim start 7 pos handed o fr w none sn).step = (if pos ≥ lim then mk code1 text lim start 7 pos handed o fr w (some false) (sn.add 16) else
    cond (text.getD pos 0 == 46) (mk code1 text lim start 9 (pos + 1) handed o fr w none (sn.add 16)) (mk code1 text lim start 7 pos handed o fr w (some false) (sn.add 16))) := by
  have e : (mk code1 text lim start 7 pos handed o fr w none sn).step = (if pos ≥ lim then mk code1 text lim start 7 pos handed o fr w (some false) (sn.add 16) else
    match (Except.ok (text.getD pos 0 == 46, sn.add 16) : Except String (Bool × Sre.Seen)) with
    | .error why => (mk code1 text lim start 7 pos handed o fr w none (sn.add 16)).stick why
    | .ok (false, sx) => mk code1 text lim start 7 pos handed o fr w (some false) sx
    | .ok (true, sx) => mk code1 text lim start 9 (pos + 1) handed o fr w none sx) := rfl
  rw [e]
  generalize (text.getD pos 0 == 46) = b
  cases b <;> rfl
theorem suc_step : (mk code1 text lim start 9 pos handed o fr w none sn).step = mk code1 text lim start 9 pos pos o fr w (some true) (sn.add 1) := by cases o <;> rfl
noncomputable def fr1 (s : Nat) (first : Bool) : Sre.Frame := { wait := .nextStart, pc := 5, pos := s, outermost := first }
theorem res_yes {s pc : Nat} {first : Bool} : (mk code1 text lim start pc pos handed o [fr1 s first] 1 (some true) sn).step = mk code1 text lim start 5 s handed first [] 0 (some true) sn := rfl
theorem res_no {s pc : Nat} {first : Bool} : (mk code1 text lim start pc pos handed o [fr1 s first] 1 (some false) sn).step = (if s < lim then mk code1 text lim (s + 1) 5 (s + 1) (s + 1) false [fr1 (s + 1) false] 1 none sn else mk code1 text lim start 5 s handed first [] 0 (some false) sn) := rfl
theorem end_yes {pc : Nat} : Ends 1 (mk code1 text lim start pc pos handed o [] 0 (some true) sn) (some (start, handed)) := ⟨trivial, rfl, rfl⟩
theorem end_no {pc : Nat} : Ends 1 (mk code1 text lim start pc pos handed o [] 0 (some false) sn) none := trivial
noncomputable def hit1 (text : Array Nat) (lim s : Nat) : Bool := (s == 0 || text.getD (s - 1) 0 == 10) && (decide (s < lim) && text.getD s 0 == 46)
noncomputable def find1 (text : Array Nat) (lim : Nat) : (fuel s : Nat) → Option (Nat × Nat)
  | 0, s => if hit1 text lim s = true then some (s, s + 1) else none
  | fuel + 1, s => if hit1 text lim s = true then some (s, s + 1) else find1 text lim fuel (s + 1)
theorem ends1_hit {s : Nat} {first : Bool} (h : hit1 text lim s = true) : Ends 5 (mk code1 text lim s 5 s s first [fr1 s first] 1 none sn) (some (s, s + 1)) := by
  unfold hit1 at h
  simp only [Bool.and_eq_true, decide_eq_true_eq] at h
  obtain ⟨sn', e⟩ := at_yes (text := text) (lim := lim) (start := s) (pos := s) (handed := s) (o := first) (fr := [fr1 s first]) (w := 1) (sn := sn) h.1
  refine Ends.step ?_
  rw [e]
  refine Ends.step ?_
  rw [lit_step, if_neg (by lia), h.2.2]
  refine Ends.step ?_
  rw [cond_true, suc_step]
  refine Ends.step ?_
  rw [res_yes]
  exact end_yes
theorem ends1_miss {s k : Nat} {first : Bool} {r : Option (Nat × Nat)} (h : hit1 text lim s = false)
    (hk : ∀ sn pc pos handed o, Ends k (mk code1 text lim s pc pos handed o [fr1 s first] 1 (some false) sn) r) : Ends (k + 2) (mk code1 text lim s 5 s s first [fr1 s first] 1 none sn) r := by
  unfold hit1 at h
  by_cases ha : (s == 0 || text.getD (s - 1) 0 == 10) = true
  · obtain ⟨sn', e⟩ := at_yes (text := text) (lim := lim) (start := s) (pos := s) (handed := s) (o := first) (fr := [fr1 s first]) (w := 1) (sn := sn) ha
    refine Ends.step ?_
    rw [e]
    refine Ends.step ?_
    rw [lit_step]
    rw [ha, Bool.true_and] at h
    by_cases hl : s < lim
    · rw [if_neg (by lia)]
      have : (text.getD s 0 == 46) = false := by simpa [hl] using h
      rw [this, cond_false]
      exact hk _ _ _ _ _
    · rw [if_pos (by lia)]
      exact hk _ _ _ _ _
  · have ha : (s == 0 || text.getD (s - 1) 0 == 10) = false := by simpa using ha
    obtain ⟨sn', e⟩ := at_no (text := text) (lim := lim) (start := s) (pos := s) (handed := s) (o := first) (fr := [fr1 s first]) (w := 1) (sn := sn) ha
    refine Ends.more (k := k + 1) (Ends.step ?_) (by lia)
    rw [e]
    exact hk _ _ _ _ _
theorem ends1 : ∀ (fuel s : Nat) (first : Bool) (sn : Sre.Seen), s + fuel = lim → Ends (3 * fuel + 5) (mk code1 text lim s 5 s s first [fr1 s first] 1 none sn) (find1 text lim fuel s) := by
  intro fuel
  induction fuel with
  | zero =>
    intro s first sn hs
    unfold find1
    by_cases h : hit1 text lim s = true
    · rw [if_pos h]; exact ends1_hit h
    · rw [if_neg h]
      refine Ends.more (k := 2 + 2) (ends1_miss (by simpa using h) fun sn pc pos handed o => ?_) (by lia)
      refine Ends.step ?_
      rw [res_no, if_neg (by lia)]
      exact end_no
  | succ fuel ih =>
    intro s first sn hs
    unfold find1
    by_cases h : hit1 text lim s = true
    · rw [if_pos h]; exact (ends1_hit h).more (by lia)
    · rw [if_neg h]
      refine Ends.more (k := (3 * fuel + 5 + 1) + 2) (ends1_miss (by simpa using h) fun sn pc pos handed o => ?_) (by lia)
      refine Ends.step ?_
      rw [res_no, if_pos (by lia)]
      exact ih (s + 1) false sn (by lia)
theorem forSearch1 {p lim : Nat} : forSearch code1 text 0 p lim false = (if (decide (p > lim) || decide (lim - p < 1)) = true then { mk code1 text lim p 5 p p true [] 0 (some false) (({} : Sre.Seen).add 14) with lastStart := 0 } else mk code1 text lim p 5 p p true [fr1 p true] 1 none (({} : Sre.Seen).add 14)) := rfl
theorem search1 {p : Nat} (hp : p ≤ text.size) : Ends (3 * text.size + 6) (forSearch code1 text 0 p text.size false) (if p < text.size then find1 text text.size (text.size - p) p else none) := by
  rw [forSearch1]
  by_cases h : p < text.size
  · have hc : (decide (p > text.size) || decide (text.size - p < 1)) = false := by
      rw [Bool.or_eq_false_iff, decide_eq_false_iff_not, decide_eq_false_iff_not]; lia
    rw [if_pos h, if_neg (by rw [hc]; decide)]
    exact (ends1 (text.size - p) p true _ (by lia)).more (by lia)
  · have hc : (decide (p > text.size) || decide (text.size - p < 1)) = true := by
      rw [Bool.or_eq_true, decide_eq_true_eq, decide_eq_true_eq]; lia
    rw [if_neg h, if_pos hc]
    refine Ends.more (k := 1) ?_ (by lia)
    exact trivial
end

noncomputable def firstAt (P : Nat → Bool) (text : Array Nat) (lim : Nat) : (fuel s : Nat) → Option Nat
  | 0, _ => none
  | fuel + 1, s => if s ≥ lim then none else if P (text.getD s 0) = true then some s else firstAt P text lim fuel (s + 1)
theorem admitted_eq {P : Nat → Bool} {m : M} (h : ∀ c sn, ∃ sn', inSet m.code c m.code.size 5 true sn = .ok (P c, sn')) : ∀ (fuel s : Nat) (sn : Sre.Seen), ∃ sn', admitted m fuel s sn = .ok (firstAt P m.text m.lim fuel s, sn')
  | 0, s, sn => ⟨sn, rfl⟩
  | fuel + 1, s, sn => by
    unfold admitted firstAt
    by_cases hl : s ≥ m.lim
    · rw [if_pos hl, if_pos hl]; exact ⟨sn, rfl⟩
    · rw [if_neg hl, if_neg hl]
      obtain ⟨sn', e⟩ := h (m.text.getD s 0) sn
      rw [e]
      cases hp : P (m.text.getD s 0) with
      | true => exact ⟨sn', rfl⟩
      | false => simpa using admitted_eq h fuel (s + 1) sn'
noncomputable def PN (c : Nat) : Bool := decide (c ≤ 31) || c == 127
noncomputable def PV' (c : Nat) : Bool := decide (c ≤ 8) || (decide (10 ≤ c) && decide (c ≤ 31)) || c == 127
noncomputable def P2 (c : Nat) : Bool := c == 10 || c == 13
theorem inSetN (c : Nat) (sn : Sre.Seen) : ∃ sn', inSet codeN c codeN.size 5 true sn = .ok (PN c, sn') := by
  have e : inSet codeN c codeN.size 5 true sn = (if (decide (0 ≤ c) && decide (c ≤ 31)) = true then .ok (true, sn.add 22) else if (c == 127) = true then .ok (true, (sn.add 22).add 16) else .ok (false, ((sn.add 22).add 16).add 0)) := rfl
  rw [e]
  unfold PN
  by_cases h : c ≤ 31
  · rw [if_pos (by simp [h])]; have z : (decide (c ≤ 31) || c == 127) = true := by simp [h]
    rw [z]; exact ⟨_, rfl⟩
  · rw [if_neg (by simp [h])]
    by_cases h2 : (c == 127) = true
    · rw [if_pos h2, h2, Bool.or_true]; exact ⟨_, rfl⟩
    · rw [if_neg h2]; exact ⟨((sn.add 22).add 16).add 0, by simp at h2; simp [h, h2]⟩
theorem inSet2 (c : Nat) (sn : Sre.Seen) : ∃ sn', inSet code2 c code2.size 5 true sn = .ok (P2 c, sn') := by
  have e : inSet code2 c code2.size 5 true sn = (if (c == 10) = true then .ok (true, sn.add 16) else if (c == 13) = true then .ok (true, (sn.add 16).add 16) else .ok (false, ((sn.add 16).add 16).add 0)) := rfl
  rw [e]
  unfold P2
  by_cases h : (c == 10) = true
  · rw [if_pos h, h, Bool.true_or]; exact ⟨_, rfl⟩
  · rw [if_neg h]
    by_cases h2 : (c == 13) = true
    · rw [if_pos h2, h2, Bool.or_true]; exact ⟨_, rfl⟩
    · rw [if_neg h2]; exact ⟨((sn.add 16).add 16).add 0, by simp at h h2; simp [h, h2]⟩
theorem charsetV : ∀ c < 256, (codeV.getD (5 + (1 + c / 32)) 0).testBit (c % 32) = PV' c := by decide +kernel
theorem inSetV (c : Nat) (sn : Sre.Seen) : ∃ sn', inSet codeV c codeV.size 5 true sn = .ok (PV' c, sn') := by
  have e : inSet codeV c codeV.size 5 true sn = (if (decide (c < 256) && (codeV.getD (5 + (1 + c / 32)) 0).testBit (c % 32)) = true then .ok (true, sn.add 9) else .ok (false, (sn.add 9).add 0)) := rfl
  rw [e]
  by_cases h : c < 256
  · rw [charsetV c h]
    cases hp : PV' c with
    | true => rw [if_pos (by simp [h])]; exact ⟨_, rfl⟩
    | false => rw [if_neg (by simp)]; exact ⟨_, rfl⟩
  · rw [if_neg (by simp [h])]
    have : PV' c = false := by unfold PV'; simp; lia
    rw [this]; exact ⟨_, rfl⟩

theorem charsetV17 : ∀ c < 256, (codeV.getD (17 + (1 + c / 32)) 0).testBit (c % 32) = PV' c := by decide +kernel
theorem inSetV17 (c : Nat) (sn : Sre.Seen) : ∃ sn', inSet codeV c codeV.size 17 true sn = .ok (PV' c, sn') := by
  have e : inSet codeV c codeV.size 17 true sn = (if (decide (c < 256) && (codeV.getD (17 + (1 + c / 32)) 0).testBit (c % 32)) = true then .ok (true, sn.add 9) else .ok (false, (sn.add 9).add 0)) := rfl
  rw [e]
  by_cases h : c < 256
  · rw [charsetV17 c h]
    cases hp : PV' c with
    | true => rw [if_pos (by simp [h])]; exact ⟨_, rfl⟩
    | false => rw [if_neg (by simp)]; exact ⟨_, rfl⟩
  · rw [if_neg (by simp [h])]
    have : PV' c = false := by unfold PV'; simp; lia
    rw [this]; exact ⟨_, rfl⟩

section
variable {text : Array Nat} {lim start pos handed w s : Nat} {o : Bool} {fr : List Sre.Frame} {sn : Sre.Seen}
noncomputable def frS (pc s : Nat) (first : Bool) : Sre.Frame := { wait := .nextStart, pc := pc, pos := s, outermost := first }
noncomputable def frB (alt s : Nat) (first : Bool) : Sre.Frame := { wait := .nextBranch, pc := alt, pos := s, outermost := first, kept := { lastmark := -1, lastindex := -1, whole := false, marks := #[] } }
noncomputable def frL (s : Nat) (first : Bool) : Sre.Frame := { wait := .lookNot, pc := 26, pos := s, outermost := first, kept := { lastmark := -1, lastindex := -1, whole := false, marks := #[] } }
theorem b0 : (mk code2 text lim s 10 s s true [frS 10 s true] 1 none sn).step = mk code2 text lim s 12 s s true [frB 11 s true, frS 10 s true] 2 none (sn.add 7) := rfl
theorem lit2 {pc c : Nat} (h : (pc, c) ∈ [(12, 13), (14, 10), (19, 10), (24, 13), (29, 10)]) : (mk code2 text lim start pc pos handed o fr w none sn).step = (if pos ≥ lim then mk code2 text lim start pc pos handed o fr w (some false) (sn.add 16) else
    cond (text.getD pos 0 == c) (mk code2 text lim start (pc + 2) (pos + 1) handed o fr w none (sn.add 16)) (mk code2 text lim start pc pos handed o fr w (some false) (sn.add 16))) := by
  have key : ∀ pc c, ops[code2.getD pc 0]? = some .LITERAL → pc < code2.size → code2.getD (pc + 1) 0 = c → code2.getD pc 0 = 16 → itemWidth code2 pc = 2 → (mk code2 text lim start pc pos handed o fr w none sn).step = (if pos ≥ lim then mk code2 text lim start pc pos handed o fr w (some false) (sn.add 16) else
    cond (text.getD pos 0 == c) (mk code2 text lim start (pc + 2) (pos + 1) handed o fr w none (sn.add 16)) (mk code2 text lim start pc pos handed o fr w (some false) (sn.add 16))) := by
    intro pc c h1 h2 h3 h4 h5
    have e : (mk code2 text lim start pc pos handed o fr w none sn).step = if pc < code2.size then (mk code2 text lim start pc pos handed o fr w none sn).exec else (mk code2 text lim start pc pos handed o fr w none sn).stick "code:ran-off" := rfl
    rw [e, if_pos h2]
    unfold M.exec
    have e2 : (mk code2 text lim start pc pos handed o fr w none sn).word 0 = 16 := h4
    rw [e2]
    have e3 : ops[16]? = some .LITERAL := rfl
    rw [e3]
    show (if pos ≥ lim then mk code2 text lim start pc pos handed o fr w (some false) (sn.add 16) else match accepts code2 pc (text.getD pos 0) (sn.add 16) with
      | .error why => (mk code2 text lim start pc pos handed o fr w none (sn.add 16)).stick why
      | .ok (false, sx) => mk code2 text lim start pc pos handed o fr w (some false) sx
      | .ok (true, sx) => mk code2 text lim start (pc + itemWidth code2 pc) (pos + 1) handed o fr w none sx) = _
    have e4 : accepts code2 pc (text.getD pos 0) (sn.add 16) = .ok (text.getD pos 0 == c, sn.add 16) := by
      unfold accepts; rw [h1, h3]
    rw [e4, h5]
    generalize (text.getD pos 0 == c) = b
    cases b <;> rfl
  simp only [List.mem_cons, Prod.mk.injEq, List.not_mem_nil, or_false] at h
  rcases h with ⟨rfl, rfl⟩ | ⟨rfl, rfl⟩ | ⟨rfl, rfl⟩ | ⟨rfl, rfl⟩ | ⟨rfl, rfl⟩ <;> exact key _ _ rfl (by decide) rfl rfl rfl
theorem jmp16 : (mk code2 text lim start 16 pos handed o fr w none sn).step = mk code2 text lim start 35 pos handed o fr w none (sn.add 15) := rfl
theorem jmp21 : (mk code2 text lim start 21 pos handed o fr w none sn).step = mk code2 text lim start 35 pos handed o fr w none (sn.add 15) := rfl
theorem jmp32 : (mk code2 text lim start 32 pos handed o fr w none sn).step = mk code2 text lim start 35 pos handed o fr w none (sn.add 15) := rfl
theorem suc35 : (mk code2 text lim start 35 pos handed o fr w none sn).step = mk code2 text lim start 35 pos pos o fr w (some true) (sn.add 1) := by cases o <;> rfl
theorem bYes {alt pc : Nat} {first : Bool} : (mk code2 text lim start pc pos handed o (frB alt s first :: fr) 2 (some true) sn).step = mk code2 text lim start alt s handed first fr 1 (some true) sn := rfl
theorem sYes {pc p : Nat} {first : Bool} {code : Array Nat} : (mk code text lim start pc pos handed o [frS p s first] 1 (some true) sn).step = mk code text lim start p s handed first [] 0 (some true) sn := rfl
theorem endYes {pc : Nat} {code : Array Nat} : Ends 1 (mk code text lim start pc pos handed o [] 0 (some true) sn) (some (start, handed)) := ⟨trivial, rfl, rfl⟩
theorem bNo1 {pc : Nat} : (mk code2 text lim start pc pos handed o [frB 11 s true, frS 10 s true] 2 (some false) sn).step = mk code2 text lim start 19 s s true [frB 18 s true, frS 10 s true] 2 none sn := rfl
theorem bNo2 {pc : Nat} : (mk code2 text lim start pc pos handed o [frB 18 s true, frS 10 s true] 2 (some false) sn).step = mk code2 text lim start 24 s s true [frB 23 s true, frS 10 s true] 2 none sn := rfl
theorem look0 {first : Bool} : (mk code2 text lim start 26 pos handed first fr 2 none sn).step = mk code2 text lim start 29 pos pos false (frL pos first :: fr) 3 none (sn.add 5) := rfl
theorem lNo {pc : Nat} {first : Bool} : (mk code2 text lim start pc pos handed o (frL s first :: fr) 3 (some false) sn).step = mk code2 text lim start 32 s handed first fr 2 none sn := rfl
theorem fin35 {alt : Nat} : Ends 4 (mk code2 text lim s 35 pos handed true [frB alt s true, frS 10 s true] 2 none sn) (some (s, pos)) := by
  refine Ends.step ?_; rw [suc35]
  refine Ends.step ?_; rw [bYes]
  refine Ends.step ?_; rw [sYes]
  exact endYes
noncomputable def end2 (text : Array Nat) (lim s : Nat) : Nat := if (text.getD s 0 == 13 && (decide (s + 1 < lim) && text.getD (s + 1) 0 == 10)) = true then s + 2 else s + 1
theorem ends2 (hs : s < lim) (hc : P2 (text.getD s 0) = true) : Ends 20 (mk code2 text lim s 10 s s true [frS 10 s true] 1 none sn) (some (s, end2 text lim s)) := by
  unfold P2 at hc
  refine Ends.step ?_; rw [b0]
  refine Ends.step ?_; rw [lit2 (c := 13) (by simp), if_neg (by lia)]
  by_cases h13 : text.getD s 0 = 13
  · rw [h13]
    show Ends 18 (mk code2 text lim s 14 (s + 1) s true [frB 11 s true, frS 10 s true] 2 none _) _
    have third : ∀ sn pc pos handed o, Ends 17 (mk code2 text lim s pc pos handed o [frB 11 s true, frS 10 s true] 2 (some false) sn) (some (s, s + 1)) ∨ ¬ (s + 1 ≥ lim ∨ text.getD (s + 1) 0 ≠ 10) := by
      intro sn pc pos handed o
      by_cases hn : s + 1 ≥ lim ∨ text.getD (s + 1) 0 ≠ 10
      · left
        refine Ends.step ?_; rw [bNo1]
        refine Ends.step ?_; rw [lit2 (c := 10) (by simp), if_neg (by lia), h13]
        refine Ends.step ?_
        show Ends 14 (mk code2 text lim s 19 s s true [frB 18 s true, frS 10 s true] 2 (some false) _).step _
        rw [bNo2]
        refine Ends.step ?_; rw [lit2 (c := 13) (by simp), if_neg (by lia), h13]
        refine Ends.step ?_
        show Ends 12 (mk code2 text lim s 26 (s + 1) s true [frB 23 s true, frS 10 s true] 2 none _).step _
        rw [look0]
        refine Ends.step ?_; rw [lit2 (c := 10) (by simp)]
        have hno : ∀ sn, Ends 11 (mk code2 text lim s 29 (s + 1) (s + 1) false [frL (s + 1) true, frB 23 s true, frS 10 s true] 3 (some false) sn) (some (s, s + 1)) := by
          intro sn
          refine Ends.step ?_; rw [lNo]
          refine Ends.step ?_; rw [jmp32]
          exact fin35.more (by lia)
        by_cases hl : s + 1 ≥ lim
        · rw [if_pos hl]; exact hno _
        · rw [if_neg hl]
          have : (text.getD (s + 1) 0 == 10) = false := by
            rw [beq_eq_false_iff_ne]; exact hn.resolve_left hl
          rw [this]; exact hno _
      · exact .inr hn
    refine Ends.step ?_; rw [lit2 (c := 10) (by simp)]
    unfold end2
    by_cases hn : s + 1 ≥ lim ∨ text.getD (s + 1) 0 ≠ 10
    · have hz : ¬ ((text.getD s 0 == 13 && (decide (s + 1 < lim) && text.getD (s + 1) 0 == 10)) = true) := by
        simp only [Bool.and_eq_true, decide_eq_true_eq, beq_iff_eq]; lia
      rw [if_neg hz]
      by_cases hl : s + 1 ≥ lim
      · rw [if_pos hl]
        exact (third _ _ _ _ _).resolve_right fun q => q hn
      · rw [if_neg hl]
        have : (text.getD (s + 1) 0 == 10) = false := by
          rw [beq_eq_false_iff_ne]; exact hn.resolve_left hl
        rw [this]
        exact (third _ _ _ _ _).resolve_right fun q => q hn
    · have h1 : s + 1 < lim := by lia
      have h2 : text.getD (s + 1) 0 = 10 := by
        by_cases q : text.getD (s + 1) 0 = 10
        · exact q
        · exact absurd (.inr q) hn
      rw [if_neg (show ¬ s + 1 ≥ lim by lia), if_pos (by rw [h13, h2]; simp [h1]), h2]
      refine Ends.step ?_
      show Ends 16 (mk code2 text lim s 16 (s + 2) s true [frB 11 s true, frS 10 s true] 2 none _).step _
      rw [jmp16]
      exact fin35.more (by lia)
  · have h10 : text.getD s 0 = 10 := by
      simp only [Bool.or_eq_true, beq_iff_eq] at hc; lia
    have he : end2 text lim s = s + 1 := by unfold end2; rw [if_neg (by rw [h10]; simp)]
    rw [he, h10]
    refine Ends.step ?_
    show Ends 17 (mk code2 text lim s 12 s s true [frB 11 s true, frS 10 s true] 2 (some false) _).step _
    rw [bNo1]
    refine Ends.step ?_; rw [lit2 (c := 10) (by simp), if_neg (by lia), h10]
    refine Ends.step ?_
    show Ends 15 (mk code2 text lim s 21 (s + 1) s true [frB 18 s true, frS 10 s true] 2 none _).step _
    rw [jmp21]
    exact fin35.more (by lia)

set_option tactic.hygienic true in
theorem searchSet {code : Array Nat} {P : Nat → Bool} {pc k : Nat} {e : Nat → Nat} (hP : ∀ c sn, ∃ sn', inSet code c code.size 5 true sn = .ok (P c, sn'))
    (hf : ∀ p, forSearch code text 0 p lim false = (if (decide (p > lim) || decide (lim - p < 1)) = true then { mk code text lim p pc p p true [] 0 (some false) (({} : Sre.Seen).add 14) with lastStart := 0 } else
      match admitted (mk code text lim p pc p p true [] 0 none (({} : Sre.Seen).add 14)) (lim + 1 - p) p (({} : Sre.Seen).add 14) with
      | .ok (some s, sx) => mk code text lim s pc s s true [frS pc s true] 1 none sx
      | .ok (none, sx) => mk code text lim p pc p p true [] 0 (some false) sx
      | .error why => (mk code text lim p pc p p true [] 0 none (({} : Sre.Seen).add 14)).stick why))
    (hk : ∀ s sn, s < lim → P (text.getD s 0) = true → Ends k (mk code text lim s pc s s true [frS pc s true] 1 none sn) (some (s, e s))) (k0 : 0 < k) (p : Nat) :
    Ends k (forSearch code text 0 p lim false) (if p < lim then (firstAt P text lim (lim + 1 - p) p).map fun s => (s, e s) else none) := by
  rw [hf]
  by_cases h : p < lim
  · have hc : (decide (p > lim) || decide (lim - p < 1)) = false := by
      rw [Bool.or_eq_false_iff, decide_eq_false_iff_not, decide_eq_false_iff_not]; lia
    rw [if_pos h, if_neg (by rw [hc]; decide)]
    obtain ⟨sn', ea⟩ := admitted_eq (P := P) (m := mk code text lim p pc p p true [] 0 none (({} : Sre.Seen).add 14)) hP (lim + 1 - p) p (({} : Sre.Seen).add 14)
    rw [ea]
    show Ends k (match (Except.ok (firstAt P text lim (lim + 1 - p) p, sn') : Except String (Option Nat × Sre.Seen)) with
      | .ok (some s, sx) => mk code text lim s pc s s true [frS pc s true] 1 none sx
      | .ok (none, sx) => mk code text lim p pc p p true [] 0 (some false) sx
      | .error why => (mk code text lim p pc p p true [] 0 none (({} : Sre.Seen).add 14)).stick why) _
    have hfi : ∀ fuel s s', firstAt P text lim fuel s = some s' → s' < lim ∧ P (text.getD s' 0) = true := by
      intro fuel
      induction fuel with
      | zero => intro s s' h; cases h
      | succ f ih =>
        intro s s' h
        unfold firstAt at h
        split at h
        · cases h
        · split at h
          · cases h; rename_i h1 h2; exact ⟨by lia, h2⟩
          · exact ih _ _ h
    cases hx : firstAt P text lim (lim + 1 - p) p with
    | none => exact Ends.more (k := 1) (r := none) trivial k0
    | some s => exact hk s sn' (hfi _ _ _ hx).1 (hfi _ _ _ hx).2
  · have hc : (decide (p > lim) || decide (lim - p < 1)) = true := by
      rw [Bool.or_eq_true, decide_eq_true_eq, decide_eq_true_eq]; lia
    rw [if_neg h, if_pos hc]
    exact Ends.more (k := 1) (r := none) trivial k0
theorem search2 (p : Nat) : Ends 20 (forSearch code2 text 0 p lim false) (if p < lim then (firstAt P2 text lim (lim + 1 - p) p).map fun s => (s, end2 text lim s) else none) :=
  searchSet (pc := 10) inSet2 (fun p => rfl) (fun s sn h1 h2 => ends2 h1 h2) (by decide) p
theorem inN_step (sn : Sre.Seen) (hs : s < lim) (hc : PN (text.getD s 0) = true) : Ends 4 (mk codeN text lim s 11 s s true [frS 11 s true] 1 none sn) (some (s, s + 1)) := by
  refine Ends.step ?_
  have e : (mk codeN text lim s 11 s s true [frS 11 s true] 1 none sn).step = (if s ≥ lim then mk codeN text lim s 11 s s true [frS 11 s true] 1 (some false) (sn.add 13) else match inSet codeN (text.getD s 0) codeN.size 13 true (sn.add 13) with
      | .error why => (mk codeN text lim s 11 s s true [frS 11 s true] 1 none (sn.add 13)).stick why
      | .ok (false, sx) => mk codeN text lim s 11 s s true [frS 11 s true] 1 (some false) sx
      | .ok (true, sx) => mk codeN text lim s 19 (s + 1) s true [frS 11 s true] 1 none sx) := rfl
  rw [e, if_neg (by lia)]
  have e2 : ∀ c sn, ∃ sn', inSet codeN c codeN.size 13 true sn = .ok (PN c, sn') := fun c sn => inSetN c sn
  obtain ⟨sn', e3⟩ := e2 (text.getD s 0) (sn.add 13)
  rw [e3, hc]
  refine Ends.step ?_
  show Ends 2 (mk codeN text lim s 19 (s + 1) (s + 1) true [frS 11 s true] 1 (some true) (sn'.add 1)) _
  refine Ends.step ?_; rw [sYes]
  exact endYes
theorem inV_step (sn : Sre.Seen) (hs : s < lim) (hc : PV' (text.getD s 0) = true) : Ends 4 (mk codeV text lim s 15 s s true [frS 15 s true] 1 none sn) (some (s, s + 1)) := by
  refine Ends.step ?_
  have e : (mk codeV text lim s 15 s s true [frS 15 s true] 1 none sn).step = (if s ≥ lim then mk codeV text lim s 15 s s true [frS 15 s true] 1 (some false) (sn.add 13) else match inSet codeV (text.getD s 0) codeV.size 17 true (sn.add 13) with
      | .error why => (mk codeV text lim s 15 s s true [frS 15 s true] 1 none (sn.add 13)).stick why
      | .ok (false, sx) => mk codeV text lim s 15 s s true [frS 15 s true] 1 (some false) sx
      | .ok (true, sx) => mk codeV text lim s 27 (s + 1) s true [frS 15 s true] 1 none sx) := rfl
  rw [e, if_neg (by lia)]
  have e2 : ∀ c sn, ∃ sn', inSet codeV c codeV.size 17 true sn = .ok (PV' c, sn') := fun c sn => inSetV17 c sn
  obtain ⟨sn', e3⟩ := e2 (text.getD s 0) (sn.add 13)
  rw [e3, hc]
  refine Ends.step ?_
  show Ends 2 (mk codeV text lim s 27 (s + 1) (s + 1) true [frS 15 s true] 1 (some true) (sn'.add 1)) _
  refine Ends.step ?_; rw [sYes]
  exact endYes
theorem searchN (p : Nat) : Ends 4 (forSearch codeN text 0 p lim false) (if p < lim then (firstAt PN text lim (lim + 1 - p) p).map fun s => (s, s + 1) else none) :=
  searchSet (pc := 11) inSetN (fun p => rfl) (fun s sn h1 h2 => inN_step sn h1 h2) (by decide) p
theorem searchV (p : Nat) : Ends 4 (forSearch codeV text 0 p lim false) (if p < lim then (firstAt PV' text lim (lim + 1 - p) p).map fun s => (s, s + 1) else none) :=
  searchSet (pc := 15) inSetV (fun p => rfl) (fun s sn h1 h2 => inV_step sn h1 h2) (by decide) p
end
end

section
open PySem PySem.W PyProof.Rows
open PySem.Sre PySem.Sre.M PySem.Builtin PySem.Builtin.Re
set_option autoImplicit false
set_option linter.unusedVariables false
set_option maxRecDepth 100000
set_option tactic.hygienic false
section
variable {prog : Program} {w : World} {A : Around} {E : Value → Shared → Prop} {s : Shared}
theorem wp_drive {turns : Nat} : ∀ {m : M} {k : Nat} {r : Option (Nat × Nat)} {Q : M → Shared → Prop} {s : Shared}, Ends k m r → k ≤ 4 * turns → 0 < turns → Q (runFor k m) s → wpAny (model prog w) A (reDrive turns m) Q E s := by
  induction turns with
  | zero => intro m k r Q s _ _ h; exact absurd h (Nat.lt_irrefl _)
  | succ turns ih =>
    intro m k r Q s h hk _ hq
    show wpAny _ _ (if (m.runFor 4).outcome.isSome = true then pure (m.runFor 4) else do rule "sre.turn"; reDrive turns (m.runFor 4)) Q E s
    by_cases hd : (m.runFor 4).outcome.isSome = true
    · rw [if_pos hd]
      have e : runFor 4 m = runFor k m := by
        rcases Nat.le_total k 4 with q | q
        · have : 4 = k + (4 - k) := by lia
          rw [this, runFor_add, runFor_done _ h.isSome]
        · have : k = 4 + (k - 4) := by lia
          rw [this, runFor_add, runFor_done _ hd]
      rw [e]; exact wpAny_pure hq
    · rw [if_neg hd]
      have hk4 : 4 < k := by
        rcases Nat.lt_or_ge 4 k with q | q
        · exact q
        · have e : runFor 4 m = runFor k m := by
            have : 4 = k + (4 - k) := by lia
            rw [this, runFor_add, runFor_done _ h.isSome]
          rw [e] at hd; exact absurd h.isSome hd
      have e : runFor k m = runFor (k - 4) (runFor 4 m) := by
        rw [← runFor_add]; congr 1; lia
      refine wpAny_bind (wpAny_rule (ih (r := r) (k := k - 4) ?_ (by lia) (by lia) (by rw [← e]; exact hq)))
      unfold Ends at h ⊢
      rw [← e]; exact h
theorem wp_runEnd {m : M} {k : Nat} {r : Option (Nat × Nat)} {Q : Option M → Shared → Prop} (h : Ends k m r) (hk : k ≤ 2 ^ 64)
    (h0 : r = none → Q none s) (h1 : ∀ a e m', r = some (a, e) → m'.start = a → m'.handed = e → m'.marks = m'.marks → Q (some m') s) : wpAny (model prog w) A (reRunToEnd m) Q E s := by
  unfold reRunToEnd
  refine wpAny_bind (wp_drive h (by lia) (by decide) ?_)
  refine wpAny_bind (wpAny_forIn_list _ (fun _ _ s' => s' = s) _ (fun x rest b s' hs => ?_) (fun b s' hs => ?_) _ _ rfl)
  · subst hs
    split
    · exact wpAny_bind (wpAny_rule (wpAny_pure rfl))
    · exact wpAny_pure rfl
  · subst hs
    unfold Ends at h
    cases ho : (runFor k m).outcome with
    | none => rw [ho] at h; cases r <;> simp at h
    | some o =>
      rw [ho] at h
      cases r with
      | none =>
        cases o with
        | failed => exact wpAny_pure (h0 rfl)
        | matched => exact h.elim
        | stuck _ => exact h.elim
      | some x =>
        obtain ⟨a, e⟩ := x
        cases o with
        | failed => exact h.1.elim
        | matched => exact wpAny_pure (h1 a e _ rfl h.2.1 h.2.2 rfl)
        | stuck _ => exact h.1.elim
structure IsPat (h : Heap) (P : Addr) (code : Array Nat) : Prop where
  ex : ∃ T o oT vs cs n, h.get? P = some o ∧ o.cls = .type "re.Pattern" ∧ o.dict = none ∧ o.data = .fields vs ∧ (reRawNat (vs.getD 6 .none) = 0) ∧ reRawNat (vs.getD 2 .none) = 0 ∧ vs.getD 5 .none = .ref T ∧ h.get? T = some oT ∧ oT.data = .seq cs n ∧ (cs.map reRawOf).map Int.toNat = code
theorem IsPat.keeps {h h' : Heap} {P : Addr} {code : Array Nat} (x : IsPat h P code) (k : Keeps h h') : IsPat h' P code := by
  obtain ⟨T, o, oT, vs, cs, n, e1, r2, r3, r4, r5, r6, r7, e2, r8⟩ := x.ex
  exact ⟨T, o, oT, vs, cs, n, k _ _ e1, r2, r3, r4, r5, r6, r7, k _ _ e2, r8⟩
theorem IsPat.type {P : Addr} {code : Array Nat} (x : IsPat s.heap P code) : s.TypeIs (.ref P) "re.Pattern" := by
  obtain ⟨T, o, oT, vs, cs, n, e1, r2, r3, _⟩ := x.ex
  exact ⟨o, e1, r2⟩
theorem wp_target {P : Addr} {code : Array Nat} {x : PySem.Str} {t : Tok} {Q : ReTarget → Shared → Prop} (hp : IsPat s.heap P code)
    (h : Q { pattern := .ref P, string := .str x t, code := code, text := x.cps, kind := 0, groups := 0, pos := 0, lim := x.cps.size } s) : wpAny (model prog w) A (reWholeTarget (.ref P) (.str x t)) Q E s := by
  obtain ⟨T, o, oT, vs, cs, n, e1, r2, r3, r4, r5, r6, r7, e2, r8, r9⟩ := hp.ex
  unfold reWholeTarget
  refine wpAny_bind (wpAny_fieldsOf e1 r4 ?_)
  refine wpAny_bind (m := reTextOf (.str x t)) (wpAny_pure (a := (x.cps, 0)) ?_)
  show wpAny _ _ (if (reRawNat (vs.getD 6 .none) == 0 && (0 : Nat) == 1) = true then _ else _) _ _ _
  rw [r5, if_neg (by decide)]
  show wpAny _ _ (if ((0 : Nat) == 1 && (0 : Nat) == 0) = true then _ else _) _ _ _
  rw [if_neg (by decide)]
  refine wpAny_bind (m := reNoCollectionInside _ 0) (wpAny_pure (a := ()) ?_)
  rw [r7]
  refine wpAny_bind (m := reRawItems (.ref T)) ?_
  unfold reRawItems
  refine wpAny_bind (wpAny_seqItems e2 r8 (wpAny_pure ?_))
  show wpAny _ _ (pure ({ pattern := .ref P, string := .str x t, code := ((cs.map reRawOf).map Int.toNat), text := x.cps, kind := 0, groups := reRawNat (vs.getD 2 .none), pos := 0, lim := x.cps.size } : ReTarget)) _ _ _
  rw [r9, r6]
  exact wpAny_pure h
theorem wp_targetS {P : Addr} {code : Array Nat} {x : PySem.Str} {t : Tok} {Q : ReTarget → Shared → Prop} (hp : IsPat s.heap P code) (hx : x.length < 2 ^ 62)
    (h : Q { pattern := .ref P, string := .str x t, code := code, text := x.cps, kind := 0, groups := 0, pos := 0, lim := x.cps.size } s) : wpAny (model prog w) A (reTarget "re.Pattern.search" "search" ⟨[.ref P, .str x t], []⟩) Q E s := by
  obtain ⟨T, o, oT, vs, cs, n, e1, r2, r3, r4, r5, r6, r7, e2, r8, r9⟩ := hp.ex
  unfold reTarget
  refine wpAny_bind (m := reNamed _ "search" ["string", "pos", "endpos"] 1 [Value.str x t] []) (wpAny_pure (a := [some (Value.str x t), none, none]) ?_)
  refine wpAny_bind (wpAny_pure (a := (0 : Int)) ?_)
  refine wpAny_bind (wpAny_pure (a := (2 ^ 63 - 1 : Int)) ?_)
  refine wpAny_bind (wpAny_fieldsOf e1 r4 ?_)
  refine wpAny_bind (m := reTextOf (.str x t)) (wpAny_pure (a := (x.cps, 0)) ?_)
  show wpAny _ _ (if (reRawNat (vs.getD 6 .none) == 0 && (0 : Nat) == 1) = true then _ else _) _ _ _
  rw [r5, if_neg (by decide)]
  show wpAny _ _ (if ((0 : Nat) == 1 && (0 : Nat) == 0) = true then _ else _) _ _ _
  rw [if_neg (by decide)]
  refine wpAny_bind (m := reNoCollectionInside _ 0) (wpAny_pure (a := ()) ?_)
  rw [r7]
  refine wpAny_bind (m := reRawItems (.ref T)) ?_
  unfold reRawItems
  refine wpAny_bind (wpAny_seqItems e2 r8 (wpAny_pure ?_))
  show wpAny _ _ (pure ({ pattern := .ref P, string := .str x t, code := ((cs.map reRawOf).map Int.toNat), text := x.cps, kind := 0, groups := reRawNat (vs.getD 2 .none), pos := min (0 : Int).toNat x.cps.size, lim := min (2 ^ 63 - 1 : Int).toNat x.cps.size } : ReTarget)) _ _ _
  have h1 : min (0 : Int).toNat x.cps.size = 0 := by simp
  have h2 : min (2 ^ 63 - 1 : Int).toNat x.cps.size = x.cps.size := by
    have : x.cps.size = x.length := rfl
    lia
  rw [r9, r6, h1, h2]
  exact wpAny_pure h
theorem call_search {P : Addr} {code : Array Nat} {x : PySem.Str} {t : Tok} {k : Nat} {r : Option (Nat × Nat)} {Q : Value → Shared → Prop} (hp : IsPat s.heap P code) (hx : x.length < 2 ^ 62) (he : Ends k (forSearch code x.cps 0 0 x.cps.size false) r) (hk : k ≤ 2 ^ 64)
    (h0 : r = none → Q .none s) (h1 : r ≠ none → ∀ h' a o, Keeps s.heap h' → h'.get? a = some o → o.cls = .type "re.Match" → Q (.ref a) { s with heap := h' }) :
    wpAny (model prog w) A (call (.builtin "re.Pattern.search") [.ref P, .str x t]) Q E s := by
  refine wpAny_call (codeAny_call_builtin slot_pat_search.plain entry_pat_search (slot_pat_search.check _ _ _ _ _ _ _ _ hp.type (args_pat_search _ _) ?_))
  unfold Builtin.«re.Pattern.search»
  refine wpAny_bind (wp_targetS hp hx ?_)
  unfold reAnswer
  refine wpAny_bind (wp_runEnd he hk (fun e => ?_) fun a e m' hr h3 h4 _ => ?_)
  · exact wpAny_pure (h0 e)
  · refine wpAny_bind ?_
    unfold reNewMatch
    refine wpAny_bind (m := newTuple _) (wpAny_newObj_type ?_ (by show 2 ≤ sizeLine; rw [sizeLine_eq]; lia))
    refine wpAny_newObj_type (wpAny_pure ?_) (by show 6 ≤ sizeLine + 2; rw [sizeLine_eq]; lia)
    refine h1 (by rw [hr]; simp) _ _ _ ((Keeps.push _).trans (Keeps.push _)) (Heap.get?_push_size _ rfl) rfl
end
end

section
open PySem PySem.W PyProof.Rows
open PySem.Sre PySem.Sre.M PySem.Builtin PySem.Builtin.Re
set_option autoImplicit false
set_option linter.unusedVariables false
set_option maxRecDepth 100000
set_option tactic.hygienic false
theorem join_nil_cps : ∀ texts : List PySem.Str, (PySem.Str.join ⟨#[]⟩ texts).cps.toList = (texts.map fun x => x.cps.toList).flatten
  | [] => rfl
  | [x] => by simp [PySem.Str.join]
  | x :: y :: r => by
    have h := join_nil_cps (y :: r)
    show ((x.cps ++ #[]) ++ (PySem.Str.join ⟨#[]⟩ (y :: r)).cps).toList = _
    rw [List.map_cons, List.flatten_cons, ← h]
    simp
section
variable {prog : Program} {w : World} {A : Around} {E : Value → Shared → Prop}
structure SubOk (code : Array Nat) (x repl : PySem.Str) (k : Nat) (find : Nat → Option (Nat × Nat)) (rest : Nat → List Nat) : Prop where
  ends : ∀ p, p ≤ x.cps.size → Ends k (forSearch code x.cps 0 p x.cps.size false) (find p)
  kk : k ≤ 2 ^ 64
  no : ∀ p, p ≤ x.cps.size → find p = none → rest p = x.cps.toList.drop p
  yes : ∀ p a e, p ≤ x.cps.size → find p = some (a, e) → p ≤ a ∧ a < e ∧ e ≤ x.cps.size ∧ rest p = (x.cps.toList.drop p).take (a - p) ++ repl.cps.toList ++ rest e
  xs : x.length ≤ 100000
  rs : repl.length ≤ 10
theorem upd_push {h : Heap} {D : Addr} {vs : List Value} {n : Nat} {v : Value} (e : h.get? D = some ⟨.type "list", none, .seq vs.toArray n, #[]⟩) :
    (h.update D (Obj.mapSeq fun xs => xs.push v)).get? D = some ⟨.type "list", none, .seq (vs ++ [v]).toArray (n + 1), #[]⟩ := by
  rw [Heap.get?_update_self _ e rfl]
  simp [Obj.mapSeq]
theorem keeps_upd {h₀ h : Heap} {D : Addr} {f : Obj → Obj} (k : Keeps h₀ h) (n : h₀.get? D = none) : Keeps h₀ (h.update D f) := fun b o e => by
  have : D ≠ b := fun q => by subst q; rw [n] at e; cases e
  rw [Heap.get?_update_other h f this]; exact k b o e
theorem strs_snoc (l : List (PySem.Str × Tok)) (x : PySem.Str) (t : Tok) : strValues l ++ [.str x t] = strValues (l ++ [(x, t)]) := by simp [strValues]
theorem sub_loop {code : Array Nat} {x repl : PySem.Str} {k : Nat} {find : Nat → Option (Nat × Nat)} {rest : Nat → List Nat} (S : SubOk code x repl k find rest) {P D : Addr} {t u : Tok} {Q : Value → Shared → Prop} {s₀ : Shared} (hD : s₀.heap.get? D = none) (hP : IsPat s₀.heap P code)
    (h : ∀ h' tk t', Keeps s₀.heap h' → Q (.str ⟨(rest 0).toArray⟩ t') { s₀ with heap := h', toks := tk }) :
    ∀ (f p n : Nat) (s : Shared) (l : List (PySem.Str × Tok)) (m : Nat), x.cps.size - p < f → p ≤ x.cps.size → s = { s₀ with heap := s.heap, toks := s.toks } → Keeps s₀.heap s.heap → s.heap.get? D = some ⟨.type "list", none, .seq (strValues l).toArray m, #[]⟩ →
      (l.map fun y => y.1.cps.toList).flatten ++ rest p = rest 0 → l.length ≤ 2 * p → (l.map fun y => y.1.length).sum ≤ 11 * p →
      codeAny (model prog w) A (.builtin "re.Pattern.sub.loop" ⟨[.ref P, .str x t, .str repl u, rawInt 0, rawInt 0, rawInt n, rawInt p, rawInt p, .bool false, .ref D, .bool false], []⟩) (wants Q E) s := by
  intro f
  induction f with
  | zero => intro p n s l m hf; exact absurd hf (Nat.not_lt_zero _)
  | succ f ih =>
    intro p n s l m hf hp es hk hl hfl hlen hsum
    refine codeAny_builtin entry_pat_loop ?_
    rw [Around.under_plainId (id := "re.Pattern.sub.loop") (by decide +kernel) _]
    unfold Builtin.«re.Pattern.sub.loop»
    refine wpAny_bind (wp_target (hP.keeps hk) ?_)
    refine wpAny_bind (m := reLiteralCannotBeTurned (.str repl u)) (wpAny_pure (a := ()) ?_)
    refine wpAny_bind ?_
    refine wp_runEnd (S.ends p hp) S.kk (fun e => ?_) fun a e m' hr h3 h4 _ => ?_
    · have hno := S.no p hp e
      have fin : ∀ (s : Shared) (l : List (PySem.Str × Tok)) (m : Nat), s = { s₀ with heap := s.heap, toks := s.toks } → Keeps s₀.heap s.heap → s.heap.get? D = some ⟨.type "list", none, .seq (strValues l).toArray m, #[]⟩ → (l.map fun y => y.1.cps.toList).flatten = rest 0 → (l.map fun y => y.1.length).sum ≤ 1200000 →
        wpAny (model prog w) A.in1 (do
          let joiner ← reSlice x.cps 0 0 0
          let text ← if ((← seqItems? (.ref D)).getD #[]).isEmpty then pure joiner else call (.builtin "str.join") [joiner, .ref D]
          ret text) (fun fin s' => match fin with | .done f => wants Q E (.ok f) s' | .again c' => c'.quiet = true ∧ codeAny (model prog w) A c' (wants Q E) s') (fun e s' => wants Q E (.error e) s') s := by
        intro s l m es hk hl hfl hsum
        refine wpAny_bind (m := mkStr _) (wpAny_mkStr ?_ (by show (x.cps.extract 0 0).size ≤ sizeLine; rw [sizeLine_eq]; simp))
        refine wpAny_bind (wpAny_seqItems hl rfl ?_)
        have e0 : (⟨x.cps.extract 0 0⟩ : PySem.Str) = ⟨#[]⟩ := by simp
        rw [e0]
        cases l with
        | nil =>
          refine wpAny_bind (wpAny_pure (a := Value.str ⟨#[]⟩ s.toks) (wpAny_pure ?_))
          have q := h s.heap (s.toks + 1) s.toks hk
          rw [← hfl] at q
          rw [es]; exact q
        | cons y l =>
          have ht : ∀ t' k', Q (.str (Txt.join ⟨#[]⟩ ((y :: l).map (·.1))) t') { s with toks := k' } := by
            intro t' k'
            have q := h s.heap k' t' hk
            have : Txt.join ⟨#[]⟩ ((y :: l).map (·.1)) = ⟨(rest 0).toArray⟩ := by
              unfold Txt.join
              rw [StrLaws.glued_eq_join]
              have z := join_nil_cps ((y :: l).map (·.1))
              rw [List.map_map] at z
              have z2 : (PySem.Str.join ⟨#[]⟩ ((y :: l).map (·.1))).cps.toList = rest 0 := z.trans hfl
              rw [← z2]
            rw [this, es]; exact q
          refine wpAny_bind (SC.join (l := y :: l) ⟨_, hl, rfl, m, rfl⟩ rfl ?_ (fun t' k' => wpAny_pure (ht t' k')))
          unfold JoinOk
          rw [Bool.not_eq_true']
          unfold Str.tooLong
          rw [StrLaws.joinTotal, List.map_map]
          refine decide_eq_false (Nat.not_lt.mpr ?_)
          have : ((y :: l).map ((fun x => x.length) ∘ fun x => x.1)).sum ≤ 1200000 := hsum
          have hz : PySem.Str.length ⟨#[]⟩ = 0 := rfl
          rw [sizeLine_eq, hz, Nat.mul_zero]
          lia
      show wpAny _ _ (if (p : Int).toNat < x.cps.size then _ else _) _ _ _
      have ep : (p : Int).toNat = p := Int.toNat_natCast p
      rw [ep]
      by_cases hlt : p < x.cps.size
      · rw [if_pos hlt]
        refine wpAny_bind (m := mkStr _) (wpAny_mkStr ?_ (by show (x.cps.extract p x.cps.size).size ≤ sizeLine; rw [sizeLine_eq]; have := S.xs; have : x.length = x.cps.size := rfl; simp; lia))
        refine wpAny_bind (wpAny_updateSeq hl rfl ?_ ?_ ?_)
        · refine fin _ (l ++ [(⟨x.cps.extract p x.cps.size⟩, s.toks)]) (m + 1) (by rw [es]) (keeps_upd hk hD) ?_ ?_ ?_
          · rw [upd_push hl, strs_snoc]
          · rw [List.map_append, List.flatten_append, ← hfl, hno]
            simp
            exact List.take_of_length_le (by simp)
          · have hx : x.length = x.cps.size := rfl
            have := S.xs
            simp only [List.map_append, List.sum_append, List.map_cons, List.map_nil, List.sum_cons, List.sum_nil]
            have : PySem.Str.length ⟨x.cps.extract p x.cps.size⟩ ≤ x.cps.size := by show (x.cps.extract p x.cps.size).size ≤ _; simp
            lia
        · rw [List.size_toArray, sizeLine_eq]; have := S.xs; have : x.length = x.cps.size := rfl; have : (strValues l).length = l.length := by simp [strValues]
          lia
        · rw [Array.size_push, List.size_toArray, sizeLine_eq]; have := S.xs; have : x.length = x.cps.size := rfl; have : (strValues l).length = l.length := by simp [strValues]
          lia
      · rw [if_neg hlt]
        refine fin s l m es hk hl ?_ (by have := S.xs; have : x.length = x.cps.size := rfl; lia)
        rw [← hfl, hno, List.drop_of_length_le (by simp; lia), List.append_nil]
    · obtain ⟨y1, y2, y3, y4⟩ := S.yes p a e hp hr
      have hx : x.length = x.cps.size := rfl
      have xs := S.xs
      have rs := S.rs
      have lv : ∀ l : List (PySem.Str × Tok), (strValues l).length = l.length := fun l => by simp [strValues]
      have fin : ∀ (s : Shared) (l' : List (PySem.Str × Tok)) (m : Nat), s = { s₀ with heap := s.heap, toks := s.toks } → Keeps s₀.heap s.heap → s.heap.get? D = some ⟨.type "list", none, .seq (strValues l').toArray m, #[]⟩ → (l'.map fun y => y.1.cps.toList).flatten = (l.map fun y => y.1.cps.toList).flatten ++ (x.cps.toList.drop p).take (a - p) → l'.length ≤ l.length + 1 → (l'.map fun y => y.1.length).sum ≤ (l.map fun y => y.1.length).sum + (a - p) →
        wpAny (model prog w) A.in1 (do
          let item ← pure (Value.str repl u)
          if item != .none then updateSeq D (·.push item)
          again (.builtin "re.Pattern.sub.loop" ⟨[.ref P, .str x t, .str repl u, rawInt 0, rawInt 0, rawInt ((n : Int) + 1), rawInt m'.handed, rawInt m'.handed, .bool (m'.handed == m'.start), .ref D, .bool false], []⟩)) (fun fin s' => match fin with | .done f => wants Q E (.ok f) s' | .again c' => c'.quiet = true ∧ codeAny (model prog w) A c' (wants Q E) s') (fun e s' => wants Q E (.error e) s') s := by
        intro s l' m es hk hl hfl' hlen' hsum'
        refine wpAny_bind (wpAny_pure (a := Value.str repl u) ?_)
        show wpAny _ _ (if (Value.str repl u != Value.none) = true then _ else _) _ _ _
        rw [if_pos (show (Value.str repl u != Value.none) = true from rfl)]
        refine wpAny_bind (wpAny_updateSeq hl rfl ?_ (by rw [List.size_toArray, sizeLine_eq, lv]; lia) (by rw [Array.size_push, List.size_toArray, sizeLine_eq, lv]; lia))
        refine wpAny_pure ⟨plainId_quiet (by decide +kernel) _, ?_⟩
        have eb : (m'.handed == m'.start) = false := by rw [h3, h4, beq_eq_false_iff_ne]; lia
        rw [eb, h4]
        have en : (n : Int) + 1 = ((n + 1 : Nat) : Int) := rfl
        rw [en]
        refine ih e (n + 1) _ (l' ++ [(repl, u)]) (m + 1) (by lia) y3 (by rw [es]) (keeps_upd hk hD) ?_ ?_ ?_ ?_
        · rw [upd_push hl, strs_snoc]
        · rw [List.map_append, List.flatten_append, hfl', ← hfl, y4]
          simp
        · rw [List.length_append]; simp; lia
        · simp only [List.map_append, List.sum_append, List.map_cons, List.map_nil, List.sum_cons, List.sum_nil]
          lia
      show wpAny _ _ (if (p : Int).toNat < m'.start then _ else _) _ _ _
      have ep : (p : Int).toNat = p := Int.toNat_natCast p
      by_cases hlt : p < a
      · rw [if_pos (show (p : Int).toNat < m'.start by rw [ep, h3]; exact hlt)]
        refine wpAny_bind (m := mkStr _) (wpAny_mkStr ?_ (by show (x.cps.extract (p : Int).toNat m'.start).size ≤ sizeLine; rw [sizeLine_eq, ep, h3]; simp; lia))
        refine wpAny_bind (wpAny_updateSeq hl rfl ?_ (by rw [List.size_toArray, sizeLine_eq, lv]; lia) (by rw [Array.size_push, List.size_toArray, sizeLine_eq, lv]; lia))
        refine fin _ (l ++ [(⟨x.cps.extract (p : Int).toNat m'.start⟩, s.toks)]) (m + 1) (by rw [es]) (keeps_upd hk hD) ?_ ?_ ?_ ?_
        · rw [upd_push hl, strs_snoc]
        · rw [List.map_append, List.flatten_append, ep, h3]
          simp
        · rw [List.length_append]; simp
        · simp only [List.map_append, List.sum_append, List.map_cons, List.map_nil, List.sum_cons, List.sum_nil]
          have : PySem.Str.length ⟨x.cps.extract (p : Int).toNat m'.start⟩ ≤ a - p := by show (x.cps.extract (p : Int).toNat m'.start).size ≤ _; rw [ep, h3]; simp; lia
          lia
      · rw [if_neg (show ¬ (p : Int).toNat < m'.start by rw [ep, h3]; exact hlt)]
        have ea : a - p = 0 := by lia
        refine fin s l m es hk hl (by rw [ea]; simp) (by lia) (by lia)
theorem str_nocall : typeLookup (.type "str") "__call__" = pure none := by rw [typeLookup_type, builtinLookup_eq_fast]; kernel_rfl
theorem call_sub {code : Array Nat} {x repl : PySem.Str} {k : Nat} {find : Nat → Option (Nat × Nat)} {rest : Nat → List Nat} (S : SubOk code x repl k find rest) {P : Addr} {t u : Tok} {Q : Value → Shared → Prop} {s : Shared} (hP : IsPat s.heap P code) (hb : repl.cps.contains 92 = false)
    (h : ∀ h' tk t', Keeps s.heap h' → Q (.str ⟨(rest 0).toArray⟩ t') { s with heap := h', toks := tk }) : wpAny (model prog w) A (call (.builtin "re.Pattern.sub") [.ref P, .str repl u, .str x t]) Q E s := by
  refine wpAny_call (codeAny_call_builtin slot_pat_sub.plain entry_pat_sub (slot_pat_sub.check _ _ _ _ _ _ _ _ hP.type (args_pat_sub _ _ _) ?_))
  unfold Builtin.«re.Pattern.sub» reSubstitute
  refine wpAny_bind (m := reNamed _ "sub" ["repl", "string", "count"] 2 [Value.str repl u, Value.str x t] []) (wpAny_pure (a := [some (Value.str repl u), some (Value.str x t), none]) ?_)
  refine wpAny_bind (wpAny_pure (a := (0 : Int)) ?_)
  refine wpAny_bind (wpAny_specialOf (typeIs_str _ _ _) str_nocall ?_)
  refine wpAny_bind (m := asStr? (.str repl u)) (wpAny_pure (a := some repl) ?_)
  refine wpAny_bind (wpAny_pure (a := !repl.cps.contains 92) ?_)
  rw [hb]
  refine wpAny_bind (wpAny_pure (a := (Value.str repl u, (0 : Int))) ?_)
  refine wpAny_bind (wpAny_holding (wp_target hP ?_))
  refine wpAny_bind (wpAny_newList ?_ (Nat.zero_le _))
  refine wpAny_pure ⟨plainId_quiet (by decide +kernel) _, ?_⟩
  refine sub_loop S (s₀ := s) fresh_none hP h (x.cps.size - 0 + 1) 0 0 _ [] 0 (by lia) (Nat.zero_le _) rfl (Keeps.push _) (Heap.get?_push_size _ rfl) rfl (Nat.zero_le _) (Nat.zero_le _)
end
end

section
open PySem PySem.W PyProof.Rows
open PySem.Sre PySem.Sre.M PySem.Builtin PySem.Builtin.Re
set_option autoImplicit false
set_option linter.unusedVariables false
set_option maxRecDepth 100000
set_option tactic.hygienic false
noncomputable def normS : Bool → List Nat → List Nat
  | _, [] => []
  | b, c :: r => if c = 13 then 13 :: 10 :: normS true r else if c = 10 then (if b = true then normS false r else 13 :: 10 :: normS false r) else c :: normS false r
noncomputable def dotsS : Bool → List Nat → List Nat
  | _, [] => []
  | b, c :: r => if (b && c == 46) = true then 46 :: 46 :: dotsS false r else c :: dotsS (c == 10) r
theorem drop_cons {x : Array Nat} {p : Nat} (h : p < x.size) : x.toList.drop p = x.getD p 0 :: x.toList.drop (p + 1) := by
  rw [List.drop_eq_getElem_cons (by simpa using h)]
  simp [Array.getD, h]
theorem normS_other {b : Bool} {l : List Nat} (h : l.head? ≠ some 10) : normS b l = normS false l := by
  cases l with
  | nil => rfl
  | cons c r =>
    have : c ≠ 10 := fun e => h (by rw [e]; rfl)
    simp [normS, this]
set_option tactic.hygienic true in
theorem first2 {x : Array Nat} : ∀ (f p : Nat), x.size - p < f → p ≤ x.size → match firstAt P2 x x.size f p with
    | none => normS false (x.toList.drop p) = x.toList.drop p
    | some a => p ≤ a ∧ a < end2 x x.size a ∧ end2 x x.size a ≤ x.size ∧ normS false (x.toList.drop p) = (x.toList.drop p).take (a - p) ++ [13, 10] ++ normS false (x.toList.drop (end2 x x.size a)) := by
  intro f
  induction f with
  | zero => intro p h; exact absurd h (Nat.not_lt_zero _)
  | succ f ih =>
    intro p hf hp
    unfold firstAt
    by_cases hl : p ≥ x.size
    · rw [if_pos hl]
      show normS false (x.toList.drop p) = x.toList.drop p
      rw [List.drop_of_length_le (by simpa using hl)]; rfl
    · rw [if_neg hl]
      have hd := drop_cons (x := x) (p := p) (by lia)
      by_cases hc : P2 (x.getD p 0) = true
      · rw [if_pos hc]
        have he : p < end2 x x.size p ∧ end2 x x.size p ≤ x.size := by
          unfold end2
          split
          · rename_i h; simp only [Bool.and_eq_true, decide_eq_true_eq] at h; lia
          · lia
        refine ⟨Nat.le_refl _, he.1, he.2, ?_⟩
        rw [Nat.sub_self, List.take_zero, List.nil_append, hd]
        unfold P2 at hc
        by_cases h13 : x.getD p 0 = 13
        · rw [h13]
          show 13 :: 10 :: normS true (x.toList.drop (p + 1)) = _
          unfold end2
          rw [h13]
          by_cases h10 : p + 1 < x.size ∧ x.getD (p + 1) 0 = 10
          · rw [if_pos (by simp [h10.1, h10.2])]
            rw [drop_cons (p := p + 1) h10.1, h10.2]
            rfl
          · rw [if_neg (by simp only [Bool.and_eq_true, decide_eq_true_eq, beq_iff_eq]; lia)]
            rw [normS_other]
            · rfl
            · intro e
              by_cases q : p + 1 < x.size
              · rw [drop_cons (p := p + 1) q] at e
                exact h10 ⟨q, Option.some.inj e⟩
              · rw [List.drop_of_length_le (by simp; lia)] at e; cases e
        · have h10 : x.getD p 0 = 10 := by
            simp only [Bool.or_eq_true, beq_iff_eq] at hc; lia
          have ee : end2 x x.size p = p + 1 := by unfold end2; rw [if_neg (by rw [h10]; simp)]
          rw [h10, ee]; rfl
      · rw [if_neg hc]
        have hne : x.getD p 0 ≠ 13 ∧ x.getD p 0 ≠ 10 := by
          unfold P2 at hc; simp only [Bool.or_eq_true, beq_iff_eq] at hc; lia
        have hn : normS false (x.toList.drop p) = x.getD p 0 :: normS false (x.toList.drop (p + 1)) := by
          rw [hd]; unfold normS; rw [if_neg hne.1, if_neg hne.2]; cases x.toList.drop (p + 1) <;> rfl
        have z := ih (p + 1) (by lia) (by lia)
        cases hx : firstAt P2 x x.size f (p + 1) with
        | none =>
          rw [hx] at z
          show normS false (x.toList.drop p) = x.toList.drop p
          rw [hn, z, hd]
        | some a =>
          rw [hx] at z
          obtain ⟨z1, z2, z3, z4⟩ := z
          refine ⟨by lia, z2, z3, ?_⟩
          rw [hn, z4, hd]
          have : a - p = (a - (p + 1)) + 1 := by lia
          rw [this, List.take_succ_cons]; rfl
theorem sub2 (x : PySem.Str) (hx : x.length ≤ 100000) : SubOk code2 x ⟨#[13, 10]⟩ 20 (fun p => if p < x.cps.size then (firstAt P2 x.cps x.cps.size (x.cps.size + 1 - p) p).map fun s => (s, end2 x.cps x.cps.size s) else none) (fun p => normS false (x.cps.toList.drop p)) := by
  refine ⟨fun p hp => search2 p, by lia, fun p hp h => ?_, fun p a e hp h => ?_, hx, by decide⟩
  · have z := first2 (x := x.cps) (x.cps.size + 1 - p) p (by lia) hp
    by_cases hl : p < x.cps.size
    · rw [if_pos hl, Option.map_eq_none_iff] at h
      rw [h] at z; exact z
    · show normS false (x.cps.toList.drop p) = _
      rw [List.drop_of_length_le (by simp; lia)]; rfl
  · have z := first2 (x := x.cps) (x.cps.size + 1 - p) p (by lia) hp
    by_cases hl : p < x.cps.size
    · rw [if_pos hl] at h
      obtain ⟨s, hs, h⟩ := Option.map_eq_some_iff.mp h
      rw [hs] at z
      cases h
      exact z
    · rw [if_neg hl] at h; cases h
noncomputable def bol (x : Array Nat) (p : Nat) : Bool := p == 0 || x.getD (p - 1) 0 == 10
theorem first1 {x : Array Nat} : ∀ (f p : Nat), x.size - p ≤ f → p ≤ x.size → match find1 x x.size f p with
    | none => dotsS (bol x p) (x.toList.drop p) = x.toList.drop p
    | some (a, e) => p ≤ a ∧ e = a + 1 ∧ e ≤ x.size ∧ dotsS (bol x p) (x.toList.drop p) = (x.toList.drop p).take (a - p) ++ [46, 46] ++ dotsS (bol x e) (x.toList.drop e) := by
  have hit : ∀ p, hit1 x x.size p = true → p < x.size ∧ dotsS (bol x p) (x.toList.drop p) = (x.toList.drop p).take (p - p) ++ [46, 46] ++ dotsS (bol x (p + 1)) (x.toList.drop (p + 1)) := by
    intro p h
    unfold hit1 at h
    simp only [Bool.and_eq_true, decide_eq_true_eq] at h
    obtain ⟨h1, h2, h3⟩ := h
    have h3' : x.getD p 0 = 46 := by simpa using h3
    refine ⟨h2, ?_⟩
    have hb : bol x p = true := h1
    have hb2 : bol x (p + 1) = false := by unfold bol; simp [h3']
    rw [hb, hb2, drop_cons h2, h3', Nat.sub_self]
    rfl
  have miss : ∀ p, p < x.size → hit1 x x.size p = false → dotsS (bol x p) (x.toList.drop p) = x.getD p 0 :: dotsS (bol x (p + 1)) (x.toList.drop (p + 1)) := by
    intro p hp h
    rw [drop_cons hp]
    unfold hit1 at h
    have hb : (bol x p && x.getD p 0 == 46) = false := by
      have : (bol x p && (decide (p < x.size) && x.getD p 0 == 46)) = false := h
      simpa [hp] using this
    have e : bol x (p + 1) = (x.getD p 0 == 10) := by unfold bol; simp
    show (if (bol x p && x.getD p 0 == 46) = true then _ else _) = _
    rw [hb, e]; rfl
  intro f
  induction f with
  | zero =>
    intro p hf hp
    unfold find1
    by_cases h : hit1 x x.size p = true
    · rw [if_pos h]
      have := (hit p h).1; lia
    · rw [if_neg h]
      show dotsS (bol x p) (x.toList.drop p) = x.toList.drop p
      rw [List.drop_of_length_le (by simp; lia)]; rfl
  | succ f ih =>
    intro p hf hp
    unfold find1
    by_cases h : hit1 x x.size p = true
    · rw [if_pos h]
      obtain ⟨h1, h2⟩ := hit p h
      exact ⟨Nat.le_refl _, rfl, by lia, h2⟩
    · rw [if_neg h]
      have h : hit1 x x.size p = false := by simpa using h
      by_cases hl : p < x.size
      · have z := ih (p + 1) (by lia) (by lia)
        have hm := miss p hl h
        cases hx : find1 x x.size f (p + 1) with
        | none =>
          rw [hx] at z
          show dotsS (bol x p) (x.toList.drop p) = x.toList.drop p
          rw [hm, z, drop_cons hl]
        | some ae =>
          obtain ⟨a, e⟩ := ae
          rw [hx] at z
          obtain ⟨z1, z2, z3, z4⟩ := z
          refine ⟨by lia, z2, z3, ?_⟩
          rw [hm, z4, drop_cons hl]
          have : a - p = (a - (p + 1)) + 1 := by lia
          rw [this, List.take_succ_cons]; rfl
      · have hn : ∀ f p, x.size ≤ p → find1 x x.size f p = none := by
          intro f
          induction f with
          | zero => intro p hp; unfold find1; rw [if_neg]; unfold hit1; simp; lia
          | succ f ih => intro p hp; unfold find1; rw [if_neg (by unfold hit1; simp; lia)]; exact ih _ (by lia)
        rw [hn f (p + 1) (by lia)]
        show dotsS (bol x p) (x.toList.drop p) = x.toList.drop p
        rw [List.drop_of_length_le (by simp; lia)]; rfl
theorem sub1 (x : PySem.Str) (hx : x.length ≤ 100000) : SubOk code1 x ⟨#[46, 46]⟩ (3 * x.cps.size + 6) (fun p => if p < x.cps.size then find1 x.cps x.cps.size (x.cps.size - p) p else none) (fun p => dotsS (bol x.cps p) (x.cps.toList.drop p)) := by
  have hs : x.length = x.cps.size := rfl
  refine ⟨fun p hp => search1 hp, by lia, fun p hp h => ?_, fun p a e hp h => ?_, hx, by decide⟩
  · have z := first1 (x := x.cps) (x.cps.size - p) p (by lia) hp
    by_cases hl : p < x.cps.size
    · rw [if_pos hl] at h
      rw [h] at z; exact z
    · show dotsS _ (x.cps.toList.drop p) = _
      rw [List.drop_of_length_le (by simp; lia)]; rfl
  · have z := first1 (x := x.cps) (x.cps.size - p) p (by lia) hp
    by_cases hl : p < x.cps.size
    · rw [if_pos hl] at h
      rw [h] at z
      obtain ⟨z1, z2, z3, z4⟩ := z
      exact ⟨z1, by lia, z3, z4⟩
    · rw [if_neg hl] at h; cases h
theorem firstAt_any {P : Nat → Bool} {x : Array Nat} : ∀ (f p : Nat), x.size - p < f → (firstAt P x x.size f p).isSome = (x.toList.drop p).any P := by
  intro f
  induction f with
  | zero => intro p h; exact absurd h (Nat.not_lt_zero _)
  | succ f ih =>
    intro p hf
    unfold firstAt
    by_cases hl : p ≥ x.size
    · rw [if_pos hl, List.drop_of_length_le (by simpa using hl)]; rfl
    · rw [if_neg hl, drop_cons (by lia)]
      by_cases hc : P (x.getD p 0) = true
      · rw [if_pos hc, List.any_cons, hc]; rfl
      · rw [if_neg hc, ih (p + 1) (by lia), List.any_cons, Bool.eq_false_iff.mpr hc]; rfl
end

section
open PySem PySem.W PyProof.Rows PySem.Spec PySem.SeqAt PySem.Calls
set_option autoImplicit false
set_option linter.unusedVariables false
set_option maxRecDepth 100000
set_option tactic.hygienic false
theorem match_bool : typeLookup (.type "re.Match") "__bool__" = pure none := by rw [typeLookup_type, builtinLookup_eq_fast]; kernel_rfl
theorem match_len : typeLookup (.type "re.Match") "__len__" = pure none := by rw [typeLookup_type, builtinLookup_eq_fast]; kernel_rfl
theorem truthy_match {M : Model} {A : Around} {E : Value → Shared → Prop} {s : Shared} {a : Addr} {o : Obj} {Q : Bool → Shared → Prop} (ho : s.heap.get? a = some o) (hc : o.cls = .type "re.Match") (h : Q true s) : wpAny M A (truthy (.ref a)) Q E s := by
  have hT : s.TypeIs (.ref a) "re.Match" := ⟨o, ho, hc⟩
  unfold truthy
  refine wpAny_bind (m := callSpecial? (.ref a) (Str.ofString "__bool__")) ?_
  unfold callSpecial?
  refine wpAny_bind (wpAny_specialOf hT match_bool ?_)
  refine wpAny_pure ?_
  exact wpAny_bind (wpAny_specialOf hT match_len (wpAny_pure h))
structure Pats where
  n : Addr
  v : Addr
  one : Addr
  two : Addr
structure PatsOk (W : Wd) (P : Pats) : Prop where
  n : IsPat W.h₀ P.n codeN
  v : IsPat W.h₀ P.v codeV
  one : IsPat W.h₀ P.one code1
  two : IsPat W.h₀ P.two code2
noncomputable def hasN (x : Str) : Bool := x.cps.toList.any PN
noncomputable def hasV (x : Str) : Bool := x.cps.toList.any PV'
noncomputable def pSearch (P : Pats) : PV → List PV → PM Bool
  | .glob a, [.str x] => pguard (x.length < 2 ^ 62) (if a = P.n then PM.pure (hasN x) else if a = P.v then PM.pure (hasV x) else pfail)
  | _, _ => pfail
noncomputable def dots (x : Str) : Str := ⟨(dotsS true x.cps.toList).toArray⟩
noncomputable def norm (x : Str) : Str := ⟨(normS false x.cps.toList).toArray⟩
noncomputable def pSubst (P : Pats) (a : Addr) : List PV → PM PV
  | [.str r, .str x] => pguard (x.length ≤ 100000) (if a = P.one ∧ r = ⟨#[46, 46]⟩ then PM.pure (.str (dots x)) else if a = P.two ∧ r = ⟨#[13, 10]⟩ then PM.pure (.str (norm x)) else pfail)
  | _ => pfail
section
variable {W : Wd} {d : Nat} {env : Env} {G : GG}
theorem Rel.pat {h : Heap} {ρ : Rh} {σ : PS} (R : Rel W env h ρ σ) {a : Addr} {code : Array Nat} (p : IsPat W.h₀ a code) : IsPat h a code := p.keeps R.base
theorem wp_bmG {β : Type} {R : RR (List Value) β} {a : Value} {name : Str} {id : String} {pl : Sem Bool} {es : List Expr} {pos : Pos} {q : PM β} {A : Around} {s : Shared} {ρ : Rh} {σ : PS} {Q : Value → Shared → Prop} {E : Value → Shared → Prop} (hes : SS W d env R es q) (hn : noStar es = true)
    (ha : AOk W d A s ρ) (hr : Rel W env s.heap ρ σ)
    (hgm : ∀ (Q : Value × List Value → Shared → Prop), Q (.builtin id, [a]) s → wpAny (model W.prog W.w) A (getMethod a name pl) Q E s)
    (h : match q σ with
      | some (.ok b, σ₁) => ∀ vs h₂ ρ₂ tk₂, AOk W d A { s with heap := h₂, toks := tk₂ } ρ₂ → Rel W env h₂ ρ₂ σ₁ → Ext W (fp env) s.heap ρ h₂ ρ₂ → R.rel h₂ ρ₂ vs b → wpAny (model W.prog W.w) A (call (.builtin id) (a :: vs)) Q E { s with heap := h₂, toks := tk₂ }
      | _ => False) :
    wpAny (model W.prog W.w) A (getMethod a name pl >>= fun fm => callWith pos fm.1 fm.2 (backTo pos (starEach es env)) (backToKw pos (keywordEach [] env))) Q E s := by
  refine wpAny_bind (hgm _ ?_)
  show wpAny _ _ (callWith pos (.builtin id) [a] (backTo pos (starEach es env)) []) _ _ _
  refine Calls.callWith_builtin (noStar_any hn) ?_
  refine sa_posR hes hn GG.tt (.builtin id) pos A s ρ σ _ _ ha hr trivial ?_
  match hq : q σ, h with
  | some (.ok b, σ₁), h =>
    intro x h₂ ρ₂ tk₂ r2 e2 l2 ra
    obtain ⟨ek, r1⟩ := ra
    rw [ek]
    exact h x.pos h₂ ρ₂ tk₂ (ha.ext r2 e2 l2) r2 e2 r1
theorem wp_methG {A : Around} {s : Shared} {E : Value → Shared → Prop} {Q : Value → Shared → Prop} {o : Expr} {name : Str} {apos pos : Pos} {es : List Expr} {ks : List Keyword}
    (h : wpAny (model W.prog W.w) A (eval o env) (fun a s => wpAny (model W.prog W.w) A (getMethod a name (do return (← importBound o env).getD true) >>= fun fm => callWith pos fm.1 fm.2 (backTo pos (starEach es env)) (backToKw pos (keywordEach ks env))) Q E s) E s)
    (hb : ∀ t, attributeBase o name env t = t) (hf : methodCallForm (es.length + ks.length) (backTo pos (starEach es env)) (backToKw pos (keywordEach ks env)) = true) (hpos : (apos.endLine == pos.line) = true) :
    wpAny (model W.prog W.w) A (eval (.Call (.Attribute o name apos) es ks pos) env) Q E s := by
  have e : eval (.Call (.Attribute o name apos) es ks pos) env = (attributeBase o name env (eval o env) >>= fun ov => standAt apos.atName >>= fun _ =>
    methodCall o name apos pos env ov (es.length + ks.length) (backTo pos (starEach es env)) (backToKw pos (keywordEach ks env))) := rfl
  rw [e, hb]
  refine wpAny_bind (wpAny_mono h (fun a s' y => wpAny_bind (wpAny_standAt ?_)) fun _ _ x => x)
  unfold methodCall calleeOf
  rw [hf]
  simp only [if_true]
  have e2 : methodCallPos true o env apos pos = pure pos := by
    unfold methodCallPos
    rw [hpos]; rfl
  intro Γ p' hΓ
  have x := y Γ p' hΓ
  rw [Sem.wp_bind'] at x ⊢
  rw [Sem.wp_holding]
  refine Sem.wp_mono _ Γ _ (fun fm p₁ s₁ h₁ => ?_) (fun _ _ _ h => h) _ _ x
  rw [e2]
  exact h₁
set_option tactic.hygienic true in
theorem pSearch_inv {P : Pats} {s : Shared} {ρ : Rh} {σ : PS} {Q : Bool → Shared → Prop} {E : Value → Shared → Prop} {a : PV} {l : List PV} (hp : Post W env rrB s ρ Q E (pSearch P a l σ)) :
    ∃ b y, a = .glob b ∧ l = [.str y] ∧ y.length < 2 ^ 62 ∧ ((b = P.n ∧ Post W env rrB s ρ Q E (PM.pure (hasN y) σ)) ∨ (b = P.v ∧ Post W env rrB s ρ Q E (PM.pure (hasV y) σ))) := by
  unfold pSearch at hp
  split at hp
  · rename_i b y
    unfold pguard at hp
    split at hp
    · rename_i hy
      split at hp
      · rename_i e; exact ⟨b, y, rfl, rfl, hy, .inl ⟨e, hp⟩⟩
      · split at hp
        · rename_i e; exact ⟨b, y, rfl, rfl, hy, .inr ⟨e, hp⟩⟩
        · exact hp.elim
    · exact hp.elim
  · exact hp.elim
theorem t_search {P : Pats} {o : Expr} {apos pos : Pos} {es : List Expr} {p : PM PV} {q : PM (List PV)} (hP : PatsOk W P) (ho : SE W d env o p) (hes : SEs W d env es q) (hn : noStar es = true)
    (hb : ∀ t, attributeBase o "search" env t = t) (hf : methodCallForm (es.length + 0) (backTo pos (starEach es env)) [] = true) (hpos : (apos.endLine == pos.line) = true)
    (hw : isTrue (.Call (.Attribute o "search" apos) es [] pos) env (eval (.Call (.Attribute o "search" apos) es [] pos) env) = (eval (.Call (.Attribute o "search" apos) es [] pos) env >>= fun v => standAt pos >>= fun _ => holding [v] (truthy v))) :
    ST W d env (.Call (.Attribute o "search" apos) es [] pos) (PM.bind (pnoexc p) fun a => PM.bind (pnoexc q) fun l => pSearch P a l) := by
  intro G
  rw [hw]
  intro A s ρ σ Q E ha hr hg hp
  refine wpAny_bind (wp_methG (ks := []) (ho G A s ρ σ _ _ ha hr hg ?_) hb hf hpos)
  unfold PM.bind pnoexc at hp
  match hq : p σ, hp with
  | some (.ok a, σ₁), hp =>
    intro v h₁ ρ₁ tk₁ r1 e1 l1 rv
    dsimp only at hp
    match hq2 : q σ₁, hp with
    | some (.ok l, σ₂), hp =>
      dsimp only at hp
      obtain ⟨a, y, rfl, rfl, hy, hp2⟩ := pSearch_inv hp
      · cases rv
        have fin : ∀ {code : Array Nat} {r : Option (Nat × Nat)} {k : Nat} {b : Bool}, IsPat W.h₀ a code → Ends k (PySem.Sre.forSearch code y.cps 0 0 y.cps.size false) r → k ≤ 2 ^ 64 → r.isSome = b → y.length < 2 ^ 62 → Post W env rrB s ρ Q E (PM.pure b σ₂) →
            wpAny (model W.prog W.w) A (getMethod (.ref a) "search" (do return (← importBound o env).getD true) >>= fun fm => callWith pos fm.1 fm.2 (backTo pos (starEach es env)) (backToKw pos (keywordEach [] env))) (fun v s => wpAny (model W.prog W.w) A (standAt pos >>= fun _ => holding [v] (truthy v)) Q E s) E { s with heap := h₁, toks := tk₁ } := by
          intro code r k b hpat hends hk hb2 hy hp
          refine wp_bmG (R := rrL) (id := "re.Pattern.search") hes hn (ha.ext r1 e1 l1) r1 (fun Q h => ?_) ?_
          · have ip : IsPat h₁ a code := r1.pat hpat
            exact getMethod_builtin (IsPat.type (s := { s with heap := h₁, toks := tk₁ }) ip) plainAttrs_pat slot_pat_search type_pat_search (fun c e => by
              cases e
              obtain ⟨T, o, oT, vs, cs, n, e1, r2, r3, _⟩ := ip.ex
              exact ⟨o, e1, r3⟩) h
          · rw [hq2]
            intro vs h₂ ρ₂ tk₂ ha2 r2 e2 ra
            obtain ⟨v, rfl, t, rfl⟩ := one_inv ra
            refine call_search (s := { s with heap := h₂, toks := tk₂ }) (r2.pat hpat) hy hends hk (fun e => ?_) fun e h' c ob kp hob hcl => ?_
            · have : b = false := by rw [← hb2, e]; rfl
              subst this
              exact wpAny_bind (wpAny_standAt (wpAny_holding (truthy_none (hp false h₂ ρ₂ tk₂ r2 (e1.trans e2) ⟨ha2.tok, ha2.pos⟩ rfl))))
            · have : b = true := by
                rw [← hb2]
                cases r with
                | none => exact absurd rfl e
                | some _ => rfl
              subst this
              exact wpAny_bind (wpAny_standAt (wpAny_holding (truthy_match (s := { s with heap := h', toks := tk₂ }) hob hcl (hp true h' ρ₂ tk₂ (r2.keeps kp) ((e1.trans e2).trans (Ext0.keeps kp).toExt) ⟨ha2.tok, ha2.pos⟩ rfl))))
        have any : ∀ {Pd : Nat → Bool} {e : Nat → Nat}, (if 0 < y.cps.size then (firstAt Pd y.cps y.cps.size (y.cps.size + 1 - 0) 0).map fun s => (s, e s) else none).isSome = y.cps.toList.any Pd := by
          intro Pd e
          have z := firstAt_any (P := Pd) (x := y.cps) (y.cps.size + 1) 0 (by omega)
          by_cases hl : 0 < y.cps.size
          · rw [if_pos hl, Option.isSome_map]; simpa using z
          · rw [if_neg hl]
            have : y.cps.toList = [] := by
              rw [List.eq_nil_iff_length_eq_zero, Array.length_toList]; omega
            rw [this]; rfl
        rcases hp2 with ⟨ea, hp2⟩ | ⟨ea, hp2⟩
        · subst ea
          exact fin hP.n (searchN 0) (by decide) any hy hp2
        · subst ea
          exact fin hP.v (searchV 0) (by decide) any hy hp2
set_option tactic.hygienic true in
theorem pSubst_inv {P : Pats} {s : Shared} {ρ : Rh} {σ : PS} {Q : Value → Shared → Prop} {E : Value → Shared → Prop} {a : Addr} {l : List PV} (hp : Post0 W env rrV s ρ Q E (pSubst P a l σ)) :
    ∃ r y, l = [.str r, .str y] ∧ y.length ≤ 100000 ∧ ((a = P.one ∧ r = ⟨#[46, 46]⟩ ∧ Post0 W env rrV s ρ Q E (PM.pure (.str (dots y)) σ)) ∨ (a = P.two ∧ r = ⟨#[13, 10]⟩ ∧ Post0 W env rrV s ρ Q E (PM.pure (.str (norm y)) σ))) := by
  unfold pSubst at hp
  split at hp
  · rename_i r y
    obtain ⟨hy, hp⟩ := pguard_inv hp
    split at hp
    · rename_i e; exact ⟨r, y, rfl, hy, .inl ⟨e.1, e.2, hp⟩⟩
    · split at hp
      · rename_i e; exact ⟨r, y, rfl, hy, .inr ⟨e.1, e.2, hp⟩⟩
      · exact hp.elim
  · exact hp.elim
theorem s_sub_ {P : Pats} {o : Expr} {apos pos : Pos} {es : List Expr} {p : PM PV} {q : PM (List PV)} (hP : PatsOk W P) (ho : SE W d env o p) (hes : SEs W d env es q) (hn : noStar es = true)
    (hb : ∀ t, attributeBase o "sub" env t = t) (hf : methodCallForm (es.length + 0) (backTo pos (starEach es env)) [] = true) (hpos : (apos.endLine == pos.line) = true) :
    SE W d env (.Call (.Attribute o "sub" apos) es [] pos) (PM.bind p fun a => match a with
      | .glob a => pguard (a = P.one ∨ a = P.two) (PM.bind q fun l => pSubst P a l)
      | _ => pfail) := by
  refine s_meth_ (ks := []) ho (fun G a pa ga => ?_) hb hf hpos
  cases pa with
  | glob a =>
    refine Sim.under fun ⟨h, ρ, g⟩ => ?_
    have e := ga h ρ g
    cases e
    refine s_guard fun hor => ?_
    intro A s ρ σ Q E ha hr hg hp
    have hpat : ∃ code, IsPat W.h₀ a code := by
      rcases hor with rfl | rfl
      · exact ⟨_, hP.one⟩
      · exact ⟨_, hP.two⟩
    obtain ⟨code, hpat⟩ := hpat
    refine wp_bm (G := G) (R := rrL) (id := "re.Pattern.sub") hes hn ha hr hg hp (fun Q h => ?_) (fun vs l => Sim.of0 ?_)
    · have ip : IsPat s.heap a code := hr.pat hpat
      exact getMethod_builtin (IsPat.type ip) plainAttrs_pat slot_pat_sub type_pat_sub (fun c e => by
        cases e
        obtain ⟨T, o, oT, vs, cs, n, e1, r2, r3, _⟩ := ip.ex
        exact ⟨o, e1, r3⟩) h
    · intro A s ρ σ Q E ha hr hg hp
      obtain ⟨r, y, rfl, hy, hp3⟩ := pSubst_inv hp
      obtain ⟨v1, v2, rfl, ⟨t, rfl⟩, ⟨u, rfl⟩⟩ := two_inv (show All2 (RepV s.heap ρ) vs [.str r, .str y] from hg.2)
      rcases hp3 with ⟨ea, er, hp3⟩ | ⟨ea, er, hp3⟩
      · subst ea er
        refine call_sub (sub1 y hy) (hr.pat hP.one) (by decide +kernel) fun h' tk t' kp => ?_
        exact post_keep hr hp3 kp ⟨t', rfl⟩ tk
      · subst ea er
        refine call_sub (sub2 y hy) (hr.pat hP.two) (by decide +kernel) fun h' tk t' kp => ?_
        exact post_keep hr hp3 kp ⟨t', rfl⟩ tk
  | _ => exact s_fail
end
end

section
open PySem PySem.W PyProof.Rows PySem.Spec PySem.SeqAt PySem.Calls
set_option autoImplicit false
set_option linter.unusedVariables false
set_option maxRecDepth 100000
set_option tactic.hygienic false
section
variable {W : Wd} {d : Nat} {env : Env} {G : GG}
theorem wp_setSlice {prog : Program} {w : World} {A : Around} {E : Value → Shared → Prop} {s : Shared} {l sl b : Addr} {items new : Array Value} {n : Nat} {Q : Unit → Shared → Prop} (ho : s.heap.get? l = some ⟨.type "list", none, .seq items n, #[]⟩) (hb : s.heap.IsList b new) (hne : l ≠ b)
    (hs : s.heap.IsSliceOf sl .none .none .none) (hsz : items.size + new.size ≤ sizeLine)
    (h : ∀ h' n', h'.get? l = some ⟨.type "list", none, .seq new n', #[]⟩ → Heap.SameBut l s.heap h' → Q () { s with heap := h' }) : wpAny (model prog w) A (setItem (.ref l) (.ref sl) (.ref b)) Q E s := by
  have hl : s.heap.IsList l items := ⟨_, ho, rfl, n, rfl⟩
  have hd : (⟨.type "list", none, .seq items n, #[]⟩ : Obj).data = .seq items n := rfl
  obtain ⟨ob, hob, hcb, nb, hdb⟩ := id hb
  obtain ⟨os, hos, hcs, hds⟩ := id hs
  have hTs : s.TypeIs (.ref sl) "slice" := ⟨os, hos, hcs⟩
  unfold setItem
  try with_reducible refine wpAny_holding ?_
  first | refine wpAny_bind (wpAny_pure ?_) | skip
  refine wpAny_bind (wpAny_sequenceKey hl.typeIs (by decide) ?_)
  refine wpAny_bind (wpAny_callSpecial?_slot (name := Str.ofString "__setitem__") hl.typeIs slot_list_setitem
    (wpAny_call_entry slot_list_setitem hl.typeIs entry_list_setitem ?_ (args_list_setitem _ _ _)))
  show wpAny _ _ (Builtin.List.listSubscript? (.ref sl) >>= _) _ _ s
  refine wpAny_bind ?_
  unfold Builtin.List.listSubscript?
  refine wpAny_bind (wpAny_specialOf hTs slice_no_index ?_)
  simp only [Option.isNone_none, if_true]
  refine wpAny_pure ?_
  show wpAny _ _ (typeOf (.ref sl) >>= _) _ _ s
  refine wpAny_bind (wpAny_typeOf hTs ?_)
  rw [if_neg (by decide)]
  rw [listSliceParts_eq]
  refine wpAny_bind (wpAny_bind (wpAny_field hos hds (x := .none) rfl (wpAny_bind (wpAny_listPart .none ?_))))
  rw [if_neg (by decide)]
  refine wpAny_bind (wpAny_field hos hds (x := .none) rfl (wpAny_bind (wpAny_listPart .none ?_)))
  refine wpAny_bind (wpAny_field hos hds (x := .none) rfl (wpAny_bind (wpAny_listPart .none (wpAny_pure ?_))))
  have hsr : PySem.Builtin.List.listSameRef (.ref l) (.ref b) = false := by
    show (l == b) = false
    simpa using hne
  dsimp only
  rw [hsr]
  refine wpAny_bind (m := Builtin.List.listAllItems (.ref b) _) ?_
  unfold Builtin.List.listAllItems
  refine wpAny_bind (wpAny_typeOf hb.typeIs ?_)
  rw [if_pos (by decide)]
  unfold Builtin.List.listItems
  refine wpAny_bind (wpAny_seqItems hob hdb (wpAny_pure ?_))
  refine wpAny_bind (wpAny_bind (wpAny_seqItems ho hd (wpAny_pure ?_)))
  refine wpAny_bind (wpAny_of_eq (sliceIndices_raw none none none items.size (by simp)) ?_)
  have e1 : (sliceBounds none none none items.size) = (0, (items.size : Int), 1) := rfl
  rw [e1]
  show wpAny _ _ (if ((1 : Int) == 1) = true then _ else _) _ _ s
  rw [if_pos (by decide)]
  refine wpAny_bind (wpAny_rule ?_)
  have e2 : Builtin.List.listTooLong (items.size + new.size) = false := by
    unfold Builtin.List.listTooLong
    exact decide_eq_false (by lia)
  rw [e2, if_neg (by decide)]
  refine wpAny_bind (m := Builtin.List.listUpdate (.ref l) _) (wpAny_updateSeq ho hd ?_ (by lia) ?_)
  · refine wpAny_bind (wpAny_letGo ?_)
    refine wpAny_pure ⟨_, rfl, wpAny_pure ?_⟩
    refine h _ (if new.size = items.size then n else n + 1) ?_ (Heap.SameBut.update ..)
    rw [Heap.get?_update_self _ ho rfl]
    by_cases hz : new.size = items.size <;> simp [Obj.mapSeq, hz]
  · simp
    lia
noncomputable def pallset (a v : PV) : PM Unit := match a, v with
  | .ref i, .ref j => plist i fun l => plist j fun l' => pguard (i ≠ j ∧ l.length + l'.length ≤ sizeLine) (fun σ => some (.ok (), { σ with H := σ.H.set i (.list l') }))
  | _, _ => pfail
set_option tactic.hygienic true in
theorem a_slice {o : Expr} {sp' sp : Pos} {p : PM PV} (ho : SE W d env o p) : SAs W d env (.Subscript o (.Slice none none none sp') sp) (fun v => PM.bind p fun a => pallset a v) := by
  intro G v pv gv
  rw [arm_assign_Subscript, arm_Slice]
  refine Sim.bind (Sim.holding (ho G)) fun a pa => ?_
  refine Sim.of0 ?_
  intro A s ρ σ Q E ha hr hg hp
  have ra : RepV s.heap ρ a pa := hg.2
  have rv := gv _ _ hg.1
  unfold pallset at hp
  split at hp
  · rename_i i j
    obtain ⟨l, e1, hp⟩ := plist_inv hp
    obtain ⟨l', e2, hp⟩ := plist_inv hp
    obtain ⟨⟨hne, hsz⟩, hp⟩ := pguard_inv hp
    obtain ⟨x, rfl, ex, vs, n, hox, zx⟩ := ref_inv hr.cells ra e1
    obtain ⟨y, rfl, ey, ws, n2, hoy, zy⟩ := ref_inv hr.cells rv e2
    have hxy : x ≠ y := fun e => hne (hr.cells.nd i j x ex (e ▸ ey))
    refine wpAny_bind (m := holding _ _) (wpAny_holding ?_)
    refine wpAny_bind (wpAny_pure (wpAny_bind (wpAny_holding (wpAny_pure (wpAny_bind (wpAny_holding (wpAny_pure ?_)))))))
    unfold newFields
    refine wpAny_newObj_type (wpAny_bind (wpAny_standAt (wpAny_bind (wpAny_holding ?_)))) (by show 3 ≤ sizeLine + 2; rw [sizeLine_eq]; lia)
    have k := Keeps.push (h := s.heap) { cls := .type "slice", data := .fields #[.none, .none, .none] }
    refine wp_setSlice (s := { s with heap := s.heap.push { cls := .type "slice", data := .fields #[.none, .none, .none] } }) (k _ _ hox) ⟨_, k _ _ hoy, rfl, n2, rfl⟩ hxy (Heap.IsSliceOf.new s.heap .none .none .none) (by rw [List.size_toArray, List.size_toArray, zx.length, zy.length]; exact hsz) fun h' n' ho' sb => ?_
    refine wp_release ?_
    have R1 := hr.keeps k
    have st1 := k.stb (ρ := ρ) .refl
    have st := R1.cells.stbSet (get_mem ex) sb.2
    have ro : RepO W h' ρ x (.list l') := ⟨ws, n', ho', zy.mono fun _ _ y => (y.stb st1).stb st⟩
    exact hp () h' ρ _ (R1.set ex sb.2 ro) ((Ext0.keeps k).trans (Ext0.set (get_mem ex) sb.2 ro)) trivial
  · exact hp.elim

end
end

section
open PySem PySem.W PyProof.Rows
set_option autoImplicit false
set_option maxRecDepth 100000
set_option tactic.hygienic false
section
variable {W : Wd} {d : Nat} {env : Env} {G : GG}

noncomputable def fmt1 : Str := Str.ofString "%s: %s"
theorem tup_str2 {h : Heap} {ρ : Rh} {v : Value} {x y : Str} (r : RepV h ρ v (.tup [.str x, .str y])) : ∃ a t u, v = .ref a ∧ IsTup h a #[.str x t, .str y u] := by
  obtain ⟨a, vs, rfl, ht, z⟩ := r
  cases z with
  | cons r1 z => cases z with
    | cons r2 z => cases z with
      | nil => obtain ⟨t, rfl⟩ := r1; obtain ⟨u, rfl⟩ := r2; exact ⟨a, t, u, rfl, ht⟩
theorem percent_bin {A : Around} {E : Value → Shared → Prop} {s : Shared} {X T : PySem.Str} {t : Tok} {Q : Value → Shared → Prop} {b : Addr} {its : Array Value} (ht : IsTup s.heap b its)
    (hm : Meets (Builtin.«str.__mod__» ⟨[.str X t, .ref b], []⟩) (fun _ R s => IsTup s.heap b its ∧ ∀ t' k, R (.ok (.ret (.str T t'))) { s with toks := k }))
    (h : ∀ t' k, Q (.str T t') { s with toks := k }) : wpAny (model W.prog W.w) A (binaryOp .Mod (.str X t) (.ref b)) Q E s := by
  have hT : s.TypeIs (.ref b) "tuple" := by
    obtain ⟨o, ho, hc, _⟩ := ht
    exact ⟨o, ho, hc⟩
  exact KPt.bin_left (T := "str") (U := "tuple") (op := .Mod) (by decide) (typeIs_str s X t) hT F.fills_str_mod KPt.fills_tuple F.slot_str_mod
    (call_meets F.slot_str_mod (typeIs_str s X t) F.entry_str_mod (F.args_str_mod_2 _ _) hm ⟨ht, fun t' k => ⟨(fun e => nomatch e), h t' k⟩⟩)
set_option maxHeartbeats 4000000 in
theorem meets_fmt1 (x y : Str) (t t1 t2 : Tok) (b : Addr) (hx : x.length ≤ 1000000) (hy : y.length ≤ 1000000) :
    Meets (Builtin.«str.__mod__» ⟨[.str ⟨#[37, 115, 58, 32, 37, 115]⟩ t, .ref b], []⟩) (fun _ R s => IsTup s.heap b #[.str x t1, .str y t2] ∧ ∀ t' k, R (.ok (.ret (.str (x ++ ⟨#[58, 32]⟩ ++ y) t'))) { s with toks := k }) := by
  kpt_run
end
end

section
open PySem PySem.W PyProof.Rows PySem.Spec PySem.SeqAt PySem.Calls
set_option autoImplicit false
set_option linter.unusedVariables false
set_option maxRecDepth 100000
set_option tactic.hygienic false
noncomputable def namesOk (names : List (Str × NameKind)) (ns : List String) : Bool := ns.all fun n => names.lookup (Str.ofString n) == some .local || (names.lookup (Str.ofString n) == some .cell && ((cellsFrom 0 names []).map (·.1)).contains (Str.ofString n))
theorem lookup_isSome {α : Type} : ∀ {l : List (Str × α)} {x : Str}, (l.map (·.1)).contains x = true → (l.lookup x).isSome = true
  | [], x, h => by simp at h
  | (y, c) :: l, x, h => by
    rw [List.lookup_cons]
    cases e : x == y with
    | true => rfl
    | false =>
      refine lookup_isSome ?_
      simp only [List.map_cons, List.contains_cons, e, Bool.false_or] at h
      exact h
theorem names_ok {names : List (Str × NameKind)} {ns : List String} (h : namesOk names ns = true) : ∀ k, ∀ n ∈ ns, names.lookup (Str.ofString n) = some .local ∨ (names.lookup (Str.ofString n) = some .cell ∧ ((cellsFrom k names []).lookup (Str.ofString n)).isSome = true) := by
  intro k n hn
  have z := List.all_eq_true.mp h n hn
  simp only [Bool.or_eq_true, beq_iff_eq, Bool.and_eq_true] at z
  rcases z with z | ⟨z1, z2⟩
  · exact .inl z
  · refine .inr ⟨z1, lookup_isSome ?_⟩
    rw [cellsFrom_names names k 0 [] [] rfl]
    exact z2
theorem zip_names : ∀ {ns : List String} {args : List PV}, args.length = ns.length → (ns.zip args).map (·.1) = ns
  | [], [], _ => rfl
  | n :: ns, a :: as, h => by simp only [List.zip_cons_cons, List.map_cons]; rw [zip_names (by simpa using h)]
theorem zip_rel {W : Wd} {h : Heap} {ρ : Rh} : ∀ {ns : List String} {vs : List Value} {l : List PV}, All2 (RepV h ρ) vs l → BRel h ρ ((ns.map Str.ofString).zip vs) (ns.zip l)
  | [], _, _, _ => .nil
  | n :: ns, _, _, .nil => .nil
  | n :: ns, _, _, .cons r z => .cons ⟨rfl, r⟩ (zip_rel (W := W) z)
theorem BindOk.mk {W : Wd} {fd : FuncData} {pb : List PV → List (String × PV) → Option (List (String × PV))}
    (h : ∀ (s : Shared) (ρ : Rh) (args : List Value) (kw : List (Str × Value)) (pargs : List PV) (pkw : List (String × PV)) (l : List (String × PV)), (∀ b o, W.h₀.get? b = some o → s.heap.get? b = some o) → All2 (RepV s.heap ρ) args pargs → KwRel s.heap ρ kw pkw → pb pargs pkw = some l → ∃ binds, BindsTo s fd ⟨args, kw⟩ binds ∧ BRel s.heap ρ binds l) :
    BindOk W fd (fun a k H => (pb a k).map fun l => (l, H)) := by
  intro A s ρ H args kw pargs pkw l H' Q E hc ra rk e hq
  obtain ⟨l', e1, e2⟩ := Option.map_eq_some_iff.mp e
  cases e2
  obtain ⟨binds, hb, hr⟩ := h s ρ args kw pargs pkw l hc.base ra rk e1
  exact hb _ A E Q (hq binds s.heap ρ s.toks hc Keeps.refl .refl rfl (Nat.le_refl _) hr)
noncomputable def pb0 (ns : List String) : List PV → List (String × PV) → Option (List (String × PV)) := fun a k => if a.length = ns.length ∧ k = [] then some (ns.zip a) else none
noncomputable def pbOf (pb : List PV → List (String × PV) → Option (List (String × PV))) : List PV → List (String × PV) → List PO → Option (List (String × PV) × List PO) := fun a k H => (pb a k).map fun l => (l, H)
set_option tactic.hygienic true in
theorem bind_pos {W : Wd} {fd : FuncData} {ns : List String} (h : ∀ args : List Value, args.length = ns.length → bindArgs fd ⟨args, []⟩ = pure ((ns.map Str.ofString).zip args)) : BindOk W fd (pbOf (pb0 ns)) := by
  refine BindOk.mk fun s ρ args kw pargs pkw l hb ra rk e => ?_
  unfold pb0 at e
  split at e
  · rename_i hh
    obtain ⟨h1, rfl⟩ := hh
    cases e
    cases rk
    exact ⟨_, BindsTo.of_eq (h args (by rw [ra.length]; exact h1)), zip_rel (W := W) ra⟩
  · cases e
theorem len_one {α : Type} : ∀ {l : List α}, l.length = 1 → ∃ a, l = [a]
  | [a], _ => ⟨a, rfl⟩
theorem len_cons {α : Type} {n : Nat} : ∀ {l : List α}, l.length = n + 1 → ∃ a r, l = a :: r ∧ r.length = n
  | a :: r, h => ⟨a, r, rfl, Nat.succ.inj h⟩
theorem bp1 {fd : FuncData} {n : String} (h : ∀ a : Value, bindArgs fd ⟨[a], []⟩ = pure [(Str.ofString n, a)]) : ∀ args : List Value, args.length = [n].length → bindArgs fd ⟨args, []⟩ = pure (([n].map Str.ofString).zip args) := by
  intro args e
  obtain ⟨a, rfl⟩ := len_one e
  exact h a
theorem bp2 {fd : FuncData} {n m : String} (h : ∀ a b : Value, bindArgs fd ⟨[a, b], []⟩ = pure [(Str.ofString n, a), (Str.ofString m, b)]) : ∀ args : List Value, args.length = [n, m].length → bindArgs fd ⟨args, []⟩ = pure (([n, m].map Str.ofString).zip args) := by
  intro args e
  obtain ⟨a, r, rfl, e1⟩ := len_cons e
  obtain ⟨b, rfl⟩ := len_one e1
  exact h a b
theorem bp3 {fd : FuncData} {n m l : String} (h : ∀ a b c : Value, bindArgs fd ⟨[a, b, c], []⟩ = pure [(Str.ofString n, a), (Str.ofString m, b), (Str.ofString l, c)]) : ∀ args : List Value, args.length = [n, m, l].length → bindArgs fd ⟨args, []⟩ = pure (([n, m, l].map Str.ofString).zip args) := by
  intro args e
  obtain ⟨a, r1, rfl, e1⟩ := len_cons e
  obtain ⟨b, r2, rfl, e2⟩ := len_cons e1
  obtain ⟨c, rfl⟩ := len_one e2
  exact h a b c
set_option tactic.hygienic true in
theorem pb0_names {ns : List String} {a : List PV} {kw : List (String × PV)} {H : List PO} {l : List (String × PV)} {H' : List PO} (h : pbOf (pb0 ns) a kw H = some (l, H')) : l.map (·.1) = ns := by
  unfold pbOf pb0 at h
  obtain ⟨l', e1, e2⟩ := Option.map_eq_some_iff.mp h
  cases e2
  split at e1
  · rename_i hh; cases e1; exact zip_names hh.1
  · cases e1
section
variable {W : Wd} {d : Nat} {env : Env} {G : GG}
theorem st_swap2 {ts : List Expr} {k : Nat} {tp : Pos} {e : Expr} {pos : Pos} {p : PM PV} {n m : String} (hs : swapsWithSole [.Tuple ts k tp] e pos.line env = pure false) (hw : swappedStores [.Tuple ts k tp] e env = pure (some [Str.ofString n, Str.ofString m])) (h : SE W d env e p) (hn : Stores env n) (hm : Stores env m) :
    SSt W d env (.Assign [.Tuple ts k tp] e pos) (PM.bind p fun v => PM.bind (pswap [n, m] v) fun _ => PM.pure .next) := st_swap h (by intro x hx; simp only [List.mem_cons, List.not_mem_nil, or_false] at hx; rcases hx with rfl | rfl <;> assumption) hs hw
theorem e_name {n : String} {pos : Pos} (hd : (Str.ofString n == ("__debug__" : Str)) = false) (hc : (Str.ofString n == ("__classdict__" : Str)) = false) : SE W d env (.Name (Str.ofString n) pos) (pget n) := fun G => s_name hd hc
theorem e_glob {x : Str} {pos : Pos} {a : Addr} (hx : env.kindOf x = some .globalImplicit) (e : nsIn W.K mainGlobals x = some (some (.ref a))) (hd : (x == ("__debug__" : Str)) = false) : SE W d env (.Name x pos) (PM.pure (.glob a)) := fun G => s_gname hx e (fun _ _ => rfl) hd
theorem e_gstr {x s : Str} {t : Tok} {pos : Pos} (hx : env.kindOf x = some .globalImplicit) (e : nsIn W.K mainGlobals x = some (some (.str s t))) (hd : (x == ("__debug__" : Str)) = false) : SE W d env (.Name x pos) (PM.pure (.str s)) := fun G => s_gname hx e (fun _ _ => ⟨_, rfl⟩) hd
theorem e_btype {x : Str} {pos : Pos} {T : String} (hx : env.kindOf x = some .globalImplicit) (e : nsIn W.K mainGlobals x = some none) (eb : bootBuiltins x = some (.type T)) (hn : x ≠ "__name__") (hd : (x == ("__debug__" : Str)) = false) : SE W d env (.Name x pos) (PM.pure (.typ T)) := fun G => s_bname hx e eb (fun _ _ => rfl) hn hd
theorem e_tstr {pos : Pos} (hx : env.kindOf "str" = some .globalImplicit) (e : nsIn W.K mainGlobals "str" = some none) : SE W d env (.Name "str" pos) (PM.pure (.typ "str")) := e_btype hx e (by decide +kernel) (by decide) (by decide)
theorem e_tlist {pos : Pos} (hx : env.kindOf "list" = some .globalImplicit) (e : nsIn W.K mainGlobals "list" = some none) : SE W d env (.Name "list" pos) (PM.pure (.typ "list")) := e_btype hx e (by decide +kernel) (by decide) (by decide)
theorem e_none {k : Nat} {pos : Pos} : SE W d env (.Constant .none k pos) (PM.pure .none) := fun _ => s_cnone
theorem e_bool {b : Bool} {k : Nat} {pos : Pos} : SE W d env (.Constant (.bool b) k pos) (PM.pure (.bool b)) := fun _ => s_cbool
theorem e_int {i : Int} {k : Nat} {pos : Pos} : SE W d env (.Constant (.int i) k pos) (PM.pure (.int i)) := fun _ => s_cint
theorem e_str {x : Str} {k : Nat} {pos : Pos} : SE W d env (.Constant (.str x) k pos) (PM.pure (.str x)) := fun _ => s_cstr
theorem s_lits3 {x y z : Str} {k1 k2 k3 : Nat} {p1 p2 p3 lp pos : Pos} {i : Expr} {q : PM PV} (hi : SE W d env i q) (hs : ∀ o x, subscripted i false o x = operate [o, x] (getItem o x)) :
    SE W d env (.Subscript (.List [.Constant (.str x) k1 p1, .Constant (.str y) k2 p2, .Constant (.str z) k3 p3] lp) i pos) (PM.bind (palloc (.list [.lit x, .lit y, .lit z])) fun a => PM.bind q fun b => pitem a b) := by
  have h := s_item (W := W) (d := d) (env := env) (pos := pos) (s_list (pos := lp) (ss_cons (s_clit (x := x) (k := k1) (pos := p1)) (ss_cons (s_clit (x := y) (k := k2) (pos := p2)) (ss_cons (s_clit (x := z) (k := k3) (pos := p3)) ss_nil rfl) rfl) rfl)) hi hs
  have e : (PM.bind (PM.bind (PM.pure (.lit x)) fun a => PM.bind (PM.bind (PM.pure (.lit y)) fun a => PM.bind (PM.bind (PM.pure (.lit z)) fun a => PM.bind (PM.pure []) fun l => PM.pure (a :: l)) fun l => PM.pure (a :: l)) fun l => PM.pure (a :: l)) fun l => pguard (l.length ≤ sizeLine) (palloc (.list l))) = palloc (.list [.lit x, .lit y, .lit z]) := by
    funext σ
    show pguard (3 ≤ sizeLine) (palloc (.list [.lit x, .lit y, .lit z])) σ = _
    unfold pguard
    rw [if_pos (by rw [sizeLine_eq]; lia)]
  rw [e] at h
  exact h
noncomputable def pFmt1 : PV → PV → PM PV
  | .str f, .tup [.str x, .str y] => pguard (f = Str.ofString "%s: %s" ∧ x.length ≤ 1000000 ∧ y.length ≤ 1000000) (PM.pure (.str (x ++ ⟨#[58, 32]⟩ ++ y)))
  | _, _ => pfail
set_option tactic.hygienic true in
theorem pFmt1_inv {s : Shared} {ρ : Rh} {σ : PS} {Q : Value → Shared → Prop} {E : Value → Shared → Prop} {pa pb : PV} (hp : Post0 W env rrV s ρ Q E (pFmt1 pa pb σ)) :
    ∃ x y, pa = .str (Str.ofString "%s: %s") ∧ pb = .tup [.str x, .str y] ∧ x.length ≤ 1000000 ∧ y.length ≤ 1000000 ∧ Post0 W env rrV s ρ Q E (PM.pure (.str (x ++ ⟨#[58, 32]⟩ ++ y)) σ) := by
  unfold pFmt1 at hp
  split at hp
  · rename_i f x y
    obtain ⟨⟨h0, h1, h2⟩, hp⟩ := pguard_inv hp
    exact ⟨x, y, by rw [h0], rfl, h1, h2, hp⟩
  · exact hp.elim
theorem fmt1_eq : Str.ofString "%s: %s" = ⟨#[37, 115, 58, 32, 37, 115]⟩ := by decide +kernel
theorem o_fmt1 {a b : Value} {pa pb : PV} (ga : ∀ h ρ, G.P h ρ → RepV h ρ a pa) (gb : ∀ h ρ, G.P h ρ → RepV h ρ b pb) : Sim W d env rrV G (binaryOp .Mod a b) (pFmt1 pa pb) := by
  refine Sim.of0 ?_
  intro A s ρ σ Q E ha hr hg hp
  have ra := ga _ _ hg
  have rb := gb _ _ hg
  obtain ⟨x, y, rfl, rfl, h1, h2, hp⟩ := pFmt1_inv hp
  obtain ⟨t, rfl⟩ := ra
  obtain ⟨c, t1, t2, rfl, ht⟩ := tup_str2 rb
  rw [fmt1_eq]
  exact percent_bin ht (meets_fmt1 x y t t1 t2 c h1 h2) fun t' k => post_val hr hp ⟨_, rfl⟩ _
theorem s_fmt1 {l r : Expr} {pos : Pos} {p q : PM PV} (hl : SE W d env l p) (hr : SE W d env r q) : SE W d env (.BinOp l .Mod r pos) (PM.bind p fun a => PM.bind q fun b => pFmt1 a b) := s_bin (fun _ _ _ _ _ x y => o_fmt1 x y) hl hr
theorem f_more {d' : Nat} {f : Value} {spec : FSpec} (h : FHolds W d f spec) (l : d ≤ d') : FHolds W d' f spec := h.more l
theorem c_strI1 {spec : FSpec} {fa : Addr} (hs : findIn W.K (.ref W.C) "__str__" = some (some (.ref fa))) (hf : typeIn W.K (.ref fa) = some (.type "function")) (F : FHolds W (d - 1) (.ref fa) spec) (hd : 0 < d) : CallOk W d env (.type "str") (fStrI spec) := by
  obtain ⟨n, rfl⟩ : ∃ n, d = n + 1 := ⟨d - 1, by lia⟩
  exact c_strI (by simpa using F) hs hf
theorem m_lower {o : Expr} {apos pos : Pos} {es : List Expr} {p : PM PV} {q : PM (List PV)} (ho : SE W d env o p) (hes : SEs W d env es q) (hn : noStar es = true) (hb : ∀ t, attributeBase o "lower" env t = t) (hf : methodCallForm (es.length + 0) (backTo pos (starEach es env)) [] = true) (hpos : (apos.endLine == pos.line) = true) :
    SE W d env (.Call (.Attribute o "lower" apos) es [] pos) (PM.bind p fun a => pstr a fun x => PM.bind q fun l => mLower x l) := s_lower ho hes hn hb hf hpos
theorem m_partition {o : Expr} {apos pos : Pos} {es : List Expr} {p : PM PV} {q : PM (List PV)} (ho : SE W d env o p) (hes : SEs W d env es q) (hn : noStar es = true) (hb : ∀ t, attributeBase o "partition" env t = t) (hf : methodCallForm (es.length + 0) (backTo pos (starEach es env)) [] = true) (hpos : (apos.endLine == pos.line) = true) :
    SE W d env (.Call (.Attribute o "partition" apos) es [] pos) (PM.bind p fun a => pstr a fun x => PM.bind q fun l => mPartition x l) := s_partition ho hes hn hb hf hpos
theorem m_split {o : Expr} {apos pos : Pos} {es : List Expr} {p : PM PV} {q : PM (List PV)} (ho : SE W d env o p) (hes : SEs W d env es q) (hn : noStar es = true) (hb : ∀ t, attributeBase o "split" env t = t) (hf : methodCallForm (es.length + 0) (backTo pos (starEach es env)) [] = true) (hpos : (apos.endLine == pos.line) = true) :
    SE W d env (.Call (.Attribute o "split" apos) es [] pos) (PM.bind p fun a => pstr a fun x => PM.bind q fun l => mSplit x l) := s_split ho hes hn hb hf hpos
theorem m_join {o : Expr} {apos pos : Pos} {es : List Expr} {p : PM PV} {q : PM (List PV)} (ho : SE W d env o p) (hes : SEs W d env es q) (hn : noStar es = true) (hb : ∀ t, attributeBase o "join" env t = t) (hf : methodCallForm (es.length + 0) (backTo pos (starEach es env)) [] = true) (hpos : (apos.endLine == pos.line) = true) :
    SE W d env (.Call (.Attribute o "join" apos) es [] pos) (PM.bind p fun a => pstr a fun x => PM.bind q fun l => mJoin x l) := s_join ho hes hn hb hf hpos
theorem ml_append {o : Expr} {apos pos : Pos} {es : List Expr} {p : PM PV} {q : PM (List PV)} (ho : SE W d env o p) (hes : SEs W d env es q) (hn : noStar es = true) (hb : ∀ t, attributeBase o "append" env t = t) (hf : methodCallForm (es.length + 0) (backTo pos (starEach es env)) [] = true) (hpos : (apos.endLine == pos.line) = true) :
    SE W d env (.Call (.Attribute o "append" apos) es [] pos) (PM.bind p fun a => match a with
      | .ref i => plist i fun _ => PM.bind q fun l => mAppend i l
      | _ => pfail) := s_append ho hes hn hb hf hpos
theorem b_len {px pos : Pos} {es : List Expr} {q : PM (List PV)} (hx : env.kindOf "len" = some .globalImplicit) (e : nsIn W.K mainGlobals "len" = some none) (hes : SEs W d env es q) (hn : noStar es = true) : SE W d env (.Call (.Name "len" px) es [] pos) (PM.bind q fLen) := s_bcall hx e (by decide +kernel) hes hn c_len
theorem b_chr {px pos : Pos} {es : List Expr} {q : PM (List PV)} (hx : env.kindOf "chr" = some .globalImplicit) (e : nsIn W.K mainGlobals "chr" = some none) (hes : SEs W d env es q) (hn : noStar es = true) : SE W d env (.Call (.Name "chr" px) es [] pos) (PM.bind q fChr) := s_bcall hx e (by decide +kernel) hes hn c_chr
theorem b_int {px pos : Pos} {es : List Expr} {q : PM (List PV)} (hx : env.kindOf "int" = some .globalImplicit) (e : nsIn W.K mainGlobals "int" = some none) (hes : SEs W d env es q) (hn : noStar es = true) : SE W d env (.Call (.Name "int" px) es [] pos) (PM.bind q fInt) := s_tcall hx e (by decide +kernel) hes hn c_int
theorem b_type {px pos : Pos} {es : List Expr} {q : PM (List PV)} (hx : env.kindOf "type" = some .globalImplicit) (e : nsIn W.K mainGlobals "type" = some none) (hes : SEs W d env es q) (hn : noStar es = true) : SE W d env (.Call (.Name "type" px) es [] pos) (PM.bind q fType) := s_tcall hx e (by decide +kernel) hes hn c_type
noncomputable def fStrB (spec : FSpec) : List PV → PM PV
  | [.int n] => fStr [.int n]
  | [.ref i] => fStrI spec [.ref i]
  | _ => pfail
theorem b_strB {px pos : Pos} {es : List Expr} {q : PM (List PV)} {spec : FSpec} {fa : Addr} (hx : env.kindOf "str" = some .globalImplicit) (e : nsIn W.K mainGlobals "str" = some none) (hes : SEs W d env es q) (hn : noStar es = true) (hs : findIn W.K (.ref W.C) "__str__" = some (some (.ref fa))) (hf : typeIn W.K (.ref fa) = some (.type "function")) (F : FHolds W (d - 1) (.ref fa) spec) (hd : 0 < d) : SE W d env (.Call (.Name "str" px) es [] pos) (PM.bind q (fStrB spec)) := by
  refine s_tcall (T := "str") hx e (by decide +kernel) hes hn fun G vs l gl => ?_
  unfold fStrB
  split
  · exact c_str G vs _ gl
  · exact c_strI1 hs hf F hd G vs _ gl
  · exact s_fail
noncomputable def pNeg : PV → PM PV
  | .int n => PM.pure (.int (-n))
  | _ => pfail
theorem s_neg {e : Expr} {pos : Pos} {p : PM PV} (h : SE W d env e p) : SE W d env (.UnaryOp .USub e pos) (PM.bind p pNeg) := by
  intro G
  show Sim W d env rrV G (eval e env >>= fun v => standAt pos >>= fun _ => holding [v] (unaryOp .USub v)) _
  refine Sim.bind (h G) fun a pa => Sim.stand (Sim.holding (Sim.of0 ?_))
  intro A s ρ σ Q E ha hr hg hp
  have ra : RepV s.heap ρ a pa := hg.2
  unfold pNeg at hp
  split at hp
  · obtain ⟨t, rfl⟩ := ra
    exact PyProof.Rows.neg_int (post_val hr hp ⟨_, rfl⟩ _)
  · exact hp.elim
end
end

section
open PySem PySem.W PyProof.Rows PySem.Spec PySem.SeqAt PySem.Calls
set_option autoImplicit false
set_option linter.unusedVariables false
set_option maxRecDepth 100000
set_option tactic.hygienic false
noncomputable def PW {α : Type} (p : PM α) (σ : PS) (Q : α → PS → Prop) : Prop := ∃ a σ', p σ = some (.ok a, σ') ∧ Q a σ'
section
variable {α β : Type} {σ : PS}
theorem PW.mono {p : PM α} {Q Q' : α → PS → Prop} (h : PW p σ Q) (k : ∀ a σ', Q a σ' → Q' a σ') : PW p σ Q' := by
  obtain ⟨a, σ', e, q⟩ := h; exact ⟨a, σ', e, k _ _ q⟩
theorem PW.bind {p : PM α} {q : α → PM β} {Q : β → PS → Prop} (h : PW p σ fun a σ' => PW (q a) σ' Q) : PW (PM.bind p q) σ Q := by
  obtain ⟨a, σ', e, b, σ'', e2, hq⟩ := h
  exact ⟨b, σ'', by unfold PM.bind; rw [e]; exact e2, hq⟩
theorem PW.pure {a : α} {Q : α → PS → Prop} (h : Q a σ) : PW (PM.pure a) σ Q := ⟨a, σ, rfl, h⟩
theorem PW.get {n : String} {v : PV} {Q : PV → PS → Prop} (e : σ.loc.lookup n = some v) (h : Q v σ) : PW (pget n) σ Q := ⟨v, σ, by unfold pget; rw [e], h⟩
theorem PW.put {n : String} {v : PV} {Q : Unit → PS → Prop} (h : Q () { σ with loc := lset n v σ.loc }) : PW (pput n v) σ Q := ⟨(), _, rfl, h⟩
theorem PW.guard {c : Prop} [Decidable c] {p : PM α} {Q : α → PS → Prop} (hc : c) (h : PW p σ Q) : PW (pguard c p) σ Q := by
  unfold pguard; rw [if_pos hc]; exact h
theorem PW.alloc {o : PO} {Q : PV → PS → Prop} (h : Q (.ref σ.H.length) { σ with H := σ.H ++ [o] }) : PW (palloc o) σ Q := ⟨_, _, rfl, h⟩
theorem PW.plist {i : Nat} {f : List PV → PM α} {l : List PV} {Q : α → PS → Prop} (e : σ.H[i]? = some (.list l)) (h : PW (f l) σ Q) : PW (plist i f) σ Q := by
  obtain ⟨a, σ', e2, q⟩ := h
  exact ⟨a, σ', by unfold Mine.plist; rw [e]; exact e2, q⟩
theorem PW.inst {i k : Nat} {fs : List (String × PV)} {f : Nat → List (String × PV) → PM α} {Q : α → PS → Prop} (e : σ.H[i]? = some (.inst k)) (e2 : σ.H[k]? = some (.dct fs)) (h : PW (f k fs) σ Q) : PW (pinst i f) σ Q := by
  obtain ⟨a, σ', e3, q⟩ := h
  exact ⟨a, σ', by unfold pinst; rw [e]; dsimp only; rw [e2]; exact e3, q⟩
theorem PW.opt {γ : Type} {o : Option γ} {c : γ} {f : γ → PM α} {Q : α → PS → Prop} (e : o = some c) (h : PW (f c) σ Q) : PW (popt o f) σ Q := by subst e; exact h
theorem PW.noexc {p : PM α} {Q : α → PS → Prop} (h : PW p σ Q) : PW (pnoexc p) σ Q := by
  obtain ⟨a, σ', e, q⟩ := h
  exact ⟨a, σ', by unfold pnoexc; rw [e], q⟩
theorem PW.call {spec : FSpec} {a : List PV} {kw : List (String × PV)} {v : PV} {H' : List PO} {Q : PV → PS → Prop} (e : spec a kw σ.H = some (.ok v, H')) (h : Q v { σ with H := H' }) : PW (pcall spec a kw) σ Q := ⟨v, _, by unfold pcall; rw [e], h⟩
theorem PW.ite {c : PM Bool} {p q : PM α} {Q : α → PS → Prop} (h : PW c σ fun b σ' => PW (if b = true then p else q) σ' Q) : PW (pite c p q) σ Q := PW.bind h
theorem PW.seq {p q : PM PF} {Q : PF → PS → Prop} (h : PW p σ fun f σ' => match f with
    | .next => PW q σ' Q
    | f => Q f σ') : PW (pseq p q) σ Q := by
  refine PW.bind (h.mono fun f σ' z => ?_)
  cases f with
  | next => exact z
  | _ => exact PW.pure z
theorem PW.eq {p : PM α} {r : Option (Res α × PS)} {a : α} {σ' : PS} (h : PW p σ fun b τ => b = a ∧ τ = σ') : p σ = some (.ok a, σ') := by
  obtain ⟨b, τ, e, rfl, rfl⟩ := h; exact e
theorem PW.fspec {pb : List PV → List (String × PV) → List PO → Option (List (String × PV) × List PO)} {p : PM PF} {a : List PV} {kw : List (String × PV)} {H H₁ H' : List PO} {l : List (String × PV)} {v : PV} (e : pb a kw H = some (l, H₁))
    (h : PW p ⟨l, H₁⟩ fun f σ' => σ'.H = H' ∧ (f = .ret v ∨ (f = .next ∧ v = .none))) : fspec pb p a kw H = some (.ok v, H') := by
  obtain ⟨f, σ', e2, rfl, h⟩ := h
  unfold Mine.fspec
  rw [e]
  dsimp only
  rw [e2]
  rcases h with rfl | ⟨rfl, rfl⟩ <;> rfl
theorem PW.forList {i : Nat} {l : List PV} {asg : PV → PM Unit} {b : PM PF} {Q : PF → PS → Prop} (I : Nat → PS → Prop) (hl : ∀ j σ, I j σ → σ.H[i]? = some (.list l))
    (step : ∀ j p σ, l[j]? = some p → I j σ → PW (asg p) σ fun _ σ₁ => PW b σ₁ fun f σ₂ => match f with
      | .next => I (j + 1) σ₂
      | .cont => I (j + 1) σ₂
      | .brk => Q .next σ₂
      | .ret v => Q (.ret v) σ₂)
    (fin : ∀ σ, I l.length σ → Q .next σ) : ∀ (N j : Nat) (σ : PS), l.length < N + j → j ≤ l.length → I j σ → PW (pfor (nxList i) asg b N j) σ Q := by
  intro N
  induction N with
  | zero => intro j σ h1 h2; lia
  | succ N ih =>
    intro j σ h1 h2 hI
    have hn : nxList i j σ.H = some l[j]? := by unfold nxList; rw [hl j σ hI]
    by_cases hj : j < l.length
    · have e : l[j]? = some l[j] := List.getElem?_eq_getElem hj
      rw [e] at hn
      have z : PW (PM.bind (pnoexc (asg l[j])) (fun _ => PM.bind (pnoexc b) fun r => pturn r (pfor (nxList i) asg b N (j + 1)))) σ Q := by
        refine PW.bind (PW.noexc ((step j _ σ e hI).mono fun _ σ₁ h₁ => PW.bind (PW.noexc (h₁.mono fun f σ₂ h₂ => ?_))))
        cases f with
        | next => exact ih (j + 1) σ₂ (by lia) (by lia) h₂
        | cont => exact ih (j + 1) σ₂ (by lia) (by lia) h₂
        | brk => exact PW.pure h₂
        | ret v => exact PW.pure h₂
      obtain ⟨a, σ', e3, q⟩ := z
      exact ⟨a, σ', by unfold pfor; rw [hn]; exact e3, q⟩
    · have : j = l.length := by lia
      subst this
      have e : l[l.length]? = none := List.getElem?_eq_none (Nat.le_refl _)
      rw [e] at hn
      exact ⟨.next, σ, by unfold pfor; rw [hn], fin σ hI⟩
theorem PW.forRange {a n : Int} {asg : PV → PM Unit} {b : PM PF} {Q : PF → PS → Prop} (I : Nat → PS → Prop)
    (step : ∀ (j : Nat) σ, (j : Int) < n → I j σ → PW (asg (.int (a + j))) σ fun _ σ₁ => PW b σ₁ fun f σ₂ => match f with
      | .next => I (j + 1) σ₂
      | .cont => I (j + 1) σ₂
      | .brk => Q .next σ₂
      | .ret v => Q (.ret v) σ₂)
    (fin : ∀ (j : Nat) σ, ¬ ((j : Int) < n) → I j σ → Q .next σ) : ∀ (N j : Nat) (σ : PS), 0 < N → n < N + j → I j σ → PW (pfor (nxRange a n) asg b N j) σ Q := by
  intro N
  induction N with
  | zero =>
    intro j σ h0 h1 hI
    lia
  | succ N ih =>
    intro j σ h0 h1 hI
    by_cases hj : (j : Int) < n
    · have hn : nxRange a n j σ.H = some (some (.int (a + j))) := by unfold nxRange; rw [if_pos hj]
      have z : PW (PM.bind (pnoexc (asg (.int (a + j)))) (fun _ => PM.bind (pnoexc b) fun r => pturn r (pfor (nxRange a n) asg b N (j + 1)))) σ Q := by
        refine PW.bind (PW.noexc ((step j σ hj hI).mono fun _ σ₁ h₁ => PW.bind (PW.noexc (h₁.mono fun f σ₂ h₂ => ?_))))
        cases f with
        | next => exact ih (j + 1) σ₂ (by lia) (by lia) h₂
        | cont => exact ih (j + 1) σ₂ (by lia) (by lia) h₂
        | brk => exact PW.pure h₂
        | ret v => exact PW.pure h₂
      obtain ⟨x, σ', e3, q⟩ := z
      exact ⟨x, σ', by unfold pfor; rw [hn]; exact e3, q⟩
    · have hn : nxRange a n j σ.H = some none := by unfold nxRange; rw [if_neg hj]
      exact ⟨.next, σ, by unfold pfor; rw [hn], fin j σ hj hI⟩

theorem PW.compL {nx : NX} {asg : PV → PM Unit} {test : PM Bool} {elt : PM PV} {acc : Nat} {Q : Unit → PS → Prop} (I : Nat → List PV → PS → Prop) (len : Nat) (src : Nat → PV)
    (hnx : ∀ j out σ, I j out σ → nx j σ.H = some (if j < len then some (src j) else none)) (hacc : ∀ j out σ, I j out σ → σ.H[acc]? = some (.list out))
    (step : ∀ j out σ, j < len → I j out σ → PW (asg (src j)) σ fun _ σ₁ => PW test σ₁ fun t σ₂ => if t = true then PW elt σ₂ fun v σ₃ => σ₃.H[acc]? = some (.list out) ∧ I (j + 1) (out ++ [v]) { σ₃ with H := σ₃.H.set acc (.list (out ++ [v])) } else I (j + 1) out σ₂)
    (hsz : ∀ j out σ, I j out σ → out.length ≤ j) (hlen : len ≤ 1000)
    (fin : ∀ out σ, I len out σ → Q () σ) : ∀ (N j : Nat) (out : List PV) (σ : PS), len < N + j → j ≤ len → I j out σ → PW (pcompL nx asg test elt acc N j) σ Q := by
  intro N
  induction N with
  | zero => intro j out σ h1 h2; lia
  | succ N ih =>
    intro j out σ h1 h2 hI
    have hn := hnx j out σ hI
    by_cases hj : j < len
    · rw [if_pos hj] at hn
      have z : PW (PM.bind (pnoexc (asg (src j))) (fun _ => PM.bind (pnoexc test) fun t => if t = true then PM.bind (pnoexc elt) fun v => PM.bind (mAppend acc [v]) fun _ => pcompL nx asg test elt acc N (j + 1) else pcompL nx asg test elt acc N (j + 1))) σ Q := by
        refine PW.bind (PW.noexc ((step j out σ hj hI).mono fun _ σ₁ h₁ => PW.bind (PW.noexc (h₁.mono fun t σ₂ h₂ => ?_))))
        cases t with
        | false => exact ih (j + 1) out σ₂ (by lia) (by lia) h₂
        | true =>
          refine PW.bind (PW.noexc (PW.mono h₂ fun v σ₃ h₃ => PW.bind ?_))
          unfold mAppend
          refine PW.plist h₃.1 (PW.guard (by rw [sizeLine_eq]; have := hsz _ _ _ h₃.2; rw [List.length_append] at this; simp at this; lia) ⟨.none, _, rfl, ?_⟩)
          exact ih (j + 1) _ _ (by lia) (by lia) h₃.2
      obtain ⟨a, σ', e3, q⟩ := z
      exact ⟨a, σ', by unfold pcompL; rw [hn]; exact e3, q⟩
    · rw [if_neg hj] at hn
      have : j = len := by lia
      subst this
      exact ⟨(), σ, by unfold pcompL; rw [hn], fin out σ hI⟩
theorem PW.comp {capt : List String} {p : PM NX} {asg : PV → PM Unit} {test : PM Bool} {elt : PM PV} {N : Nat} {Q : PV → PS → Prop}
    (h : PW p σ fun nx σ₁ => PW (pcompL nx asg test elt σ₁.H.length N 0) (pinner capt { σ₁ with H := σ₁.H ++ [.list []] }) fun _ σ' => ∃ loc, pback capt σ'.loc σ₁.loc = some loc ∧ Q (.ref σ₁.H.length) ⟨loc, σ'.H⟩) : PW (pcomp capt p asg test elt N) σ Q := by
  unfold pcomp
  refine PW.bind (PW.noexc (h.mono fun nx σ₁ h₁ => ?_))
  obtain ⟨_, σ', e, loc, e2, q⟩ := h₁
  refine ⟨.ref σ₁.H.length, ⟨loc, σ'.H⟩, ?_, q⟩
  dsimp only
  rw [e]
  dsimp only
  rw [e2]
end
end

section
open PySem PySem.W PyProof.Rows PySem.Spec PySem.SeqAt PySem.Calls
set_option autoImplicit false
set_option linter.unusedVariables false
set_option maxRecDepth 100000
set_option tactic.hygienic false
section
variable {α β : Type} {σ : PS}
theorem lset_self {n : String} {v : PV} {l : List (String × PV)} : (lset n v l).lookup n = some v := by rw [lset_lookup, if_pos rfl]
theorem lset_ne {n m : String} {v w : PV} {l : List (String × PV)} (h : m ≠ n) (e : l.lookup m = some w) : (lset n v l).lookup m = some w := by rw [lset_lookup, if_neg h]; exact e
theorem PW.ifT {c : Bool} {p q : PM α} {Q : α → PS → Prop} (e : c = true) (h : PW p σ Q) : PW (if c = true then p else q) σ Q := by subst e; exact h
theorem PW.ifF {c : Bool} {p q : PM α} {Q : α → PS → Prop} (e : c = false) (h : PW q σ Q) : PW (if c = true then p else q) σ Q := by subst e; exact h
theorem PW.str {x : Str} {f : Str → PM α} {Q : α → PS → Prop} (h : PW (f x) σ Q) : PW (pstr (.str x) f) σ Q := h
theorem PW.tup {l : List PV} {f : List PV → PM α} {Q : α → PS → Prop} (h : PW (f l) σ Q) : PW (ptup (.tup l) f) σ Q := h
theorem PW.lower {x : Str} {Q : PV → PS → Prop} (hx : x.length ≤ 5592405) (h : Q (.str (Txt.lower x)) σ) : PW (mLower x []) σ Q := PW.guard hx (PW.pure h)
theorem PW.eqS {x y : Str} {Q : PV → PS → Prop} (h : Q (.bool (x == y)) σ) : PW (pEq (.str x) (.str y)) σ Q := PW.pure h
theorem PW.neS {x y : Str} {Q : PV → PS → Prop} (h : Q (.bool (x != y)) σ) : PW (pNe (.str x) (.str y)) σ Q := PW.pure h
theorem PW.eqI {x y : Int} {Q : PV → PS → Prop} (h : Q (.bool (x == y)) σ) : PW (pEq (.int x) (.int y)) σ Q := PW.pure h
theorem PW.tB {b : Bool} {Q : Bool → PS → Prop} (h : Q b σ) : PW (ptruthy (.bool b)) σ Q := PW.pure h
theorem PW.tI {i : Int} {Q : Bool → PS → Prop} (h : Q (i != 0) σ) : PW (ptruthy (.int i)) σ Q := PW.pure h
theorem PW.searchN {P : Pats} {a : Addr} {x : Str} {Q : Bool → PS → Prop} (e : a = P.n) (hx : x.length < 2 ^ 62) (h : Q (hasN x) σ) : PW (pSearch P (.glob a) [.str x]) σ Q := by
  unfold pSearch; refine PW.guard hx ?_; rw [if_pos e]; exact PW.pure h
theorem PW.searchV {P : Pats} {a : Addr} {x : Str} {Q : Bool → PS → Prop} (n : a ≠ P.n) (e : a = P.v) (hx : x.length < 2 ^ 62) (h : Q (hasV x) σ) : PW (pSearch P (.glob a) [.str x]) σ Q := by
  unfold pSearch; refine PW.guard hx ?_; rw [if_neg n, if_pos e]; exact PW.pure h
theorem PW.nxL {i : Nat} {l : List PV} {Q : NX → PS → Prop} (e : σ.H[i]? = some (.list l)) (h : Q (nxList i) σ) : PW (pnxList (.ref i)) σ Q := PW.plist e (PW.pure h)
theorem PW.nxR {n : Int} {Q : NX → PS → Prop} (e : n.natAbs < 2 ^ 62) (h : Q (nxRange 0 n) σ) : PW (pnxRange [.int n]) σ Q := PW.guard e (PW.pure h)
theorem PW.typS {x : Str} {Q : PV → PS → Prop} (h : Q (.typ "str") σ) : PW (fType [.str x]) σ Q := PW.pure h
theorem PW.typL {i : Nat} {l : List PV} {Q : PV → PS → Prop} (e : σ.H[i]? = some (.list l)) (h : Q (.typ "list") σ) : PW (fType [.ref i]) σ Q := PW.plist e (PW.pure h)
theorem PW.isN {p : PV} {Q : PV → PS → Prop} (h : Q (.bool p.isNone) σ) : PW (pIs p .none) σ Q := PW.pure h
theorem PW.isnN {p : PV} {Q : PV → PS → Prop} (h : Q (.bool (!p.isNone)) σ) : PW (pIsNot p .none) σ Q := PW.pure h
theorem PW.isT {x y : String} {Q : PV → PS → Prop} (h : Q (.bool (x == y)) σ) : PW (pIs (.typ x) (.typ y)) σ Q := PW.pure h
theorem PW.isnT {x y : String} {Q : PV → PS → Prop} (h : Q (.bool (!(x == y))) σ) : PW (pIsNot (.typ x) (.typ y)) σ Q := PW.pure h
theorem PW.put2 {n m : String} {v w : PV} {Q : Unit → PS → Prop} (h : Q () { σ with loc := lset m w (lset n v σ.loc) }) : PW (passign [pput n, pput m] [v, w]) σ Q := PW.bind (PW.put (PW.bind (PW.put (PW.pure h))))
theorem PW.field {i k l : Nat} {Q : PV → PS → Prop} (e : σ.H[i]? = some (.inst k)) (e2 : σ.H[k]? = some (.dct [("_headers", .ref l)])) (h : Q (.ref l) σ) : PW (pfield "_headers" (.ref i)) σ Q := PW.inst e e2 (PW.pure h)
theorem PW.append {i : Nat} {l : List PV} {v : PV} {Q : PV → PS → Prop} (e : σ.H[i]? = some (.list l)) (hl : l.length ≤ sizeLine) (h : Q .none { σ with H := σ.H.set i (.list (l ++ [v])) }) : PW (mAppend i [v]) σ Q := PW.plist e (PW.guard hl ⟨_, _, rfl, h⟩)
end
set_option tactic.hygienic true in
theorem if_inv {α : Type} {c : Prop} [Decidable c] {a r : α} (h : (if c then some a else none) = some r) : c ∧ a = r := by
  split at h
  · rename_i hc; exact ⟨hc, Option.some.inj h⟩
  · cases h
noncomputable def row (r : Str × Str) : PV := .tup [.str r.1, .str r.2]
noncomputable def unrow : List PV → Option (List (Str × Str))
  | [] => some []
  | .tup [.str a, .str b] :: r => (unrow r).map ((a, b) :: ·)
  | _ => none
theorem unrow_row : ∀ rows : List (Str × Str), unrow (rows.map row) = some rows
  | [] => rfl
  | (a, b) :: r => by
    show (unrow (r.map row)).map _ = _
    rw [unrow_row r]; rfl
set_option tactic.hygienic true in
theorem unrow_inv : ∀ {xs : List PV} {rows : List (Str × Str)}, unrow xs = some rows → xs = rows.map row
  | [], rows, h => by cases h; rfl
  | x :: xs, rows, h => by
    unfold unrow at h
    split at h
    · rename_i e; cases e
    · rename_i a b r e
      obtain ⟨y, e1, rfl⟩ := Option.map_eq_some_iff.mp h
      cases e
      rw [unrow_inv e1]; rfl
    · cases h
structure Tab (H : List PO) (i l : Nat) (rows : List (Str × Str)) : Prop where
  ex : ∃ k, H[i]? = some (.inst k) ∧ H[k]? = some (.dct [("_headers", .ref l)]) ∧ H[l]? = some (.list (rows.map row))
noncomputable def getTab (H : List PO) (i : Nat) : Option (Nat × List (Str × Str)) := match H[i]? with
  | some (.inst k) => (match H[k]? with
    | some (.dct [(n, .ref l)]) => if n = "_headers" then (match H[l]? with
      | some (.list xs) => (unrow xs).map fun r => (l, r)
      | _ => none) else none
    | _ => none)
  | _ => none
theorem Tab.get {H : List PO} {i l : Nat} {rows : List (Str × Str)} (t : Tab H i l rows) : getTab H i = some (l, rows) := by
  obtain ⟨k, e1, e2, e3⟩ := t.ex
  unfold getTab
  rw [e1]; dsimp only; rw [e2]; dsimp only
  rw [if_pos rfl, e3]; dsimp only
  rw [unrow_row]; rfl
set_option tactic.hygienic true in
theorem Tab.of {H : List PO} {i l : Nat} {rows : List (Str × Str)} (h : getTab H i = some (l, rows)) : Tab H i l rows := by
  unfold getTab at h
  split at h
  · rename_i k e1
    split at h
    · rename_i n l' e2
      split at h
      · rename_i hn
        split at h
        · rename_i xs e3
          obtain ⟨r, e4, e5⟩ := Option.map_eq_some_iff.mp h
          cases e5
          rw [unrow_inv e4] at e3
          subst hn
          exact ⟨k, e1, e2, e3⟩
        · cases h
      · cases h
    · cases h
  · cases h
noncomputable def rowOk (r : Str × Str) : Bool := decide (r.1.length ≤ 10000) && decide (r.2.length ≤ 10000)
noncomputable def rowsOk (rows : List (Str × Str)) : Bool := decide (rows.length ≤ 50) && rows.all rowOk
theorem rowsOk.len {rows : List (Str × Str)} (h : rowsOk rows = true) : rows.length ≤ 50 := by
  unfold rowsOk at h
  simp only [Bool.and_eq_true, decide_eq_true_eq] at h
  exact h.1
theorem rowsOk.row {rows : List (Str × Str)} (h : rowsOk rows = true) {r : Str × Str} (m : r ∈ rows) : r.1.length ≤ 10000 ∧ r.2.length ≤ 10000 := by
  unfold rowsOk at h
  simp only [Bool.and_eq_true, List.all_eq_true] at h
  have := h.2 r m
  unfold rowOk at this
  simpa [Bool.and_eq_true, decide_eq_true_eq] using this
theorem row_at {rows : List (Str × Str)} {j : Nat} {p : PV} (h : (rows.map row)[j]? = some p) : ∃ r, rows[j]? = some r ∧ p = row r := by
  rw [List.getElem?_map] at h
  obtain ⟨r, e, rfl⟩ := Option.map_eq_some_iff.mp h
  exact ⟨r, e, rfl⟩
noncomputable def findRow (rows : List (Str × Str)) (n : Str) : Option (Str × Str) := rows.find? fun r => Txt.lower r.1 == Txt.lower n
noncomputable def getD' (rows : List (Str × Str)) (n : Str) (d : PV) : PV := match findRow rows n with
  | some r => .str r.2
  | none => d
noncomputable def kept (rows : List (Str × Str)) (n : Str) : List (Str × Str) := rows.filter fun r => Txt.lower r.1 != Txt.lower n
noncomputable def lineOf (r : Str × Str) : Str := r.1 ++ ⟨#[58, 32]⟩ ++ r.2
noncomputable def crlf : Str := Str.ofString "\r\n"
end

section
open PySem PySem.W PyProof.Rows PySem.Spec PySem.SeqAt PySem.Calls
set_option autoImplicit false
set_option linter.unusedVariables false
set_option maxRecDepth 100000
set_option tactic.hygienic false
structure ListAt (W : Wd) (a : Addr) (l : List PV) : Prop where
  ex : ∃ vs : List Value, W.h₀.IsList a vs.toArray ∧ All2 (fun v p => ∀ (h : Heap) (ρ : Rh), RepV h ρ v p) vs l
noncomputable def pcutg (a : Addr) (l : List PV) (o x y z : PV) : PM PV := match o with
  | .glob b => pguard (b = a) (ppart x fun lo => ppart y fun hi => ppart z fun st => pguard (st ≠ some 0) (pguard (l.length ≤ sizeLine) (palloc (.list (ppick l lo hi st)))))
  | _ => pfail
section
variable {W : Wd} {d : Nat} {env : Env} {G : GG}
theorem o_cutg {ad : Addr} {l : List PV} (hL : ListAt W ad l) {value : Expr} {lo hi st : Option Expr} {sp pos : Pos} {o a b c : Value} {po pa pb pc : PV} (go : ∀ h ρ, G.P h ρ → RepV h ρ o po) (ga : ∀ h ρ, G.P h ρ → RepV h ρ a pa) (gb : ∀ h ρ, G.P h ρ → RepV h ρ b pb) (gc : ∀ h ρ, G.P h ρ → RepV h ρ c pc) :
    Sim W d env rrV G (holding [o] (newFields "slice" [a, b, c]) >>= fun i => standAt pos >>= fun _ => subscriptTail value (.Slice lo hi st sp) o i) (pcutg ad l po pa pb pc) := by
  refine Sim.of0 ?_
  intro A s ρ σ Q E ha hr hg hp
  have ro := go _ _ hg
  have ra := ga _ _ hg
  have rb := gb _ _ hg
  have rc := gc _ _ hg
  unfold pcutg at hp
  cases po with
  | glob ga =>
    dsimp only at hp
    obtain ⟨hga, hp2⟩ := pguard_inv hp
    clear hp
    subst hga
    obtain ⟨x, u1, eu1, em1, p1, hp⟩ := ppart_inv ra hp2
    obtain ⟨y, u2, eu2, em2, p2, hp⟩ := ppart_inv rb hp
    obtain ⟨z, u3, eu3, em3, p3, hp⟩ := ppart_inv rc hp
    obtain ⟨h0, hp⟩ := pguard_inv hp
    unfold newFields
    refine wpAny_bind (wpAny_holding (wpAny_newObj_type (wpAny_bind (wpAny_standAt ?_)) (by show 3 ≤ sizeLine + 2; rw [sizeLine_eq]; lia)))
    have hs : ∀ (v w : Value), subscripted (.Slice lo hi st sp) false v w = operate (match st with | none => [w, v] | some _ => [v, w]) (getItem v w) := by
      intro v w; cases st <;> rfl
    have k := Keeps.push (h := s.heap) { cls := .type "slice", data := .fields #[a, b, c] }
    have R1 := hr.keeps k
    have hp1 := hp.trans (s₁ := { s with heap := s.heap.push { cls := .type "slice", data := .fields #[a, b, c] } }) rfl (Ext0.keeps k)
    have hsl := Heap.IsSliceOf.new s.heap a b c
    obtain ⟨hsz, hp1⟩ := pguard_inv hp1
    obtain ⟨vs, hl0, zz⟩ := hL.ex
    have zz : All2 (RepV (s.heap.push { cls := .type "slice", data := .fields #[a, b, c] }) ρ) vs l := zz.mono fun _ _ h => h _ _
    have hl : (s.heap.push { cls := .type "slice", data := .fields #[a, b, c] }).IsList ga vs.toArray := by
      obtain ⟨ob, e1, e2⟩ := hl0
      exact ⟨ob, R1.cells.base _ _ e1, e2⟩
    have ho : o = .ref ga := ro
    subst ho
    refine tail_any (s := { s with heap := s.heap.push { cls := .type "slice", data := .fields #[a, b, c] } }) hl.typeIs slot_list_getitem.lookup (wpAny_getItem_list_slice hl hsl p1 p2 p3 h0 ?_ (by rw [List.size_toArray, zz.length]; exact hsz)) (hs _ _)
    have e : slicePick vs.toArray x y z = (ppick vs x y z).toArray := by
      unfold slicePick ppick
      simp
    rw [e]
    refine post_list R1 hp1 ?_ s.toks
    unfold ppick
    rw [zz.length]
    exact zz.filterMap _
  | _ => exact hp.elim
theorem s_cutg {ad : Addr} {l : List PV} (hL : ListAt W ad l) {v : Expr} {lo hi st : Option Expr} {sp pos : Pos} {p a b c : PM PV} (hv : SE W d env v p) (ha : SP W d env lo a) (hb : SP W d env hi b) (hc : SP W d env st c) :
    SE W d env (.Subscript v (.Slice lo hi st sp) pos) (PM.bind p fun o => PM.bind a fun x => PM.bind b fun y => PM.bind c fun z => pcutg ad l o x y z) := by
  intro G
  rw [eval_Subscript, arm_Slice]
  refine Sim.bind (hv G) fun o po => ?_
  refine Sim.eq (t' := holding [o] (valueOrNone (evalOpt lo env)) >>= fun l => holding [o] (holding [l] (valueOrNone (evalOpt hi env))) >>= fun u => holding [o] (holding [l, u] (valueOrNone (evalOpt st env))) >>= fun s =>
    holding [o] (newFields "slice" [l, u, s]) >>= fun i => standAt pos >>= fun _ => subscriptTail v (.Slice lo hi st sp) o i) ?_ ?_ rfl
  · refine Sim.bind (Sim.holding (ha _)) fun l pl => Sim.bind (Sim.holding (Sim.holding (hb _))) fun u pu => Sim.bind (Sim.holding (Sim.holding (hc _))) fun s ps => ?_
    exact o_cutg hL (fun _ _ g => g.1.1.1.2) (fun _ _ g => g.1.1.2) (fun _ _ g => g.1.2) (fun _ _ g => g.2)
  · have hb : ∀ {α β : Type} (m : Sem α) (f : α → Sem β), holding [o] (m >>= f) = (holding [o] m >>= fun a => holding [o] (f a)) := fun m f => PySem.holding_bind [o] m f
    simp only [hb, bind_assoc]
    rfl
end
end

section
open PySem PySem.W PyProof.Rows PySem.Spec PySem.SeqAt PySem.Calls
set_option autoImplicit false
set_option linter.unusedVariables false
set_option maxRecDepth 100000
set_option tactic.hygienic false
noncomputable def pexc {α : Type} : PM α := fun σ => some (.exc, σ)
section
variable {W : Wd} {d : Nat} {env : Env} {G : GG}
set_option tactic.hygienic true in
theorem st_raise {np cpos pos : Pos} {es : List Expr} {q : PM (List PV)} (hx : env.kindOf "ValueError" = some .globalImplicit) (e : nsIn W.K mainGlobals "ValueError" = some none) (hes : SEs W d env es q) (hn : noStar es = true) :
    SSt W d env (.Raise (some (.Call (.Name "ValueError" np) es [] cpos)) none pos) (PM.bind q fun l => pguard (l.length ≤ sizeLine) pexc) := by
  intro G A s ρ σ Q E ha hr hg hp
  refine wpAny_Raise_call PySem.F.excCall_ValueError PySem.F.excRaise_ValueError ha.handled (noStar_any hn) (s_bname (d := d) (G := GG.tt) (p := .typ "ValueError") hx e (by decide +kernel) (fun _ _ => rfl) (by decide) (by decide) A s ρ σ _ _ ha hr trivial ?_)
  intro f h' ρ' tk r1 e1 l1 rf
  cases rf
  refine ⟨rfl, sa_pos hes hn GG.tt (.type "ValueError") cpos A _ ρ' σ _ _ (ha.ext r1 e1 l1) r1 trivial ?_⟩
  unfold PM.bind at hp ⊢
  match hq : q σ, hp with
  | some (.ok l, σ₁), hp =>
    intro a h₂ ρ₂ tk₂ r2 e2 l2 ra
    obtain ⟨ra, rk⟩ := ra
    dsimp only at hp
    unfold pguard at hp
    split at hp
    · rename_i hl
      refine ⟨by cases a; cases rk; rfl, by rw [All2.length ra]; exact hl, fun h₃ e hm => ?_⟩
      obtain ⟨t, ht, htn, _⟩ := hm.there
      have ex := (e1.trans e2).trans (Ext0.keeps (W := W) (ρ := ρ₂) hm.keeps).toExt
      refine hp (.ref e) h₃ ρ₂ tk₂ (r2.keeps hm.keeps) ex l2 ⟨e, _, _, rfl, ?_, ht, rfl, rfl, .inl rfl⟩
      cases z : s.heap.get? e with
      | none => rfl
      | some o =>
        obtain ⟨o', z'⟩ := (e1.trans e2).there e o z
        rw [hm.new] at z'; cases z'
    · exact hp.elim
  | some (.exc, σ₁), hp => exact fun y h₂ ρ₂ tk₂ r2 e2 l2 re => hp y h₂ ρ₂ tk₂ r2 (e1.trans e2) l2 (re.back e1.there)

noncomputable def ptry (p : PM PF) (r : PV) (q : PM PF) : PM PF := fun σ => match p σ with
  | some (.exc, σ') => some (.ok (.ret r), σ')
  | some (.ok .next, σ') => q σ'
  | x => x
theorem try_body {tb rest : List Stmt} {np cp rp hpos pos : Pos} {c : Const} {k : Nat} {p q : PM PF} {r : PV} (hfr : env.frame = some env.locals) (hx : env.kindOf "ValueError" = some .globalImplicit) (e : nsIn W.K mainGlobals "ValueError" = some none)
    (hc : ∀ (A : Around) (s : Shared) (Q : Value → Shared → Prop) (E : Value → Shared → Prop), (∀ v tk, (∀ h ρ, RepV h ρ v r) → s.toks ≤ tk → Q v { s with toks := tk }) → wpAny (model W.prog W.w) A (eval (.Constant c k cp) env) Q E s)
    (hb : SB W d env tb p) (hr : SB W d env rest q) : SBf W d env (.Try tb [.ExceptHandler (some (.Name "ValueError" np)) none [.Return (some (.Constant c k cp)) rp] hpos] [] [] pos :: rest) (ptry p r q) := by
  intro A s ρ σ Q E hA ha hrel hp
  obtain ⟨outer, hfrs⟩ := hA
  refine wpAny_execs_cons (wpAny_Try_except (hb GG.tt A s ρ σ _ _ ha hrel trivial ?_))
  unfold ptry at hp
  match hq : p σ, hp with
  | none, hp => exact hp.elim
  | some (.ok f, σ₁), hp =>
    intro f' h' ρ' tk r1 e1 l rf
    have ha' := ha.ext r1 e1 l
    rcases RepF.inv rf with ⟨rfl, rfl⟩ | ⟨rfl, rfl⟩ | ⟨rfl, rfl⟩ | ⟨v, q', rfl, rfl, rv⟩
    · exact wpAny_execs_nil (hr GG.tt A _ ρ' σ₁ Q E ha' r1 trivial (Post.trans (s := s) rfl e1 hp))
    · exact hp .brk h' ρ' tk r1 e1 l trivial
    · exact hp .cont h' ρ' tk r1 e1 l trivial
    · exact hp (.ret v) h' ρ' tk r1 e1 l rv
  | some (.exc, σ₁), hp =>
    intro x h' ρ' tk r1 e1 l qx
    have ha' := ha.ext r1 e1 l
    obtain ⟨fl, hfl, hff⟩ := ha'.fr
    rw [hfrs] at hfl
    cases hfl
    have hb0 : ∀ b o, W.h₀.get? b = some o → s.heap.get? b = some o := hrel.cells.base
    refine note_exc (W := W) (hs := s.heap) (s := { s with heap := h', toks := tk }) hfrs hff hfr qx (fun b o e => e1.there b o e) fun h₁ t₁ g₁ => ?_
    obtain ⟨ee, rfl⟩ : ∃ ee, x = .ref ee := by obtain ⟨ee, _, _, _, _, _, rfl, _⟩ := t₁.ex; exact ⟨ee, rfl⟩
    have R1 := r1.gone g₁ hff.out hb0 hff.ff
    have hty : ({ s with heap := h₁, toks := tk } : Shared).TypeIs (.ref ee) "ValueError" := by
      obtain ⟨e', oe, vs, T, oT, ts, y1, y2, y3, y4, _⟩ := t₁.ex
      cases y1; exact ⟨oe, y3, y4⟩
    refine wpAny_handleBy_builtin (X := "ValueError") (T := "ValueError") (b := true) PySem.F.excRaise_ValueError.isExc (by kernel_rfl) (by rw [isSubtype_type]; kernel_rfl)
      (Calls.Name_function_global R1.eok.kind hx (Calls.loadGlobal_builtin (mg := W.mg) (mb := W.mb) (by rw [R1.eok.glob]; exact W.g.keeps R1.base) (mg_none W.X W.g e) (by rw [R1.eok.blt]; exact W.b.keeps R1.base) ((W.bi _ (by decide)).trans (by decide +kernel)) ⟨rfl, hty, ?_⟩) (by decide))
    rw [if_pos rfl]
    refine flight_exc (s := { s with heap := h₁, toks := tk }) t₁ ((env :: outer).filterMap (·.frame)) fun h₂ g₂ => ?_
    have g12 := g₁.trans g₂
    have R2 := r1.gone g12 hff.out hb0 hff.ff
    have e2 : Ext W (fp env) s.heap ρ h₂ ρ' := e1.gone (base := W.h₀) g12 (fun b o e => ⟨o, e⟩) hff.ff
    refine wpAny_execs_cons ?_
    rw [exec_Return_some]
    refine wpAny_bind (wpAny_standAt (wpAny_bind (hc _ _ _ _ fun v tk' hv htk => wpAny_pure ?_)))
    exact hp (.ret v) h₂ ρ' tk' R2 e2 ⟨Nat.le_trans l.1 htk, Nat.lt_of_lt_of_le l.2 htk⟩ (hv _ _)
theorem try_str {x : Str} {k : Nat} {cp : Pos} : ∀ (A : Around) (s : Shared) (Q : Value → Shared → Prop) (E : Value → Shared → Prop), (∀ v tk, (∀ h ρ, RepV h ρ v (.str x)) → s.toks ≤ tk → Q v { s with toks := tk }) → wpAny (model W.prog W.w) A (eval (.Constant (.str x) k cp) env) Q E s :=
  fun _ s _ _ h => wpAny_mkText (h (.str x s.toks) (s.toks + 1) (fun _ _ => ⟨_, rfl⟩) (Nat.le_succ _))
end
end

section
open PySem PySem.W PyProof.Rows PySem.Spec PySem.SeqAt PySem.Calls
set_option autoImplicit false
set_option linter.unusedVariables false
set_option linter.unusedSectionVars false
set_option maxRecDepth 100000
set_option maxHeartbeats 4000000
set_option tactic.hygienic false
theorem PW.itemT {σ : PS} {l : List PV} {k : Int} {p : PV} {Q : PV → PS → Prop} (e : pplace l k = some p) (hk : k.natAbs < 2 ^ 62) (h : Q p σ) : PW (pitem (.tup l) (.int k)) σ Q := PW.opt e (PW.guard hk (PW.pure h))
theorem PW.itemL {σ : PS} {i : Nat} {l : List PV} {k : Int} {p : PV} {Q : PV → PS → Prop} (e0 : σ.H[i]? = some (.list l)) (e : pplace l k = some p) (hk : k.natAbs < 2 ^ 62) (h : Q p σ) : PW (pitem (.ref i) (.int k)) σ Q := PW.plist e0 (PW.opt e (PW.guard hk (PW.pure h)))
theorem PW.allset {σ : PS} {i j : Nat} {l l' : List PV} {Q : Unit → PS → Prop} (e1 : σ.H[i]? = some (.list l)) (e2 : σ.H[j]? = some (.list l')) (hne : i ≠ j) (hsz : l.length + l'.length ≤ sizeLine) (h : Q () { σ with H := σ.H.set i (.list l') }) : PW (pallset (.ref i) (.ref j)) σ Q :=
  PW.plist e1 (PW.plist e2 (PW.guard ⟨hne, hsz⟩ ⟨_, _, rfl, h⟩))
theorem PW.fmt1 {σ : PS} {x y : Str} {Q : PV → PS → Prop} (hx : x.length ≤ 1000000 ∧ y.length ≤ 1000000) (h : Q (.str (lineOf (x, y))) σ) : PW (pFmt1 (.str (Str.ofString "%s: %s")) (.tup [.str x, .str y])) σ Q := PW.guard ⟨rfl, hx.1, hx.2⟩ (PW.pure h)
theorem PW.addL {σ : PS} {i j : Nat} {l k : List PV} {Q : PV → PS → Prop} (e1 : σ.H[i]? = some (.list l)) (e2 : σ.H[j]? = some (.list k)) (hsz : l.length + k.length ≤ sizeLine) (h : Q (.ref σ.H.length) { σ with H := σ.H ++ [.list (l ++ k)] }) : PW (pAdd (.ref i) (.ref j)) σ Q := PW.plist e1 (PW.plist e2 (PW.guard hsz (PW.alloc h)))
theorem PW.join {σ : PS} {x : Str} {i : Nat} {l : List PV} {xs : List Str} {Q : PV → PS → Prop} (e : σ.H[i]? = some (.list l)) (e2 : pstrs l = some xs) (hj : JoinOk x xs = true) (h : Q (.str (Txt.join x xs)) σ) : PW (mJoin x [.ref i]) σ Q := PW.plist e (PW.opt e2 (PW.guard hj (PW.pure h)))
theorem pstrs_map : ∀ xs : List Str, pstrs (xs.map .str) = some xs
  | [] => rfl
  | x :: xs => by
    show (pstrs (xs.map .str)).map _ = _
    rw [pstrs_map xs]; rfl
theorem PW.sub1 {P : Pats} {σ : PS} {x : Str} {r : Str} {Q : PV → PS → Prop} (hr : r = ⟨#[46, 46]⟩) (hx : x.length ≤ 100000) (h : Q (.str (dots x)) σ) : PW (pSubst P P.one [.str r, .str x]) σ Q := PW.guard hx (by rw [if_pos ⟨rfl, hr⟩]; exact PW.pure h)
theorem PW.sub2 {P : Pats} {σ : PS} {x : Str} {r : Str} {Q : PV → PS → Prop} (hn : P.two ≠ P.one) (hr : r = ⟨#[13, 10]⟩) (hx : x.length ≤ 100000) (h : Q (.str (norm x)) σ) : PW (pSubst P P.two [.str r, .str x]) σ Q := PW.guard hx (by rw [if_neg fun z => hn z.1, if_pos ⟨rfl, hr⟩]; exact PW.pure h)
theorem dd_eq : Str.ofString ".." = ⟨#[46, 46]⟩ := by decide +kernel
theorem crlf_eq : Str.ofString "\r\n" = ⟨#[13, 10]⟩ := by decide +kernel
theorem sliceRange_one (n : Nat) : sliceRange 0 (n : Int) 1 = List.range n := by
  unfold sliceRange
  rw [if_pos (by decide)]
  have h1 : (if (0 : Int) < (n : Int) then ((n : Int) - 0 + 1 - 1) / 1 else 0).toNat = n := by
    split
    · simp
    · lia
  dsimp only
  rw [h1]
  have h2 : (fun (k : Nat) => ((0 : Int) + 1 * (k : Int)).toNat) = id := by
    funext k; simp
  rw [h2, List.map_id]
theorem range_take {α : Type} (l : List α) : ∀ n, n ≤ l.length → (List.range n).filterMap (l[·]?) = l.take n
  | 0, _ => rfl
  | n + 1, h => by
    rw [List.range_succ, List.filterMap_append, range_take l n (by lia), List.take_add_one]
    simp [List.getElem?_eq_getElem (show n < l.length by lia)]
theorem ppick_m2 {α : Type} (l : List α) (h : 2 ≤ l.length) : ppick l none (some (-2)) none = l.take (l.length - 2) := by
  unfold ppick
  have e : sliceBounds none (some (-2)) none l.length = (0, ((l.length - 2 : Nat) : Int), 1) := by
    unfold sliceBounds
    simp only [Option.getD_none]
    rw [if_pos (by decide), if_pos (by decide), if_pos (by decide)]
    congr 2
    lia
  rw [e]
  dsimp only
  rw [sliceRange_one, range_take l _ (by lia)]
theorem PW.strI {σ : PS} {spec : FSpec} {i k : Nat} {fs : List (String × PV)} {x : Str} {H' : List PO} {Q : PV → PS → Prop} (e1 : σ.H[i]? = some (.inst k)) (e2 : σ.H[k]? = some (.dct fs)) (e3 : spec [.ref i] [] σ.H = some (.ok (.str x), H')) (h : Q (.str x) { σ with H := H' }) : PW (fStrB spec [.ref i]) σ Q := by
  show PW (fStrI spec [.ref i]) σ Q
  unfold fStrI
  refine PW.inst e1 e2 ?_
  exact ⟨_, _, by dsimp only; rw [e3], h⟩
theorem PW.lit {σ : PS} {n : String} {y e : Str} {Q : Str × Str → PS → Prop} (h : σ.loc.lookup n = some (.lit e)) (q : Q (y, e) σ) : PW (plitOf n y) σ Q := ⟨_, _, by unfold plitOf; rw [h], q⟩
theorem PW.replace {σ : PS} {x y z : Str} {Q : PV → PS → Prop} (hg : x.length + (x.length + 1) * z.length ≤ 16777216) (h : Q (.str (Txt.replace x y z)) σ) : PW (mReplace x (y, z)) σ Q := PW.guard hg (PW.pure h)
open Builtin.Str in
theorem PW.split {σ : PS} {x y : Str} {Q : PV → PS → Prop} (h1 : (y.length == 0) = false) (h2 : x.length ≤ sizeLine) (h3 : (partsBetween x (occurrences x y 0 x.length (x.length + 1)) y.length).length ≤ sizeLine) (h : Q (.ref σ.H.length) { σ with H := σ.H ++ [.list ((Txt.split x y).map .str)] }) : PW (mSplit x [.str y]) σ Q := PW.guard ⟨h1, h2, h3⟩ (PW.alloc h)
theorem PW.cutL {σ : PS} {i : Nat} {l : List PV} {Q : PV → PS → Prop} (e : σ.H[i]? = some (.list l)) (hs : l.length ≤ sizeLine) (h2 : 2 ≤ l.length) (h : Q (.ref σ.H.length) { σ with H := σ.H ++ [.list (l.take (l.length - 2))] }) : PW (pcut (.ref i) .none (.int (-2)) .none) σ Q := by
  show PW (pguard ((none : Option Int) ≠ some 0) (Mine.plist i fun l => pguard (l.length ≤ sizeLine) (palloc (.list (ppick l none (some (-2)) none))))) σ Q
  refine PW.guard (by decide) (PW.plist e (PW.guard hs ?_))
  rw [ppick_m2 l h2]
  exact PW.alloc h
theorem PW.partition {σ : PS} {x y : Str} {Q : PV → PS → Prop} (h1 : (y.length == 0) = false) (h2 : x.length ≤ sizeLine) (h : Q (.tup [.str (Txt.partition x y).1, .str (Txt.partition x y).2.1, .str (Txt.partition x y).2.2]) σ) : PW (mPartition x [.str y]) σ Q := PW.guard ⟨h1, h2⟩ (PW.pure h)
theorem PW.cutT {σ : PS} {a b c : PV} {Q : PV → PS → Prop} (h : Q (.tup [a, c]) σ) : PW (pcut (.tup [a, b, c]) .none .none (.int 2)) σ Q := by
  have e : tpick [a, b, c] none none (some 2) = [a, c] := by
    show (List.range (Builtin.Slice.slicePlaces (Builtin.Slice.sliceAdjust none none 2 3).1 (Builtin.Slice.sliceAdjust none none 2 3).2 2)).filterMap (fun (k : Nat) => [a, b, c][((Builtin.Slice.sliceAdjust none none 2 3).1 + (k : Int) * 2).toNat]?) = [a, c]
    rw [show Builtin.Slice.slicePlaces (Builtin.Slice.sliceAdjust none none 2 3).1 (Builtin.Slice.sliceAdjust none none 2 3).2 2 = 2 by decide +kernel, show (Builtin.Slice.sliceAdjust none none 2 3).1 = 0 by decide +kernel]
    rfl
  show PW (pguard (some (2 : Int) ≠ some 0) (pguard ((tpick [a, b, c] none none (some 2)).length ≤ sizeLine) (PM.pure (.tup (tpick [a, b, c] none none (some 2)))))) σ Q
  rw [e]
  exact PW.guard (by decide) (PW.guard (by rw [sizeLine_eq]; simp) (PW.pure h))
noncomputable def cs : Str := Str.ofString ": "
noncomputable def partRow (l : Str) : Str × Str := ((Txt.partition l cs).1, (Txt.partition l cs).2.2)
noncomputable def sentTxt (x e : Str) : Str := dots (norm (Txt.replace x crlf e))
noncomputable def sentCut (x e : Str) : List Str := (Txt.split (sentTxt x e) crlf).take ((Txt.split (sentTxt x e) crlf).length - 2)
open Builtin.Str in
noncomputable abbrev sentOk (x e : Str) : Prop := x.length + (x.length + 1) * e.length ≤ 16777216 ∧ (Txt.replace x crlf e).length ≤ 100000 ∧ (norm (Txt.replace x crlf e)).length ≤ 100000 ∧ (sentTxt x e).length ≤ sizeLine ∧
  (partsBetween (sentTxt x e) (occurrences (sentTxt x e) crlf 0 (sentTxt x e).length ((sentTxt x e).length + 1)) crlf.length).length ≤ sizeLine ∧ (Txt.split (sentTxt x e) crlf).length ≤ sizeLine ∧ 2 ≤ (Txt.split (sentTxt x e) crlf).length ∧ (sentCut x e).length ≤ 50 ∧ ∀ l ∈ sentCut x e, l.length ≤ sizeLine
noncomputable def PWE {α : Type} (p : PM α) (σ : PS) (Q : α → PS → Prop) (E : PS → Prop) : Prop := match p σ with
  | some (.ok a, σ') => Q a σ'
  | some (.exc, σ') => E σ'
  | none => False
section
variable {α β : Type} {σ : PS} {E : PS → Prop}
theorem PWE.of {p : PM α} {Q : α → PS → Prop} (h : PW p σ Q) : PWE p σ Q E := by
  obtain ⟨a, σ', e, q⟩ := h
  unfold PWE; rw [e]; exact q
theorem PWE.bind {p : PM α} {q : α → PM β} {Q : β → PS → Prop} (h : PWE p σ (fun a σ' => PWE (q a) σ' Q E) E) : PWE (PM.bind p q) σ Q E := by
  unfold PWE at h
  unfold PWE PM.bind
  match hq : p σ, h with
  | some (.ok a, σ'), h => exact h
  | some (.exc, σ'), h => exact h
theorem PWE.ite {c : PM Bool} {p q : PM α} {Q : α → PS → Prop} (h : PWE c σ (fun b σ' => PWE (if b = true then p else q) σ' Q E) E) : PWE (pite c p q) σ Q E := PWE.bind h
theorem PWE.mono {p : PM α} {Q Q' : α → PS → Prop} {E' : PS → Prop} (h : PWE p σ Q E) (k : ∀ a σ', Q a σ' → Q' a σ') (k' : ∀ σ', E σ' → E' σ') : PWE p σ Q' E' := by
  unfold PWE at h ⊢
  match hq : p σ, h with
  | some (.ok a, σ'), h => exact k _ _ h
  | some (.exc, σ'), h => exact k' _ h
theorem PWE.pure {a : α} {Q : α → PS → Prop} (h : Q a σ) : PWE (PM.pure a) σ Q E := h
theorem PWE.seq {p q : PM PF} {Q : PF → PS → Prop} (h : PWE p σ (fun f σ' => match f with
    | .next => PWE q σ' Q E
    | f => Q f σ') E) : PWE (pseq p q) σ Q E := by
  refine PWE.bind (h.mono (fun f σ' z => ?_) fun _ z => z)
  cases f with
  | next => exact z
  | _ => exact PWE.pure z
theorem PWE.exc {Q : α → PS → Prop} (h : E σ) : PWE pexc σ Q E := h
theorem PWE.guard {c : Prop} [Decidable c] {p : PM α} {Q : α → PS → Prop} (hc : c) (h : PWE p σ Q E) : PWE (pguard c p) σ Q E := by
  unfold pguard; rw [if_pos hc]; exact h
theorem PWE.inst {i k : Nat} {fs : List (String × PV)} {f : Nat → List (String × PV) → PM α} {Q : α → PS → Prop} (e : σ.H[i]? = some (.inst k)) (e2 : σ.H[k]? = some (.dct fs)) (h : PWE (f k fs) σ Q E) : PWE (pinst i f) σ Q E := by
  unfold PWE at h ⊢
  unfold pinst
  rw [e]; dsimp only; rw [e2]; exact h
theorem PWE.call {spec : FSpec} {a : List PV} {kw : List (String × PV)} {H' : List PO} {Q : PV → PS → Prop} (e : spec a kw σ.H = some (.exc, H')) (h : E { σ with H := H' }) : PWE (pcall spec a kw) σ Q E := by
  unfold PWE pcall; rw [e]; exact h
theorem PWE.ifT {c : Bool} {p q : PM α} {Q : α → PS → Prop} (e : c = true) (h : PWE p σ Q E) : PWE (if c = true then p else q) σ Q E := by subst e; exact h
theorem PWE.ifF {c : Bool} {p q : PM α} {Q : α → PS → Prop} (e : c = false) (h : PWE q σ Q E) : PWE (if c = true then p else q) σ Q E := by subst e; exact h
theorem PWE.plist {i : Nat} {f : List PV → PM α} {l : List PV} {Q : α → PS → Prop} (e : σ.H[i]? = some (.list l)) (h : PWE (f l) σ Q E) : PWE (Mine.plist i f) σ Q E := by
  unfold PWE at h ⊢
  unfold Mine.plist
  rw [e]; exact h
theorem PWE.fspecX {pb : List PV → List (String × PV) → List PO → Option (List (String × PV) × List PO)} {p : PM PF} {a : List PV} {kw : List (String × PV)} {H H₁ : List PO} {l : List (String × PV)} {r : Res PV × List PO} (e : pb a kw H = some (l, H₁))
    (h : PWE p ⟨l, H₁⟩ (fun f σ' => (∃ v, f = .ret v ∧ r = (.ok v, σ'.H)) ∨ (f = .next ∧ r = (.ok .none, σ'.H))) fun σ' => r = (.exc, σ'.H)) : Mine.fspecX pb p a kw H = some r := by
  unfold Mine.fspecX
  rw [e]
  dsimp only
  unfold PWE at h
  match hq : p ⟨l, H₁⟩, h with
  | some (.ok f, σ'), h =>
    rcases h with ⟨v, rfl, rfl⟩ | ⟨rfl, rfl⟩ <;> rfl
  | some (.exc, σ'), h => rw [h]
theorem PW.tryb {p q : PM PF} {r : PV} {Q : PF → PS → Prop} (h : PWE p σ (fun f σ' => match f with
    | .next => PW q σ' Q
    | f => Q f σ') fun σ' => Q (.ret r) σ') : PW (ptry p r q) σ Q := by
  unfold PWE at h
  unfold PW ptry
  match hq : p σ, h with
  | some (.ok .next, σ'), h => exact h
  | some (.ok .brk, σ'), h => exact ⟨_, _, rfl, h⟩
  | some (.ok .cont, σ'), h => exact ⟨_, _, rfl, h⟩
  | some (.ok (.ret v), σ'), h => exact ⟨_, _, rfl, h⟩
  | some (.exc, σ'), h => exact ⟨_, _, rfl, h⟩
end
noncomputable def nameLen (n : Str) : Bool := decide (n.length ≤ 10000) && decide ((Txt.lower n).length ≤ 1000000)
end

section
open PySem PySem.W PyProof.Rows PySem.Spec PySem.SeqAt PySem.Calls
open PySem.StrLaws PySem.Builtin.Str
set_option autoImplicit false
set_option linter.unusedVariables false
set_option maxRecDepth 100000
set_option tactic.hygienic false
noncomputable abbrev cp (x : Str) : List Nat := x.cps.toList
noncomputable def ofl (l : List Nat) : Str := ⟨l.toArray⟩
theorem cp_ofl (l : List Nat) : cp (ofl l) = l := rfl
theorem ofl_cp (x : Str) : ofl (cp x) = x := by cases x; rfl
theorem str_ext {x y : Str} (h : cp x = cp y) : x = y := by rw [← ofl_cp x, h, ofl_cp]
theorem cp_len (x : Str) : (cp x).length = x.length := by simp [Str.length]
noncomputable def cat (e : List Nat) : List (List Nat) → List Nat
  | [] => []
  | [p] => p
  | p :: q :: r => p ++ e ++ cat e (q :: r)
theorem cat_cons (e p : List Nat) (q : List Nat) (r : List (List Nat)) : cat e (p :: q :: r) = p ++ e ++ cat e (q :: r) := rfl
theorem cp_join (s : Str) : ∀ l : List Str, cp (Str.join s l) = cat (cp s) (l.map cp)
  | [] => rfl
  | [x] => by
    show cp (Str.join s [x]) = cp x
    simp [Str.join]
  | x :: y :: r => by
    rw [List.map_cons, List.map_cons, cat_cons, ← List.map_cons, ← cp_join s (y :: r)]
    have e : Str.join s (x :: y :: r) = x ++ s ++ Str.join s (y :: r) := by simp [Str.join]
    rw [e]
    simp [cp, Str.cps_append, List.append_assoc]
theorem at_iff (x y : Str) (k : Nat) : At x y x.length k ↔ k + y.length ≤ x.length ∧ ((cp x).drop k).take y.length = cp y := by
  unfold At
  rw [subAt_eq, beq_iff_eq]
theorem at_head {x y : Str} {k c : Nat} {t : List Nat} (hy : cp y = c :: t) (h : At x y x.length k) : (cp x)[k]? = some c := by
  obtain ⟨h1, h2⟩ := (at_iff x y k).mp h
  have hl : y.length = t.length + 1 := by rw [← cp_len, hy]; rfl
  have h3 : (((cp x).drop k).take y.length)[0]? = some c := by rw [h2, hy]; rfl
  rw [hl, List.getElem?_take_of_lt (Nat.succ_pos _), List.getElem?_drop] at h3
  simpa using h3
theorem cuts_parts {x y : Str} {c : Nat} {t : List Nat} (hy : cp y = c :: t) : ∀ (parts : List (List Nat)) (a : Nat) (cuts : List Nat) (f : Nat), (∀ p ∈ parts, c ∉ p) → parts ≠ [] → a ≤ x.length → (cp x).drop a = cat (cp y) parts → ChainG x y x.length a cuts f → (∀ k, f ≤ k → ¬ At x y x.length k) →
    (partsFrom x y.length a cuts).map cp = parts := by
  intro parts
  induction parts with
  | nil => intro a cuts f _ h; exact absurd rfl h
  | cons p rest ih =>
    intro a cuts f hp _ ha hd hch hno
    have hx : (cp x).length = x.length := cp_len x
    have hpn : c ∉ p := hp p (List.mem_cons_self)
    have inP : ∀ k, a ≤ k → k < a + p.length → (∃ s, (cp x).drop a = p ++ s) → ¬ At x y x.length k := by
      rintro k h1 h2 ⟨s, hs⟩ hA
      have h3 := at_head hy hA
      have h4 : ((cp x).drop a)[k - a]? = some c := by rw [List.getElem?_drop]; rw [show a + (k - a) = k by lia]; exact h3
      rw [hs, List.getElem?_append_left (by lia)] at h4
      exact hpn (List.mem_of_getElem? h4)
    cases rest with
    | nil =>
      have hd : (cp x).drop a = p := hd
      have hlen : p.length = x.length - a := by rw [← hd, List.length_drop, hx]
      cases cuts with
      | nil =>
        show [cp (strSub x a x.length)] = [p]
        rw [show cp (strSub x a x.length) = ((cp x).drop a).take (x.length - a) from strSub_toList x a x.length, hd, ← hlen, List.take_length]
      | cons d r =>
        obtain ⟨h1, h2, h3, h4⟩ := hch
        have h5 := (at_iff x y d).mp h2
        have hyl : 1 ≤ y.length := by rw [← cp_len, hy]; simp
        exact absurd h2 (inP d h1 (by lia) ⟨[], by rw [hd]; simp⟩)
    | cons q rest =>
      rw [cat_cons] at hd
      have hyl : 1 ≤ y.length := by rw [← cp_len, hy]; simp
      have hlen : p.length + y.length + (cat (cp y) (q :: rest)).length = x.length - a := by
        have := congrArg List.length hd
        rw [List.length_drop, hx, List.length_append, List.length_append, cp_len] at this
        lia
      have hat : At x y x.length (a + p.length) := by
        rw [at_iff]
        refine ⟨by lia, ?_⟩
        rw [← List.drop_drop, hd, List.append_assoc, List.drop_left, ← cp_len y, List.take_left]
      cases cuts with
      | nil =>
        have hf : f = a := hch
        subst hf
        exact absurd hat (hno _ (by lia))
      | cons d r =>
        obtain ⟨h1, h2, h3, h4⟩ := hch
        have hd1 : ¬ d < a + p.length := fun hlt => inP d h1 hlt ⟨cp y ++ cat (cp y) (q :: rest), by rw [hd, List.append_assoc]⟩ h2
        have hd2 : ¬ a + p.length < d := fun hlt => h3 (a + p.length) (by lia) hlt hat
        have hde : d = a + p.length := by lia
        subst hde
        show cp (strSub x a (a + p.length)) :: (partsFrom x y.length (a + p.length + y.length) r).map cp = _
        rw [show cp (strSub x a (a + p.length)) = ((cp x).drop a).take (a + p.length - a) from strSub_toList x a (a + p.length)]
        rw [hd, show a + p.length - a = p.length by lia, List.append_assoc, List.take_left]
        congr 1
        refine ih (a + p.length + y.length) r f (fun z hz => hp z (List.mem_cons_of_mem _ hz)) (by simp) (by lia) ?_ h4 hno
        rw [show a + p.length + y.length = a + (p.length + y.length) by lia, ← List.drop_drop, hd]
        rw [show p.length + y.length = (p ++ cp y).length by rw [List.length_append, cp_len]]
        rw [List.drop_left]
theorem occ_parts {x y : Str} {c : Nat} {t : List Nat} {parts : List (List Nat)} (hy : cp y = c :: t) (hp : ∀ p ∈ parts, c ∉ p) (hne : parts ≠ []) (hx : cp x = cat (cp y) parts) :
    (partsBetween x (occurrences x y 0 x.length (x.length + 1)) y.length).map cp = parts := by
  have hyl : 1 ≤ y.length := by rw [← cp_len, hy]; simp
  obtain ⟨f, h1, h2⟩ := occ_tight x y hyl
  rw [partsBetween_eq]
  exact cuts_parts hy parts 0 _ f hp hne (Nat.zero_le _) (by rw [List.drop_zero]; exact hx) h1 h2
theorem map_cp_inj : ∀ {l k : List Str}, l.map cp = k.map cp → l = k
  | [], [], _ => rfl
  | [], _ :: _, h => by cases h
  | _ :: _, [], h => by cases h
  | x :: l, y :: k, h => by
    simp only [List.map_cons, List.cons.injEq] at h
    rw [str_ext h.1, map_cp_inj h.2]
set_option tactic.hygienic true in
theorem split_parts {x y : Str} {c : Nat} {t : List Nat} {parts : List (List Nat)} (hy : cp y = c :: t) (hk : PySem.Builtin.Str.strKind y = 1) (hp : ∀ p ∈ parts, c ∉ p) (hne : parts ≠ []) (hx : cp x = cat (cp y) parts) : Txt.split x y = parts.map ofl := by
  have h := occ_parts hy hp hne hx
  have hb : partsBetween x (occurrences x y 0 x.length (x.length + 1)) y.length = parts.map ofl := by
    apply map_cp_inj
    rw [h, List.map_map]
    have : cp ∘ ofl = id := rfl
    rw [this, List.map_id]
  have one : parts.length = 1 → [x] = parts.map ofl := by
    intro h1
    match parts, h1 with
    | [p], _ =>
      have : cp x = p := hx
      show [x] = [ofl p]
      rw [← this, ofl_cp]
  have emp : occurrences x y 0 x.length (x.length + 1) = [] → parts.length = 1 := by
    intro he
    rw [he, partsBetween_eq] at hb
    have := congrArg List.length hb
    simpa [partsFrom] using this.symm
  unfold Txt.split
  split
  · rename_i hc
    refine one (emp ?_)
    have hlt : x.length < y.length := by
      simp only [Bool.or_eq_true, decide_eq_true_eq] at hc
      rcases hc with hc | hc
      · exact hc
      · rw [hk] at hc
        unfold PySem.Builtin.Str.strKind at hc
        split at hc
        · lia
        · split at hc <;> lia
    cases ho : occurrences x y 0 x.length (x.length + 1) with
    | nil => rfl
    | cons i r =>
      have := (occ_spec x y 0 x.length (x.length + 1) i (by rw [ho]; exact List.mem_cons_self)).1
      lia
  · split
    · rename_i he
      exact one (emp (List.isEmpty_iff.mp he))
    · exact hb
set_option tactic.hygienic true in
theorem replace_parts {x y z : Str} {c : Nat} {t : List Nat} {parts : List (List Nat)} (hy : cp y = c :: t) (hp : ∀ p ∈ parts, c ∉ p) (hne : parts ≠ []) (hx : cp x = cat (cp y) parts) : cp (Txt.replace x y z) = cat (cp z) parts := by
  have h := occ_parts hy hp hne hx
  have hyl : 1 ≤ y.length := by rw [← cp_len, hy]; simp
  unfold Txt.replace
  split
  · rename_i hc
    simp only [Bool.or_eq_true, Bool.and_eq_true, beq_iff_eq] at hc
    rcases hc with hc | ⟨hc, _⟩
    · have he := List.isEmpty_iff.mp hc
      rw [he, partsBetween_eq] at h
      match parts, h with
      | [p], _ => exact hx
    · lia
  · rw [glued_eq_join, cp_join, h]
end

section
open PySem PySem.W PyProof.Rows PySem.Spec PySem.SeqAt PySem.Calls
open PySem.StrLaws PySem.Builtin.Str
set_option autoImplicit false
set_option linter.unusedVariables false
set_option maxRecDepth 100000
set_option tactic.hygienic false
theorem normS_app : ∀ (p rest : List Nat), 13 ∉ p → 10 ∉ p → normS false (p ++ rest) = p ++ normS false rest
  | [], rest, _, _ => rfl
  | c :: p, rest, h1, h2 => by
    have e1 : c ≠ 13 := fun e => h1 (by rw [e]; exact List.mem_cons_self)
    have e2 : c ≠ 10 := fun e => h2 (by rw [e]; exact List.mem_cons_self)
    rw [List.cons_append]
    show (if c = 13 then _ else if c = 10 then _ else c :: normS false (p ++ rest)) = _
    rw [if_neg e1, if_neg e2, normS_app p rest (fun m => h1 (List.mem_cons_of_mem _ m)) (fun m => h2 (List.mem_cons_of_mem _ m))]
    rfl
theorem norm_cat {e : List Nat} (he : e = [10] ∨ e = [13] ∨ e = [13, 10]) : ∀ parts : List (List Nat), (∀ p ∈ parts, 13 ∉ p ∧ 10 ∉ p) → normS false (cat e parts) = cat [13, 10] parts
  | [], _ => rfl
  | [p], h => by
    have := normS_app p [] (h p List.mem_cons_self).1 (h p List.mem_cons_self).2
    rw [List.append_nil] at this
    show normS false p = p
    rw [this]; simp [normS]
  | p :: q :: r, h => by
    have ih := norm_cat he (q :: r) fun x hx => h x (List.mem_cons_of_mem _ hx)
    rw [cat_cons, cat_cons, List.append_assoc, normS_app p _ (h p List.mem_cons_self).1 (h p List.mem_cons_self).2, List.append_assoc, ← ih]
    congr 1
    rcases he with rfl | rfl | rfl
    · rfl
    · show 13 :: 10 :: normS true (cat [13] (q :: r)) = 13 :: 10 :: normS false (cat [13] (q :: r))
      rw [normS_other]
      intro hh
      have hq := (h q (List.mem_cons_of_mem _ List.mem_cons_self)).2
      cases r with
      | nil =>
        have hh : q.head? = some 10 := hh
        exact hq (List.mem_of_mem_head? hh)
      | cons r1 r2 =>
        rw [cat_cons] at hh
        cases q with
        | nil => cases hh
        | cons c q => cases hh; exact hq List.mem_cons_self
    · rfl
noncomputable def dotL : List Nat → List Nat
  | 46 :: r => 46 :: 46 :: r
  | p => p
theorem dotsS_app : ∀ (p rest : List Nat), 10 ∉ p → dotsS false (p ++ rest) = p ++ dotsS false rest
  | [], rest, _ => rfl
  | c :: p, rest, h2 => by
    have e2 : c ≠ 10 := fun e => h2 (by rw [e]; exact List.mem_cons_self)
    rw [List.cons_append]
    show (if (false && c == 46) = true then _ else c :: dotsS (c == 10) (p ++ rest)) = _
    rw [if_neg (by simp), show (c == 10) = false by simpa using e2, dotsS_app p rest (fun m => h2 (List.mem_cons_of_mem _ m))]
    rfl
set_option tactic.hygienic true in
theorem dotsS_line (p rest : List Nat) (h : 10 ∉ p) (hr : p = [] → ∀ t, rest ≠ 46 :: t) : dotsS true (p ++ rest) = dotL p ++ dotsS (if p = [] then true else false) rest := by
  cases p with
  | nil => simp [dotL]
  | cons c p =>
    have hp : 10 ∉ p := fun m => h (List.mem_cons_of_mem _ m)
    have e2 : c ≠ 10 := fun e => h (by rw [e]; exact List.mem_cons_self)
    rw [if_neg (by simp), List.cons_append]
    show (if (true && c == 46) = true then 46 :: 46 :: dotsS false (p ++ rest) else c :: dotsS (c == 10) (p ++ rest)) = _
    by_cases hc : c = 46
    · subst hc
      rw [if_pos (by decide), dotsS_app p rest hp]
      rfl
    · rw [if_neg (by simp [hc]), show (c == 10) = false by simpa using e2, dotsS_app p rest hp]
      have : dotL (c :: p) = c :: p := by
        unfold dotL
        split
        · rename_i e; cases e; exact absurd rfl hc
        · rfl
      rw [this]; rfl
theorem dots_cat : ∀ parts : List (List Nat), (∀ p ∈ parts, 10 ∉ p) → dotsS true (cat [13, 10] parts) = cat [13, 10] (parts.map dotL)
  | [], _ => rfl
  | [p], h => by
    have := dotsS_line p [] (h p List.mem_cons_self) (fun _ t e => by cases e)
    rw [List.append_nil] at this
    show dotsS true p = dotL p
    rw [this]; simp [dotsS]
  | p :: q :: r, h => by
    have ih := dots_cat (q :: r) fun x hx => h x (List.mem_cons_of_mem _ hx)
    rw [cat_cons, List.map_cons, List.map_cons, cat_cons, List.append_assoc, dotsS_line p _ (h p List.mem_cons_self) (fun _ t e => by cases e), List.append_assoc]
    congr 1
    rw [← List.map_cons, ← ih]
    split <;> rfl
noncomputable def noCS : List Nat → Bool
  | 58 :: 32 :: _ => false
  | _ :: r => noCS r
  | [] => true
set_option tactic.hygienic true in
theorem noCS_at : ∀ (l : List Nat), noCS l = true → ∀ k, (l.drop k).take 2 ≠ [58, 32]
  | [], _, k => by simp
  | c :: l, h, 0 => by
    intro e
    rw [List.drop_zero] at e
    cases l with
    | nil => simp at e
    | cons d l =>
      simp only [List.take_succ_cons, List.take_zero, List.cons.injEq, and_true] at e
      obtain ⟨rfl, rfl⟩ := e
      simp [noCS] at h
  | c :: l, h, k + 1 => by
    rw [List.drop_succ_cons]
    refine noCS_at l ?_ k
    unfold noCS at h
    split at h
    · cases h
    · rename_i e; cases e; exact h
    · rename_i e; cases e
theorem noCS_dot (l : List Nat) (h : noCS l = true) : noCS (dotL l) = true := by
  unfold dotL
  split
  · simpa [noCS] using h
  · exact h
theorem cs_cp : cp cs = [58, 32] := by decide +kernel
theorem crlf_cp : cp crlf = [13, 10] := by decide +kernel
theorem part_row {x : Str} {n v : List Nat} (hx : cp x = n ++ [58, 32] ++ v) (hn : noCS n = true) : partRow x = (ofl n, ofl v) := by
  have hl : x.length = n.length + 2 + v.length := by rw [← cp_len, hx]; simp; lia
  have hcl : cs.length = 2 := by rw [← cp_len, cs_cp]; rfl
  have hat : At x cs x.length n.length := by
    rw [at_iff, hcl, cs_cp, hx]
    refine ⟨by lia, ?_⟩
    rw [List.append_assoc, List.drop_left]; rfl
  have hno : ∀ k, k < n.length → ¬ At x cs x.length k := by
    intro k hk hA
    rw [at_iff, hcl, cs_cp, hx, List.append_assoc] at hA
    have h2 := hA.2
    rw [List.drop_append_of_le_length (by lia)] at h2
    by_cases hk1 : k + 1 < n.length
    · rw [List.take_append_of_le_length (by rw [List.length_drop]; lia)] at h2
      exact noCS_at n hn k h2
    · have hd : (n.drop k).length = 1 := by rw [List.length_drop]; lia
      match h3 : n.drop k, hd with
      | [d], _ =>
        rw [h3] at h2
        simp at h2
  have key : ∃ r, occurrences x cs 0 x.length 1 = n.length :: r := by
    rcases occ_head x cs 1 (Nat.le_refl _) with ⟨_, h⟩ | ⟨i, r, h1, h2, h3⟩
    · exact absurd hat (h _)
    · refine ⟨r, ?_⟩
      rw [h1]
      have : i = n.length := by
        rcases Nat.lt_trichotomy i n.length with q | q | q
        · exact absurd h2 (hno i q)
        · exact q
        · exact absurd hat (h3 _ q)
      rw [this]
  obtain ⟨r, hr⟩ := key
  unfold partRow Txt.partition
  rw [hr]
  dsimp only
  have e1 : cp (strSub x 0 n.length) = n := by
    rw [show cp (strSub x 0 n.length) = ((cp x).drop 0).take (n.length - 0) from strSub_toList x 0 n.length, hx, List.drop_zero, Nat.sub_zero, List.append_assoc, List.take_left]
  have e2 : cp (strSub x (n.length + cs.length) x.length) = v := by
    rw [show cp (strSub x (n.length + cs.length) x.length) = ((cp x).drop (n.length + cs.length)).take (x.length - (n.length + cs.length)) from strSub_toList x _ _, hx, hcl, hl]
    rw [show n.length + 2 = (n ++ [58, 32]).length by simp, List.drop_left]
    rw [Nat.add_sub_cancel_left, List.take_length]
  rw [← ofl_cp (strSub x 0 n.length), e1, ← ofl_cp (strSub x (n.length + cs.length) x.length), e2]
noncomputable def dotStr (n : Str) : Str := ofl (dotL (cp n))
noncomputable def sentRow (r : Str × Str) : Str × Str := (dotStr r.1, r.2)
structure RowS (r : Str × Str) : Prop where
  n : r.1.length ≤ 400
  v : r.2.length ≤ 400
  hn : hasN r.1 = false
  hv : hasV r.2 = false
  cs : noCS (cp r.1) = true
structure RowsS (rows : List (Str × Str)) : Prop where
  len : rows.length ≤ 40
  all : ∀ r ∈ rows, RowS r
theorem no_of {x : Str} (h : hasN x = false) : 13 ∉ cp x ∧ 10 ∉ cp x := by
  unfold hasN at h
  rw [List.any_eq_false] at h
  exact ⟨fun m => h 13 m (by decide), fun m => h 10 m (by decide)⟩
theorem no_ofV {x : Str} (h : hasV x = false) : 13 ∉ cp x ∧ 10 ∉ cp x := by
  unfold hasV at h
  rw [List.any_eq_false] at h
  exact ⟨fun m => h 13 m (by decide), fun m => h 10 m (by decide)⟩
theorem cp_line (r : Str × Str) : cp (lineOf r) = cp r.1 ++ [58, 32] ++ cp r.2 := by
  unfold lineOf
  simp [cp, Str.cps_append]
theorem line_no {r : Str × Str} (h : RowS r) : 13 ∉ cp (lineOf r) ∧ 10 ∉ cp (lineOf r) := by
  rw [cp_line]
  have h1 := no_of h.hn
  have h2 := no_ofV h.hv
  simp only [List.mem_append, List.mem_cons, List.not_mem_nil, or_false, not_or]
  exact ⟨⟨⟨h1.1, by decide⟩, h2.1⟩, ⟨⟨h1.2, by decide⟩, h2.2⟩⟩
noncomputable def partsOf (rows : List (Str × Str)) : List (List Nat) := rows.map (fun r => cp (lineOf r)) ++ [[], []]
theorem cat_len (e : List Nat) : ∀ parts : List (List Nat), (cat e parts).length ≤ (parts.map fun p => p.length + e.length).sum
  | [] => by simp [cat]
  | [p] => by simp [cat]
  | p :: q :: r => by
    rw [cat_cons, List.map_cons, List.sum_cons, List.length_append, List.length_append]
    have := cat_len e (q :: r)
    lia
theorem sum_le {l : List Nat} {b : Nat} (h : ∀ x ∈ l, x ≤ b) : l.sum ≤ l.length * b := by
  induction l with
  | nil => simp
  | cons x l ih =>
    rw [List.sum_cons, List.length_cons, Nat.succ_mul]
    have := h x List.mem_cons_self
    have := ih fun y hy => h y (List.mem_cons_of_mem _ hy)
    lia
theorem empty_cp : cp (Str.ofString "") = [] := by decide +kernel
theorem parts_no {rows : List (Str × Str)} (h : RowsS rows) : ∀ p ∈ partsOf rows, 13 ∉ p ∧ 10 ∉ p := by
  intro p hp
  unfold partsOf at hp
  rcases List.mem_append.mp hp with hp | hp
  · obtain ⟨r, hr, rfl⟩ := List.mem_map.mp hp
    exact line_no (h.all r hr)
  · simp only [List.mem_cons, List.not_mem_nil, or_false] at hp
    rcases hp with rfl | rfl <;> exact ⟨by simp, by simp⟩
theorem parts_ne (rows : List (Str × Str)) : partsOf rows ≠ [] := by unfold partsOf; simp
theorem parts_len {rows : List (Str × Str)} (h : RowsS rows) : ∀ p ∈ partsOf rows, p.length ≤ 802 := by
  intro p hp
  unfold partsOf at hp
  rcases List.mem_append.mp hp with hp | hp
  · obtain ⟨r, hr, rfl⟩ := List.mem_map.mp hp
    have := h.all r hr
    rw [cp_line]
    simp only [List.length_append, cp_len, List.length_cons, List.length_nil]
    have := this.n; have := (h.all r hr).v; lia
  · simp only [List.mem_cons, List.not_mem_nil, or_false] at hp
    rcases hp with rfl | rfl <;> simp
theorem cat_small {rows : List (Str × Str)} (h : RowsS rows) {e : List Nat} (he : e.length ≤ 2) {f : List Nat → List Nat} (hf : ∀ p, (f p).length ≤ p.length + 1) : (cat e ((partsOf rows).map f)).length ≤ 42 * 805 := by
  refine Nat.le_trans (cat_len _ _) (Nat.le_trans (sum_le (b := 805) ?_) ?_)
  · intro x hx
    obtain ⟨p, hp, rfl⟩ := List.mem_map.mp hx
    obtain ⟨q, hq, rfl⟩ := List.mem_map.mp hp
    have := hf q
    have := parts_len h q hq
    lia
  · refine Nat.mul_le_mul_right _ ?_
    rw [List.length_map, List.length_map]
    unfold partsOf
    have := h.len
    simp; lia
theorem dotL_len (p : List Nat) : (dotL p).length ≤ p.length + 1 := by
  unfold dotL
  split <;> simp
noncomputable def textOf (rows : List (Str × Str)) : Str := Txt.join crlf (rows.map lineOf ++ [Str.ofString "", Str.ofString ""])
theorem cp_text (rows : List (Str × Str)) : cp (textOf rows) = cat [13, 10] (partsOf rows) := by
  unfold textOf Txt.join
  rw [glued_eq_join, cp_join, crlf_cp]
  unfold partsOf
  rw [List.map_append, List.map_map]
  simp only [List.map_cons, List.map_nil, empty_cp]
  rfl
structure EndOk (e : Str) : Prop where
  ex : cp e = [10] ∨ cp e = [13] ∨ cp e = [13, 10]
theorem cp_repl {rows : List (Str × Str)} (h : RowsS rows) (e : Str) : cp (Txt.replace (textOf rows) crlf e) = cat (cp e) (partsOf rows) :=
  replace_parts (c := 13) (t := [10]) crlf_cp (fun p hp => (parts_no h p hp).1) (parts_ne rows) (by rw [cp_text, crlf_cp])
theorem cp_norm {rows : List (Str × Str)} (h : RowsS rows) {e : Str} (he : EndOk e) : cp (norm (Txt.replace (textOf rows) crlf e)) = cat [13, 10] (partsOf rows) := by
  show normS false (cp (Txt.replace (textOf rows) crlf e)) = _
  rw [cp_repl h e]
  exact norm_cat he.ex _ (parts_no h)
theorem cp_sent {rows : List (Str × Str)} (h : RowsS rows) {e : Str} (he : EndOk e) : cp (sentTxt (textOf rows) e) = cat [13, 10] ((partsOf rows).map dotL) := by
  show dotsS true (cp (norm (Txt.replace (textOf rows) crlf e))) = _
  rw [cp_norm h he]
  exact dots_cat _ fun p hp => (parts_no h p hp).2
theorem dotL_no {p : List Nat} (h : 13 ∉ p) : 13 ∉ dotL p := by
  unfold dotL
  split
  · simp only [List.mem_cons, not_or] at h ⊢
    exact ⟨by decide, by decide, h.2⟩
  · exact h
theorem split_sent {rows : List (Str × Str)} (h : RowsS rows) {e : Str} (he : EndOk e) : Txt.split (sentTxt (textOf rows) e) crlf = ((partsOf rows).map dotL).map ofl := by
  refine split_parts (c := 13) (t := [10]) crlf_cp (by decide +kernel) ?_ ?_ (by rw [cp_sent h he, crlf_cp])
  · intro p hp
    obtain ⟨q, hq, rfl⟩ := List.mem_map.mp hp
    exact dotL_no (parts_no h q hq).1
  · have := parts_ne rows
    simpa using this
theorem cut_sent {rows : List (Str × Str)} (h : RowsS rows) {e : Str} (he : EndOk e) : sentCut (textOf rows) e = rows.map fun r => ofl (dotL (cp (lineOf r))) := by
  unfold sentCut
  rw [split_sent h he]
  unfold partsOf
  rw [List.map_append, List.map_append, List.length_append]
  rw [List.take_append_of_le_length (by simp)]
  simp only [List.map_map, List.length_map, List.map_cons, List.map_nil, List.length_cons, List.length_nil]
  rw [List.take_of_length_le (by simp)]
  rfl
set_option tactic.hygienic true in
theorem dotL_line (n v : List Nat) : dotL (n ++ [58, 32] ++ v) = dotL n ++ [58, 32] ++ v := by
  cases n with
  | nil => rfl
  | cons c n =>
    by_cases hc : c = 46
    · subst hc; rfl
    · have e1 : ∀ l, dotL (c :: l) = c :: l := by
        intro l
        unfold dotL
        split
        · rename_i e; cases e; exact absurd rfl hc
        · rfl
      rw [e1]
      show dotL (c :: (n ++ [58, 32] ++ v)) = _
      rw [e1]; rfl
theorem rows_sent {rows : List (Str × Str)} (h : RowsS rows) {e : Str} (he : EndOk e) : (sentCut (textOf rows) e).map partRow = rows.map sentRow := by
  rw [cut_sent h he, List.map_map]
  refine List.map_congr_left fun r hr => ?_
  show partRow (ofl (dotL (cp (lineOf r)))) = sentRow r
  rw [part_row (n := dotL (cp r.1)) (v := cp r.2) (by rw [cp_ofl, cp_line, dotL_line]) (noCS_dot _ (h.all r hr).cs), ofl_cp]
  rfl
theorem sent_okk {rows : List (Str × Str)} (h : RowsS rows) {e : Str} (he : EndOk e) : sentOk (textOf rows) e := by
  have hel : e.length ≤ 2 := by
    rw [← cp_len]
    rcases he.ex with q | q | q <;> (rw [q]; simp)
  have hel2 : (cp e).length ≤ 2 := by rw [cp_len]; exact hel
  have id_le : ∀ p : List Nat, (id p).length ≤ p.length + 1 := fun p => Nat.le_succ _
  have x1 : (textOf rows).length ≤ 42 * 805 := by
    rw [← cp_len, cp_text]
    have := cat_small h (e := [13, 10]) (by simp) id_le
    rwa [List.map_id] at this
  have x2 : (Txt.replace (textOf rows) crlf e).length ≤ 42 * 805 := by
    rw [← cp_len, cp_repl h]
    have := cat_small h hel2 id_le
    rwa [List.map_id] at this
  have x3 : (norm (Txt.replace (textOf rows) crlf e)).length ≤ 42 * 805 := by
    rw [← cp_len, cp_norm h he]
    have := cat_small h (e := [13, 10]) (by simp) id_le
    rwa [List.map_id] at this
  have x4 : (sentTxt (textOf rows) e).length ≤ 42 * 805 := by
    rw [← cp_len, cp_sent h he]
    exact cat_small h (by simp) dotL_len
  have hsl : (Txt.split (sentTxt (textOf rows) e) crlf).length = rows.length + 2 := by
    rw [split_sent h he]
    unfold partsOf
    simp
  have hoc : (partsBetween (sentTxt (textOf rows) e) (occurrences (sentTxt (textOf rows) e) crlf 0 (sentTxt (textOf rows) e).length ((sentTxt (textOf rows) e).length + 1)) crlf.length).length = rows.length + 2 := by
    have := occ_parts (x := sentTxt (textOf rows) e) (y := crlf) (c := 13) (t := [10]) (parts := (partsOf rows).map dotL) crlf_cp (fun p hp => by
      obtain ⟨q, hq, rfl⟩ := List.mem_map.mp hp
      exact dotL_no (parts_no h q hq).1) (by have := parts_ne rows; simpa using this) (by rw [cp_sent h he, crlf_cp])
    have := congrArg List.length this
    rw [List.length_map, List.length_map] at this
    rw [this]
    unfold partsOf
    simp
  have hr := h.len
  have sl := sizeLine_eq
  refine ⟨?_, by lia, by lia, by lia, by lia, by lia, by lia, ?_, ?_⟩
  · have : ((textOf rows).length + 1) * e.length ≤ (42 * 805 + 1) * 2 := Nat.mul_le_mul (by lia) hel
    lia
  · rw [cut_sent h he, List.length_map]; lia
  · intro l hl
    rw [cut_sent h he] at hl
    obtain ⟨r, hr', rfl⟩ := List.mem_map.mp hl
    rw [← cp_len, cp_ofl]
    have h1 := dotL_len (cp (lineOf r))
    have h2 := parts_len h (cp (lineOf r)) (by unfold partsOf; exact List.mem_append_left _ (List.mem_map.mpr ⟨r, hr', rfl⟩))
    lia
end

section
open PySem PySem.W PyProof.Rows PySem.Spec PySem.SeqAt PySem.Calls
open PySem.StrLaws PySem.Builtin.Str
set_option autoImplicit false
set_option linter.unusedVariables false
set_option maxRecDepth 100000
set_option tactic.hygienic false
theorem RowsS.ok {rows : List (Str × Str)} (h : RowsS rows) : rowsOk rows = true := by
  unfold rowsOk
  simp only [Bool.and_eq_true, decide_eq_true_eq, List.all_eq_true]
  refine ⟨by have := h.len; lia, fun r hr => ?_⟩
  unfold rowOk
  have := h.all r hr
  simp only [Bool.and_eq_true, decide_eq_true_eq]
  exact ⟨by have := this.n; lia, by have := this.v; lia⟩
theorem foldl_len (k : Nat) : ∀ (l : List Str) (a : Nat), l.foldl (fun a x => a + x.length + k) a ≤ a + (l.map fun x => x.length + k).sum
  | [], a => by simp
  | x :: l, a => by
    rw [List.foldl_cons, List.map_cons, List.sum_cons]
    have := foldl_len k l (a + x.length + k)
    lia
theorem joinOk_rows {rows : List (Str × Str)} (h : RowsS rows) : JoinOk crlf (rows.map lineOf ++ [Str.ofString "", Str.ofString ""]) = true := by
  unfold JoinOk
  rw [List.foldl_toArray]
  have h1 := foldl_len crlf.length (rows.map lineOf ++ [Str.ofString "", Str.ofString ""]) 0
  have hc : crlf.length = 2 := by rw [← cp_len, crlf_cp]; rfl
  have h2 : ((rows.map lineOf ++ [Str.ofString "", Str.ofString ""]).map fun x => x.length + crlf.length).sum ≤ 42 * 805 := by
    refine Nat.le_trans (sum_le (b := 805) ?_) ?_
    · intro x hx
      obtain ⟨t, ht, rfl⟩ := List.mem_map.mp hx
      rw [hc]
      rcases List.mem_append.mp ht with ht | ht
      · obtain ⟨r, hr, rfl⟩ := List.mem_map.mp ht
        have := parts_len h (cp (lineOf r)) (by unfold partsOf; exact List.mem_append_left _ (List.mem_map.mpr ⟨r, hr, rfl⟩))
        rw [cp_len] at this
        lia
      · have : t.length = 0 := by
          simp only [List.mem_cons, List.not_mem_nil, or_false] at ht
          rcases ht with rfl | rfl <;> (rw [← cp_len, empty_cp]; rfl)
        lia
    · refine Nat.mul_le_mul_right _ ?_
      have := h.len
      simp; lia
  have h3 : (List.foldl (fun x1 x2 => x1 + x2.length + crlf.length) 0 (rows.map lineOf ++ [Str.ofString "", Str.ofString ""])) ≤ 42 * 805 := by lia
  unfold tooLong
  rw [Bool.not_eq_true', decide_eq_false_iff_not]
  rw [sizeLine_eq]
  lia
theorem RowS.sent {r : Str × Str} (h : RowS r) : (sentRow r).1.length ≤ r.1.length + 1 := by
  unfold sentRow dotStr
  rw [← cp_len, ← cp_len, cp_ofl]
  exact dotL_len _
end

section
open PySem PySem.W PyProof.Rows PySem.Spec PySem.SeqAt
set_option autoImplicit false
set_option linter.unusedVariables false
set_option maxRecDepth 100000
set_option tactic.hygienic false
section
variable {W : Wd} {d : Nat} {env : Env} {G : GG}
end
end

section
open PySem PySem.W PyProof.Rows PySem.Spec PySem.SeqAt PySem.Calls
set_option autoImplicit false
set_option linter.unusedVariables false
set_option maxRecDepth 100000
set_option tactic.hygienic false
theorem wp_setAt {prog : Program} {w : World} {A : Around} {E : Value → Shared → Prop} {s : Shared} {l : Addr} {items : Array Value} {n : Nat} {k : Int} {t : Tok} {v : Value} {Q : Unit → Shared → Prop} (ho : s.heap.get? l = some ⟨.type "list", none, .seq items n, #[]⟩)
    (h0 : 0 ≤ k) (hfit : k < 2 ^ 63) (hn : k < items.size)
    (hQ : ∀ h' m, h'.get? l = some ⟨.type "list", none, .seq (items.setIfInBounds k.toNat v) m, #[]⟩ → Heap.SameBut l s.heap h' → Q () { s with heap := h' }) :
    wpAny (model prog w) A (setItem (.ref l) (.int k t) v) Q E s := by
  have hl : s.heap.IsList l items := ⟨_, ho, rfl, n, rfl⟩
  have hd : (⟨.type "list", none, .seq items n, #[]⟩ : Obj).data = .seq items n := rfl
  unfold setItem
  try with_reducible refine wpAny_holding ?_
  first | refine wpAny_bind (wpAny_pure ?_) | skip
  refine wpAny_bind (wpAny_sequenceKey hl.typeIs (by decide) ?_)
  refine wpAny_bind (wpAny_callSpecial?_slot (name := Str.ofString "__setitem__") hl.typeIs slot_list_setitem (wpAny_call_entry slot_list_setitem hl.typeIs entry_list_setitem ?_ (args_list_setitem _ _ _)))
  show wpAny _ _ (Builtin.List.listSubscript? (.int k t) >>= _) _ _ s
  refine wpAny_bind (wpAny_listSubscript_int (fitsIndex_of h0 hfit) ?_)
  clear hfit
  obtain ⟨j, rfl⟩ := Int.eq_ofNat_of_zero_le h0
  have hj : j < items.size := by lia
  show wpAny _ _ ((seqItemAt l j >>= fun r => pure (r.map (j, ·))) >>= _) _ _ s
  refine wpAny_bind (wpAny_bind (wpAny_seqItemAt ho hd (wpAny_pure ?_)))
  rw [Array.getElem?_eq_getElem hj]
  show wpAny _ _ (setSeqItemAt l j v >>= _) _ _ s
  have fin : Q () { s with heap := s.heap.update l (Obj.mapSeq (·.setIfInBounds j v)) } := hQ _ _ (get?_update_seq (c := "list") ho (·.setIfInBounds j v)) (Heap.SameBut.update ..)
  refine wpAny_bind (wpAny_setSeqItemAt ho hd ?_)
  first
    | exact wpAny_bind (wpAny_pure (wpAny_pure ⟨.none, rfl, wpAny_pure fin⟩))
    | exact wpAny_pure ⟨.none, rfl, wpAny_pure fin⟩
noncomputable def psetAny (spec : FSpec) (a b v : PV) : PM Unit := fun σ => match a with
  | .ref i => (match σ.H[i]? with
    | some (.list l) => (match b with
      | .int k => if 0 ≤ k ∧ k < l.length ∧ l.length ≤ 1000 then some (.ok (), { σ with H := σ.H.set i (.list (l.set k.toNat v)) }) else none
      | _ => none)
    | _ => psetI spec a b v σ)
  | _ => none
section
variable {W : Wd} {d : Nat} {env : Env} {G : GG}
theorem All2.set {α β : Type} {R : α → β → Prop} {as : List α} {bs : List β} (x : All2 R as bs) : ∀ (n : Nat) {a : α} {b : β}, R a b → All2 R (as.set n a) (bs.set n b) := by
  induction x with
  | nil => intro n a b r; exact .nil
  | cons r' _ ih => intro n a b r; cases n with
    | zero => exact .cons r (by assumption)
    | succ n => exact .cons r' (ih n r)
theorem o_setAny {spec : FSpec} {fa : Addr} (hC : ClsOk W) (F : FHolds W d (.ref fa) spec) (hs : findIn W.K (.ref W.C) "__setitem__" = some (some (.ref fa))) (hf : typeIn W.K (.ref fa) = some (.type "function")) {a b v : Value} {pa pb pv : PV} (ga : ∀ h ρ, G.P h ρ → RepV h ρ a pa) (gb : ∀ h ρ, G.P h ρ → RepV h ρ b pb) (gv : ∀ h ρ, G.P h ρ → RepV h ρ v pv) :
    Sim W d env rrU G (setItem a b v) (psetAny spec pa pb pv) := by
  intro A s ρ σ Q E ha hr hg hp
  unfold psetAny at hp
  cases pa with
  | ref i =>
    dsimp only at hp
    cases hi : σ.H[i]? with
    | none => rw [hi] at hp; exact o_setI hC F hs hf ga gb gv A s ρ σ Q E ha hr hg hp
    | some ob =>
      rw [hi] at hp
      cases ob with
      | inst k => exact o_setI hC F hs hf ga gb gv A s ρ σ Q E ha hr hg hp
      | dct fs => exact o_setI hC F hs hf ga gb gv A s ρ σ Q E ha hr hg hp
      | list l =>
        cases pb with
        | int k =>
          dsimp only at hp
          by_cases hc : 0 ≤ k ∧ k < l.length ∧ l.length ≤ 1000
          · rw [if_pos hc] at hp
            obtain ⟨h0, h1, h2⟩ := hc
            obtain ⟨x, rfl, ex, vs, n, hox, zx⟩ := ref_inv hr.cells (ga _ _ hg) hi
            obtain ⟨t, hb⟩ := gb _ _ hg
            subst hb
            have hlen := zx.length
            refine wp_setAt (items := vs.toArray) hox h0 (by lia) (by rw [List.size_toArray, hlen]; exact h1) fun h' m ho' sb => ?_
            have st := hr.cells.stbSet (get_mem ex) sb.2
            have ro : RepO W h' ρ x (.list (l.set k.toNat pv)) := ⟨vs.set k.toNat v, m, by rw [ho']; simp, (zx.mono fun _ _ y => y.stb st).set _ ((gv _ _ hg).stb st)⟩
            have e0 : Ext0 W (fp env) s.heap ρ h' ρ := Ext0.set (get_mem ex) sb.2 ro
            exact hp () h' ρ s.toks (hr.set ex sb.2 ro) e0.toExt ⟨ha.tok, ha.pos⟩ trivial
          · rw [if_neg hc] at hp; exact hp.elim
        | _ => exact hp.elim
  | _ => exact hp.elim
theorem a_setAny {o i : Expr} {sp : Pos} {spec : FSpec} {fa : Addr} {p q : PM PV} (hC : ClsOk W) (F : FHolds W d (.ref fa) spec) (hs : findIn W.K (.ref W.C) "__setitem__" = some (some (.ref fa))) (hf : typeIn W.K (.ref fa) = some (.type "function")) (ho : SE W d env o p) (hi : SE W d env i q) :
    SAs W d env (.Subscript o i sp) (fun v => PM.bind p fun a => PM.bind q fun b => psetAny spec a b v) := by
  intro G v pv gv
  rw [arm_assign_Subscript]
  have key : ∀ rl : Value → Value → List Value, Sim W d env rrU G (holding [v] (eval o env) >>= fun ov => holding [v, ov] (eval i env) >>= fun iv => standAt sp >>= fun _ => holding [v, ov, iv] (setItem ov iv v) >>= fun _ => PySem.release (rl ov iv) []) (PM.bind p fun a => PM.bind q fun b => PM.bind (psetAny spec a b pv) fun _ => PM.pure ()) := by
    intro rl
    refine Sim.bind (Sim.holding (ho G)) fun a pa => Sim.bind (Sim.holding (hi _)) fun b pb => Sim.stand (Sim.bind (R := rrU) (Sim.holding (o_setAny hC F hs hf (fun _ _ g => g.1.2) (fun _ _ g => g.2) fun _ _ g => gv _ _ g.1.1)) fun _ _ => ?_)
    exact Sim.of0 fun A s ρ σ Q E ha hr hg hp => wp_release (hp () s.heap ρ s.toks hr .refl trivial)
  refine Sim.eq (key (relOf i v)) rfl ?_
  have e : ∀ a b, psetAny spec a b pv = PM.bind (psetAny spec a b pv) fun _ => PM.pure () := by
    intro a b; funext σ
    unfold PM.bind PM.pure
    split <;> simp_all
  show (PM.bind p fun a => PM.bind q fun b => psetAny spec a b pv) = _
  congr 1; funext a; congr 1; funext b; exact e a b
end
end

section
open PySem PySem.W PyProof.Rows PySem.Spec PySem.SeqAt PySem.Calls
set_option autoImplicit false
set_option linter.unusedVariables false
set_option maxRecDepth 100000
set_option tactic.hygienic false
section
variable {W : Wd} {d : Nat} {env : Env} {G : GG}
end
end

section
open PySem PySem.W PyProof.Rows PySem.Spec PySem.SeqAt PySem.Calls
set_option autoImplicit false
set_option linter.unusedVariables false
set_option maxRecDepth 100000
set_option tactic.hygienic false
section
variable {W : Wd} {d : Nat} {env : Env} {G : GG}
end
end

section
open PySem PySem.W PyProof.Rows PySem.Spec PySem.SeqAt PySem.Calls
set_option autoImplicit false
set_option linter.unusedVariables false
set_option maxRecDepth 100000
set_option tactic.hygienic false
end

section
open PySem PySem.W PyProof.Rows PySem.Spec PySem.SeqAt PySem.Calls
set_option autoImplicit false
set_option linter.unusedVariables false
set_option linter.unusedSectionVars false
set_option maxRecDepth 100000
set_option maxHeartbeats 4000000
set_option tactic.hygienic false
section
variable {σ : PS}
noncomputable def natP (n : Nat) : PV := .int (n : Int)
theorem fmodN (n m : Nat) : Int.fmod (n : Int) (m : Int) = ((n % m : Nat) : Int) := (Int.ofNat_fmod n m).symm
theorem PW.modN {n m : Nat} {Q : PV → PS → Prop} (hm : m ≠ 0) (h : Q (natP (n % m)) σ) : PW (pMod (natP n) (natP m)) σ Q := PW.guard (by lia) (by rw [fmodN]; exact PW.pure h)
theorem PW.subN {n m : Nat} {Q : PV → PS → Prop} (hm : m ≤ n) (h : Q (natP (n - m)) σ) : PW (pSub (natP n) (natP m)) σ Q := PW.pure (by
  have : ((n - m : Nat) : Int) = (n : Int) - m := by lia
  unfold natP at h
  rw [this] at h; exact h)
theorem PW.eqN {n m : Nat} {Q : PV → PS → Prop} (h : Q (.bool (n == m)) σ) : PW (pEq (natP n) (natP m)) σ Q := PW.pure (by
  have : ((n : Int) == (m : Int)) = (n == m) := by
    by_cases e : n = m
    · subst e; simp
    · have e' : (n : Int) ≠ (m : Int) := by lia
      rw [beq_eq_false_iff_ne.mpr e, beq_eq_false_iff_ne.mpr e']
  rw [this]; exact h)
noncomputable def dotsN (k : Nat) : Str := ofl (List.replicate k 46)
theorem mul_dots : ∀ n ≤ 20, Txt.mul (Str.ofString ".") ((n : Nat) : Int) = dotsN n := by decide +kernel
theorem cat_end (e : List Nat) : ∀ ps : List (List Nat), cat e (ps ++ [[], []]) = (ps.map (· ++ e)).flatten ++ e
  | [] => by simp [cat]
  | [p] => by
    show p ++ e ++ ([] ++ e ++ []) = _
    simp
  | p :: q :: r => by
    rw [List.cons_append, List.cons_append, cat_cons, ← List.cons_append, cat_end e (q :: r)]
    simp [List.append_assoc]
noncomputable def lineL (r : Str × Str) : List Nat := cp (lineOf r) ++ [13, 10]
theorem cp_textF (rows : List (Str × Str)) : cp (textOf rows) = (rows.map lineL).flatten ++ [13, 10] := by
  rw [cp_text]
  unfold partsOf
  rw [cat_end, List.map_map]
  rfl
theorem PW.itemN {σ : PS} {i j : Nat} {l : List PV} {p : PV} {Q : PV → PS → Prop} (e0 : σ.H[i]? = some (.list l)) (e : l[j]? = some p) (hj : j < 2 ^ 62) (h : Q p σ) : PW (pitem (.ref i) (natP j)) σ Q := by
  refine PW.itemL (k := (j : Int)) e0 ?_ ?_ h
  · unfold pplace
    rw [if_pos (by lia)]
    simpa using e
  · lia
theorem PW.mulD {σ : PS} {n : Nat} {Q : PV → PS → Prop} (hn : n ≤ 20) (h : Q (.str (dotsN n)) σ) : PW (pMul (.str (Str.ofString ".")) (natP n)) σ Q := by
  refine PW.guard ⟨by lia, by lia, by decide⟩ ?_
  rw [mul_dots n hn]
  exact PW.pure h
theorem PW.addS {σ : PS} {x y : Str} {Q : PV → PS → Prop} (hs : x.length + y.length ≤ sizeLine) (h : Q (.str (x ++ y)) σ) : PW (pAdd (.str x) (.str y)) σ Q := PW.guard hs (PW.pure h)
theorem PW.swap2 {σ : PS} {n m : String} {v w : PV} {Q : Unit → PS → Prop} (h : Q () { σ with loc := lset n v (lset m w σ.loc) }) : PW (pswap [n, m] (.tup [v, w])) σ Q := ⟨(), _, rfl, h⟩
theorem cp_app (x y : Str) : cp (x ++ y) = cp x ++ cp y := by simp [cp, Str.cps_append]
theorem len_app (x y : Str) : (x ++ y).length = x.length + y.length := by rw [← cp_len, cp_app, List.length_append, cp_len, cp_len]
theorem dots_len (k : Nat) : (dotsN k).length = k := by rw [← cp_len]; show (List.replicate k 46).length = k; exact List.length_replicate
theorem cN : cp (Str.ofString "\x0d\n") = [13, 10] := by decide +kernel
theorem cC : cp (Str.ofString ": ") = [58, 32] := by decide +kernel
theorem lN : (Str.ofString "\x0d\n").length = 2 := by decide +kernel
theorem lC : (Str.ofString ": ").length = 2 := by decide +kernel
theorem lineL_eq (r : Str × Str) : lineL r = cp r.1 ++ [58, 32] ++ cp r.2 ++ [13, 10] := by
  unfold lineL lineOf
  rw [cp_app, cp_app]
theorem PW.val {α : Type} {p : PM α} {σ : PS} {v : α} {Q : α → PS → Prop} (h : PW p σ fun a τ => a = v ∧ τ = σ) (k : Q v σ) : PW p σ Q := h.mono fun a τ e => by obtain ⟨rfl, rfl⟩ := e; exact k
theorem get_app {H X : List PO} {x : Nat} {o : PO} (e : H[x]? = some o) : (H ++ X)[x]? = some o := by rw [List.getElem?_append_left (lt_of_get e)]; exact e
theorem get_set {H : List PO} {x y : Nat} {o o' : PO} (e : H[x]? = some o) (n : x ≠ y) : (H.set y o')[x]? = some o := by rw [List.getElem?_set_ne (Ne.symm n)]; exact e
theorem Tab.app {H X : List PO} {i l : Nat} {rows : List (Str × Str)} (t : Tab H i l rows) : Tab (H ++ X) i l rows := by
  obtain ⟨k, e1, e2, e3⟩ := t.ex
  exact ⟨k, get_app e1, get_app e2, get_app e3⟩
theorem PW.fspecE {pb : List PV → List (String × PV) → List PO → Option (List (String × PV) × List PO)} {p : PM PF} {a : List PV} {kw : List (String × PV)} {H H₁ : List PO} {l : List (String × PV)} {R : PV → List PO → Prop} (e : pb a kw H = some (l, H₁))
    (h : PW p ⟨l, H₁⟩ fun f σ' => ∃ v, f = .ret v ∧ R v σ'.H) : ∃ v H', Mine.fspec pb p a kw H = some (.ok v, H') ∧ R v H' := by
  obtain ⟨f, σ', e2, v, rfl, r⟩ := h
  refine ⟨v, σ'.H, ?_, r⟩
  unfold Mine.fspec
  rw [e]
  dsimp only
  rw [e2]
theorem pall_strs (H : List PO) (k : Nat) : ∀ l : List Str, pall (pdata H k) (l.map PV.str) = some (l.map PyData.str)
  | [] => rfl
  | x :: l => by
    have e : pdata H k (PV.str x) = some (.str x) := by cases k <;> rfl
    show (match pdata H k (PV.str x), pall (pdata H k) (l.map PV.str) with
      | some d, some ds => some (d :: ds)
      | _, _ => none) = _
    rw [e, pall_strs H k l]; rfl
theorem strs_depth : ∀ l : List Str, PyData.depthAll (l.map PyData.str) = 0
  | [] => rfl
  | x :: l => by
    rw [List.map_cons]
    unfold PyData.depthAll
    rw [strs_depth l]
    rfl
theorem PW.pow106 {σ : PS} {Q : PV → PS → Prop} (h : Q (.int 1000000) σ) : PW (pPow (.int 10) (.int 6)) σ Q := PW.guard ⟨by decide, by decide, by decide⟩ (PW.pure h)
noncomputable def fz (z : Int) : Nat := (Int.fmod z 1000000).toNat
theorem PW.modZ {σ : PS} {z : Int} {Q : PV → PS → Prop} (h : Q (natP (fz z)) σ) : PW (pMod (.int z) (.int 1000000)) σ Q := by
  refine PW.guard (by decide) (PW.pure ?_)
  have : Int.fmod z 1000000 = (fz z : Int) := by
    unfold fz
    have := Int.fmod_eq_emod_of_nonneg z (b := 1000000) (by decide)
    lia
  rw [this]; exact h
theorem PW.ltN {σ : PS} {n m : Nat} {Q : PV → PS → Prop} (h : Q (.bool (decide (n < m))) σ) : PW (pLt (natP n) (natP m)) σ Q := PW.pure (by
  have : decide ((n : Int) < (m : Int)) = decide (n < m) := by
    by_cases e : n < m
    · rw [decide_eq_true e, decide_eq_true (by lia)]
    · rw [decide_eq_false e, decide_eq_false (by lia)]
  rw [this]; exact h)
theorem PW.lenL {σ : PS} {i : Nat} {l : List PV} {Q : PV → PS → Prop} (e : σ.H[i]? = some (.list l)) (hl : l.length ≤ sizeLine) (h : Q (natP l.length) σ) : PW (fLen [.ref i]) σ Q := PW.plist e (PW.guard hl (PW.pure h))
end
end

section
open PySem PySem.W PyProof.Rows PySem.Spec PySem.SeqAt PySem.Calls
set_option autoImplicit false
set_option linter.unusedVariables false
set_option linter.unusedSectionVars false
set_option maxRecDepth 100000
set_option maxHeartbeats 4000000
set_option tactic.hygienic false
theorem PW.mapG {σ : PS} {capt : List String} {p : PM NX} {asg : PV → PM Unit} {elt : PM PV} {Q : PV → PS → Prop} (len : Nat) (src out : Nat → PV) (J : List (String × PV) → Prop)
    (hp : PW p σ fun nx τ => τ = σ ∧ ∀ j L, nx j (σ.H ++ [.list L]) = some (if j < len then some (src j) else none)) (hlen : len ≤ 99)
    (h0 : J (pinner capt σ).loc)
    (step : ∀ j τ, j < len → J τ.loc → τ.H = σ.H ++ [.list ((List.range j).map out)] → PW (asg (src j)) τ fun _ τ₁ => PW elt τ₁ fun v τ₂ => v = out j ∧ J τ₂.loc ∧ τ₂.H = τ.H)
    (fin : ∀ loc', J loc' → ∃ loc, pback capt loc' σ.loc = some loc ∧ Q (.ref σ.H.length) ⟨loc, σ.H ++ [.list ((List.range len).map out)]⟩) : PW (pcomp capt p asg (PM.pure true) elt 100) σ Q := by
  refine PW.comp (hp.mono fun nx τ h => ?_)
  obtain ⟨rfl, hnx⟩ := h
  refine PW.compL (fun j o τ' => τ'.H = τ.H ++ [.list o] ∧ J τ'.loc ∧ o = (List.range j).map out) len src ?_ ?_ ?_ ?_ (by lia) ?_ 100 0 [] _ (by lia) (Nat.zero_le _) ⟨rfl, h0, rfl⟩
  · rintro j o τ' ⟨hH, _⟩; rw [hH]; exact hnx j o
  · rintro j o τ' ⟨hH, _⟩; rw [hH, List.getElem?_append_right (Nat.le_refl _)]; simp
  · rintro j o τ' hj ⟨hH, hJ, ho⟩
    refine (step j τ' hj hJ (by rw [hH, ho])).mono fun _ τ₁ h₁ => PW.pure ?_
    rw [if_pos rfl]
    refine h₁.mono fun v τ₂ ⟨hv, hJ₂, hH₂⟩ => ?_
    rw [hH] at hH₂
    refine ⟨by rw [hH₂, List.getElem?_append_right (Nat.le_refl _)]; simp, ?_, hJ₂, ?_⟩
    · show τ₂.H.set τ.H.length _ = _
      rw [hH₂, List.set_append_right _ _ (Nat.le_refl _)]; simp
    · rw [List.range_succ, List.map_append, ho, hv]; rfl
  · rintro j o τ' ⟨_, _, rfl⟩; rw [List.length_map, List.length_range]; exact Nat.le_refl _
  · rintro o τ' ⟨hH, hJ, rfl⟩
    obtain ⟨loc, e, q⟩ := fin _ hJ
    refine ⟨loc, e, ?_⟩
    rw [hH]; exact q
theorem range_map_get {α : Type} (l : List α) (d : α) : (List.range l.length).map (fun j => l.getD j d) = l := by
  apply List.ext_getElem
  · simp
  · intro i h1 h2
    simp [List.getD, List.getElem?_eq_getElem h2]
theorem PW.mapL {σ : PS} {capt : List String} {p : PM NX} {asg : PV → PM Unit} {elt : PM PV} {Q : PV → PS → Prop} {i : Nat} {l : List PV} (out : PV → PV) (J : List (String × PV) → Prop)
    (hp : PW p σ fun nx τ => τ = σ ∧ nx = nxList i) (hl : σ.H[i]? = some (.list l)) (hlen : l.length ≤ 99) (h0 : J (pinner capt σ).loc)
    (step : ∀ x τ, x ∈ l → J τ.loc → (∃ L, τ.H = σ.H ++ [.list L]) → PW (asg x) τ fun _ τ₁ => PW elt τ₁ fun v τ₂ => v = out x ∧ J τ₂.loc ∧ τ₂.H = τ.H)
    (fin : ∀ loc', J loc' → ∃ loc, pback capt loc' σ.loc = some loc ∧ Q (.ref σ.H.length) ⟨loc, σ.H ++ [.list (l.map out)]⟩) : PW (pcomp capt p asg (PM.pure true) elt 100) σ Q := by
  refine PW.mapG l.length (fun j => l.getD j .none) (fun j => out (l.getD j .none)) J (hp.mono fun nx τ ⟨h1, h2⟩ => ⟨h1, fun j L => ?_⟩) hlen h0 (fun j τ hj hJ hH => ?_) (fun loc' hJ => ?_)
  · subst h2
    unfold nxList
    rw [get_app hl]
    dsimp only
    by_cases hj : j < l.length
    · rw [if_pos hj, List.getElem?_eq_getElem hj]; simp [List.getD, List.getElem?_eq_getElem hj]
    · rw [if_neg hj, List.getElem?_eq_none (by lia)]
  · exact step _ τ (by simp [List.getD, List.getElem?_eq_getElem hj]) hJ ⟨_, hH⟩
  · have e : (List.range l.length).map (fun j => out (l.getD j .none)) = l.map out := by
      have := congrArg (List.map out) (range_map_get l .none)
      rw [List.map_map] at this
      exact this
    rw [e]; exact fin loc' hJ
theorem sb_as {W : Wd} {d : Nat} {env : Env} {b : List Stmt} {p q : PM PF} (h : SB W d env b q) (e : p = q) : SB W d env b p := by rw [e]; exact h
theorem c_own {W : Wd} {d : Nat} {fa : Addr} {fd : FuncData} {body : List Stmt} {ns : List String} {pb : List PV → List (String × PV) → List PO → Option (List (String × PV) × List PO)} {p : PM PF} (D : DefOk W fa fd body ns) (hb : BindOk W fd pb) (hns : ∀ a kw H l H', pb a kw H = some (l, H') → l.map (·.1) = ns)
    (hS : ∀ L, SB W d (fenv fd L fa) body p) : CHolds W (d + 1) (.ref fa) (fspec pb p) := c_def2 D hb hns fun L => ⟨p, hS L, fun _ _ _ _ h => h⟩
theorem own_mk' {W : Wd} {d : Nat} {f : Value} {B : FSpec → Prop} {spec : FSpec} (h : CHolds W d f spec) (l : B spec) : ∃ sp, CHolds W d f sp ∧ B sp := ⟨spec, h, l⟩
end

section
open PySem PySem.W PyProof.Rows PySem.Spec PySem.SeqAt PySem.Calls
set_option autoImplicit false
set_option linter.unusedVariables false
set_option linter.unusedSectionVars false
set_option maxRecDepth 100000
set_option tactic.hygienic false
noncomputable def ConvLaw (sp : FSpec) : Prop := ∀ (H : List PO) (s : PV) (x : Str) (b : Bool), x.length ≤ 1000000 → sp [s, .str x] [("name", .bool b)] H = some (if (if b = true then hasN x else hasV x) = true then .exc else .ok (.str x), H)
noncomputable def GetLaw (sp : FSpec) : Prop := ∀ (H : List PO) (i l : Nat) (rows : List (Str × Str)) (n : Str) (d : Option PV), Tab H i l rows → rowsOk rows = true → nameLen n = true → sp (.ref i :: .str n :: d.toList) [] H = some (if hasN (Txt.lower n) = true then .exc else .ok (getD' rows n (d.getD .none)), H)
noncomputable def InitLaw (sp : FSpec) : Prop := ∀ (H : List PO) (i k l : Nat) (rows : List (Str × Str)), H[i]? = some (.inst k) → H[k]? = some (.dct []) → H[l]? = some (.list (rows.map row)) → rowsOk rows = true → (∀ r ∈ rows, hasN r.1 = false ∧ hasV r.2 = false) → sp [.ref i, .ref l] [] H = some (.ok .none, H.set k (.dct [("_headers", .ref l)]))
noncomputable def ClsLaw (sp : FSpec) : Prop := ∀ (H : List PO) (l : Nat) (rows : List (Str × Str)), H[l]? = some (.list (rows.map row)) → rowsOk rows = true → (∀ r ∈ rows, hasN r.1 = false ∧ hasV r.2 = false) →
  ∃ X, sp [.ref l] [] H = some (.ok (.ref (H.length + 1)), H ++ X) ∧ Tab (H ++ X) (H.length + 1) l rows
noncomputable def StrLaw (sp : FSpec) : Prop := ∀ (H : List PO) (i l : Nat) (rows : List (Str × Str)), Tab H i l rows → RowsS rows → ∃ X, sp [.ref i] [] H = some (.ok (.str (textOf rows)), H ++ X)
noncomputable def QuoLaw (sp : FSpec) : Prop := ∀ (H : List PO) (x : Str), x.length ≤ 100000 → (norm x).length ≤ 100000 → sp [.str x] [] H = some (.ok (.str (dots (norm x))), H)
noncomputable def DelLaw (sp : FSpec) : Prop := ∀ (H : List PO) (i l : Nat) (rows : List (Str × Str)) (n : Str), Tab H i l rows → rowsOk rows = true → nameLen n = true →
  (hasN (Txt.lower n) = true → sp [.ref i, .str n] [] H = some (.exc, H)) ∧ (hasN (Txt.lower n) = false → ∃ X, sp [.ref i, .str n] [] H = some (.ok .none, (H ++ X).set l (.list ((kept rows n).map row))))
noncomputable def StoreLaw (sp : FSpec) : Prop := ∀ (H : List PO) (i l : Nat) (rows : List (Str × Str)) (n v : Str), Tab H i l rows → rowsOk rows = true → nameLen n = true → v.length ≤ 10000 →
  (hasN (Txt.lower n) = true → sp [.ref i, .str n, .str v] [] H = some (.exc, H)) ∧ (hasN (Txt.lower n) = false → ∃ X, sp [.ref i, .str n, .str v] [] H = some (if hasN n = true ∨ hasV v = true then (.exc, (H ++ X).set l (.list ((kept rows n).map row))) else (.ok .none, (H ++ X).set l (.list ((kept rows n ++ [(n, v)]).map row)))))
section
variable {sp : FSpec}
theorem ConvLaw.ok (h : ConvLaw sp) {H : List PO} {s : PV} {x : Str} {b : Bool} (hx : x.length ≤ 1000000) (hb : (if b = true then hasN x else hasV x) = false) : sp [s, .str x] [("name", .bool b)] H = some (.ok (.str x), H) := by
  rw [h H s x b hx, hb]; rfl
theorem ConvLaw.exc (h : ConvLaw sp) {H : List PO} {s : PV} {x : Str} {b : Bool} (hx : x.length ≤ 1000000) (hb : (if b = true then hasN x else hasV x) = true) : sp [s, .str x] [("name", .bool b)] H = some (.exc, H) := by
  rw [h H s x b hx, hb]; rfl
theorem GetLaw.ok (h : GetLaw sp) {H : List PO} {i l : Nat} {rows : List (Str × Str)} {n : Str} {d : PV} (t : Tab H i l rows) (ho : rowsOk rows = true) (h1 : nameLen n = true) (h2 : hasN (Txt.lower n) = false) : sp [.ref i, .str n, d] [] H = some (.ok (getD' rows n d), H) := by
  have := h H i l rows n (some d) t ho h1
  rw [h2] at this; exact this
theorem GetLaw.ok1 (h : GetLaw sp) {H : List PO} {i l : Nat} {rows : List (Str × Str)} {n : Str} (t : Tab H i l rows) (ho : rowsOk rows = true) (h1 : nameLen n = true) (h2 : hasN (Txt.lower n) = false) : sp [.ref i, .str n] [] H = some (.ok (getD' rows n .none), H) := by
  have := h H i l rows n none t ho h1
  rw [h2] at this; exact this
theorem GetLaw.exc (h : GetLaw sp) {H : List PO} {i l : Nat} {rows : List (Str × Str)} {n : Str} (t : Tab H i l rows) (ho : rowsOk rows = true) (h1 : nameLen n = true) (h2 : hasN (Txt.lower n) = true) : sp [.ref i, .str n] [] H = some (.exc, H) := by
  have := h H i l rows n none t ho h1
  rw [h2] at this; exact this
theorem Tab.put {H : List PO} {i l : Nat} {rows : List (Str × Str)} (t : Tab H i l rows) (X : List PO) (rs : List (Str × Str)) : Tab ((H ++ X).set l (.list (rs.map row))) i l rs := by
  obtain ⟨k, e1, e2, e3⟩ := t.ex
  have hlt := lt_of_get e3
  exact ⟨k, get_set (get_app e1) (fun z => by subst z; rw [e1] at e3; cases e3), get_set (get_app e2) (fun z => by subst z; rw [e2] at e3; cases e3), by rw [List.getElem?_set_self (by rw [List.length_append]; lia)]⟩
theorem cls_law (h : InitLaw sp) : ClsLaw (clsSpec sp) := by
  intro H l rows h3 ho hv
  have hl := lt_of_get h3
  have e1 : (H ++ [PO.dct []] ++ [PO.inst H.length])[H.length + 1]? = some (.inst H.length) := by
    rw [List.getElem?_append_right (by simp)]; simp
  have e2 : (H ++ [PO.dct []] ++ [PO.inst H.length])[H.length]? = some (.dct []) := get_app (by rw [List.getElem?_append_right (Nat.le_refl _), Nat.sub_self]; rfl)
  have e3 : (H ++ [PO.dct []] ++ [PO.inst H.length])[l]? = some (.list (rows.map row)) := get_app (get_app h3)
  refine ⟨[PO.dct [("_headers", .ref l)], PO.inst H.length], ?_, ?_⟩
  · unfold clsSpec
    rw [h _ _ _ _ _ e1 e2 e3 ho hv]
    dsimp only
    rw [List.append_assoc, List.set_append_right _ _ (Nat.le_refl _), Nat.sub_self]
    rfl
  · refine ⟨H.length, ?_, ?_, ?_⟩
    · rw [List.getElem?_append_right (by lia), Nat.add_sub_cancel_left]; rfl
    · rw [List.getElem?_append_right (Nat.le_refl _), Nat.sub_self]; rfl
    · exact get_app h3
theorem nameLen_inv {n : Str} (h : nameLen n = true) : n.length ≤ 10000 ∧ (Txt.lower n).length ≤ 1000000 := by
  unfold nameLen at h
  rw [Bool.and_eq_true] at h
  exact ⟨of_decide_eq_true h.1, of_decide_eq_true h.2⟩
end
set_option tactic.hygienic true in
theorem bind_posD {W : Wd} {fd : FuncData} {ns : List String} (h : ∀ (s : Shared), (∀ b o, W.h₀.get? b = some o → s.heap.get? b = some o) → ∀ args : List Value, args.length = ns.length → BindsTo s fd ⟨args, []⟩ ((ns.map Str.ofString).zip args)) : BindOk W fd (pbOf (pb0 ns)) := by
  refine BindOk.mk fun s ρ args kw pargs pkw l hb ra rk e => ?_
  unfold pb0 at e
  split at e
  · rename_i hh
    obtain ⟨h1, rfl⟩ := hh
    cases e
    cases rk
    exact ⟨_, h s hb args (by rw [ra.length]; exact h1), zip_rel (W := W) ra⟩
  · cases e
noncomputable def pbN (ns : List String) : List PV → List (String × PV) → Option (List (String × PV)) := fun a k => if a.length = ns.length ∧ k = [] then some (ns.zip a) else if a.length + 1 = ns.length ∧ k = [] then some (ns.zip (a ++ [.none])) else none
theorem bind_N {W : Wd} {fd : FuncData} {ns : List String} (h : ∀ (s : Shared), (∀ b o, W.h₀.get? b = some o → s.heap.get? b = some o) → ∀ args : List Value, args.length = ns.length → BindsTo s fd ⟨args, []⟩ ((ns.map Str.ofString).zip args))
    (h2 : ∀ (s : Shared), (∀ b o, W.h₀.get? b = some o → s.heap.get? b = some o) → ∀ args : List Value, args.length + 1 = ns.length → BindsTo s fd ⟨args, []⟩ ((ns.map Str.ofString).zip (args ++ [.none]))) : BindOk W fd (pbOf (pbN ns)) := by
  refine BindOk.mk fun s ρ args kw pargs pkw l hb ra rk e => ?_
  unfold pbN at e
  by_cases c1 : pargs.length = ns.length ∧ pkw = []
  · rw [if_pos c1] at e
    obtain ⟨h1, rfl⟩ := c1
    cases e
    cases rk
    exact ⟨_, h s hb args (by rw [ra.length]; exact h1), zip_rel (W := W) ra⟩
  · rw [if_neg c1] at e
    obtain ⟨⟨c2, rfl⟩, rfl⟩ := if_inv e
    cases rk
    exact ⟨_, h2 s hb args (by rw [ra.length]; exact c2), zip_rel (W := W) (ra.append (.cons rfl .nil))⟩
theorem pbN_names {ns : List String} {a : List PV} {kw : List (String × PV)} {H : List PO} {l : List (String × PV)} {H' : List PO} (h : pbOf (pbN ns) a kw H = some (l, H')) : l.map (·.1) = ns := by
  unfold pbOf pbN at h
  obtain ⟨l', e1, e2⟩ := Option.map_eq_some_iff.mp h
  cases e2
  by_cases c1 : a.length = ns.length ∧ kw = []
  · rw [if_pos c1] at e1
    cases e1; exact zip_names c1.1
  · rw [if_neg c1] at e1
    obtain ⟨c2, rfl⟩ := if_inv e1
    exact zip_names (by rw [List.length_append]; exact c2.1)
noncomputable def pbK1 (ns : List String) (kn : String) : List PV → List (String × PV) → Option (List (String × PV)) := fun a k => if a.length = ns.length ∧ k.map (·.1) = [kn] then some (ns.zip a ++ k) else none
theorem bind_K1 {W : Wd} {fd : FuncData} {ns : List String} {kn : String} (h : ∀ (args : List Value) (v : Value), args.length = ns.length → bindArgs fd ⟨args, [(Str.ofString kn, v)]⟩ = pure ((ns.map Str.ofString).zip args ++ [(Str.ofString kn, v)])) : BindOk W fd (pbOf (pbK1 ns kn)) := by
  refine BindOk.mk fun s ρ args kw pargs pkw l hb ra rk e => ?_
  obtain ⟨⟨h1, h2⟩, rfl⟩ := if_inv e
  clear e
  cases rk with
  | nil => cases h2
  | @cons x y xs ys r rk =>
    obtain ⟨k, v⟩ := x
    obtain ⟨k', q⟩ := y
    injection h2 with h2 h3
    obtain ⟨e1, r⟩ := r
    have e1 : k = Str.ofString k' := e1
    have h2 : k' = kn := h2
    subst h2
    subst e1
    cases rk with
    | nil => exact ⟨_, BindsTo.of_eq (h args v (by rw [ra.length]; exact h1)), (zip_rel (W := W) ra).append (.cons ⟨rfl, r⟩ .nil)⟩
    | cons _ _ => cases h3
theorem pbK1_names {ns : List String} {kn : String} {a : List PV} {kw : List (String × PV)} {H : List PO} {l : List (String × PV)} {H' : List PO} (h : pbOf (pbK1 ns kn) a kw H = some (l, H')) : l.map (·.1) = ns ++ [kn] := by
  unfold pbOf pbK1 at h
  obtain ⟨l', e1, e2⟩ := Option.map_eq_some_iff.mp h
  cases e2
  obtain ⟨c, rfl⟩ := if_inv e1
  rw [List.map_append, zip_names c.1, c.2]
theorem len2 {P : List Value → Prop} (h : ∀ a b, P [a, b]) : ∀ args : List Value, args.length = 2 → P args := fun args e => by
  obtain ⟨a, r, rfl, e1⟩ := len_cons e
  obtain ⟨b, rfl⟩ := len_one e1
  exact h a b
theorem len3 {P : List Value → Prop} (h : ∀ a b c, P [a, b, c]) : ∀ args : List Value, args.length = 3 → P args := fun args e => by
  obtain ⟨a, r, rfl, e1⟩ := len_cons e
  exact len2 (P := fun l => P (a :: l)) (fun b c => h a b c) r e1
theorem c_ownE {W : Wd} {d : Nat} {fa : Addr} {fd : FuncData} {body : List Stmt} {ns : List String} {pb : List PV → List (String × PV) → List PO → Option (List (String × PV) × List PO)} {p : PM PF} (D : DefOk W fa fd body ns) (hb : BindOk W fd pb) (hns : ∀ a kw H l H', pb a kw H = some (l, H') → l.map (·.1) = ns)
    (hS : ∀ L, SB W d (fenv fd L fa) body p) : CHolds W (d + 1) (.ref fa) (fspecX pb p) := c_defG D hb hns fun L => ⟨p, (hS L).f, fun _ _ _ _ h => h⟩
theorem str_shape {r : Option (Res PV × List PO)} {H : List PO} {x : Str} (h : ∃ v H', r = some (.ok v, H') ∧ v = .str x ∧ ∃ X, H' = H ++ X) : ∃ X, r = some (.ok (.str x), H ++ X) := by
  obtain ⟨v, H', e, rfl, X, rfl⟩ := h
  exact ⟨X, e⟩
theorem nx_rows {H : List PO} {l : Nat} {rows : List (Str × Str)} (e : H[l]? = some (.list (rows.map row))) (j : Nat) : nxList l j H = some (if j < rows.length then some (row (rows.getD j default)) else none) := by
  unfold nxList
  rw [e]
  dsimp only
  by_cases hj : j < rows.length
  · rw [if_pos hj, List.getElem?_map, List.getElem?_eq_getElem hj]
    simp [List.getD, List.getElem?_eq_getElem hj]
  · rw [if_neg hj, List.getElem?_eq_none (by simpa using hj)]
theorem kept_step (n : Str) {rows : List (Str × Str)} {j : Nat} (hj : j < rows.length) : kept (rows.take (j + 1)) n = kept (rows.take j) n ++ (if (Txt.lower rows[j].1 != Txt.lower n) = true then [rows[j]] else []) := by
  unfold kept
  rw [List.take_add_one, List.getElem?_eq_getElem hj, List.filter_append]
  congr 1
  simp only [Option.toList_some, List.filter_cons, List.filter_nil]
theorem pback_one {n : String} {v : PV} {l l0 : List (String × PV)} (h : l.lookup n = some v) : pback [n] l l0 = some (lset n v l0) := by unfold pback; rw [h]; rfl
theorem set_set' {α : Type} (l : List α) (i : Nat) (a b : α) : (l.set i a).set i b = l.set i b := List.set_set ..
end

set_option bootstrap.genMatcherCode true
set_option hygiene false
open PySem PySem.W PyProof.Rows PySem.Spec PySem.SeqAt PySem.Calls
set_option maxRecDepth 100000
set_option maxHeartbeats 4000000
local macro_rules | `(tactic| walk_at "lk") => `(tactic| (first | exact lset_self | (apply lset_ne; (focus decide); walk_at "lk") | assumption | rfl))
local macro_rules | `(tactic| walk_at "p1") => `(tactic| (first
  | with_reducible (first | apply PW.seq | apply PW.ite | apply PW.bind | apply PW.noexc | apply PW.pure | apply PW.put | apply PW.put2 | apply PW.str | apply PW.tup | apply PW.tB | apply PW.tI | apply PW.eqS | apply PW.neS | apply PW.eqI | apply PW.isN | apply PW.isnN | apply PW.isT | apply PW.isnT | apply PW.typS | apply PW.alloc)
  | ((with_reducible apply PW.get); (focus walk_at "lk"))
  | ((with_reducible apply PW.ifT); (focus first | rfl | decide))
  | ((with_reducible apply PW.ifF); (focus first | rfl | decide))
  | (refine PW.searchN rfl (by omega) ?_)
  | (refine PW.searchV (by decide) rfl (by omega) ?_)
  | dsimp only))
local macro_rules | `(tactic| walk_at "p") => `(tactic| repeat walk_at "p1")
local macro_rules | `(tactic| walk_at "p0") => `(tactic| (first
  | with_reducible refine PW.noexc ?_
  | with_reducible refine PW.pure ?_
  | with_reducible refine PW.put ?_
  | with_reducible refine PW.put2 ?_
  | with_reducible refine PW.str ?_
  | with_reducible refine PW.tup ?_
  | with_reducible refine PW.tB ?_
  | with_reducible refine PW.tI ?_
  | with_reducible refine PW.eqS ?_
  | with_reducible refine PW.neS ?_
  | with_reducible refine PW.eqI ?_
  | with_reducible refine PW.isN ?_
  | with_reducible refine PW.isnN ?_
  | with_reducible refine PW.isT ?_
  | with_reducible refine PW.isnT ?_
  | with_reducible refine PW.typS ?_
  | with_reducible refine PW.alloc ?_
  | ((with_reducible apply PW.get); (focus walk_at "lk"))
  | (refine PW.searchN rfl (by omega) ?_)
  | (refine PW.searchV (by decide) rfl (by omega) ?_)))
local macro_rules | `(tactic| walk_at "x1") => `(tactic| (first
  | with_reducible refine PWE.seq ?_
  | with_reducible refine PWE.ite ?_
  | with_reducible refine PWE.bind ?_
  | with_reducible refine PWE.pure ?_
  | with_reducible refine PWE.exc ?_
  | ((with_reducible apply PWE.ifT); (focus rfl))
  | ((with_reducible apply PWE.ifF); (focus rfl))
  | ((with_reducible refine PWE.of ?_); walk_at "p0")
  | walk_at "p1"))
local macro_rules | `(tactic| walk_at "x") => `(tactic| repeat walk_at "x1")
set_option hygiene true
set_option bootstrap.genMatcherCode false
section
open PySem PySem.W PyProof.Rows PySem.Spec PySem.SeqAt PySem.Calls
set_option autoImplicit false
set_option linter.unusedVariables false
set_option linter.unusedSectionVars false
set_option maxRecDepth 100000
set_option maxHeartbeats 4000000
set_option tactic.hygienic false
noncomputable def PT : Pats := ⟨65, 70, 43, 48⟩
section
variable {W : Wd} {P : Params} (hK : W.K = hd.heap_1 P) (hC : W.C = 201) (hCl : ClsOk W) (hP : PatsOk W PT)
include hK hC hCl hP
theorem m_conv : ∃ sp, CHolds W 2 (.ref 100) sp ∧ ConvLaw sp := by
  refine own_mk' (c_ownE (d := 1) (fd := ?fd) (body := ?body) (ns := ["self", "value", "name"]) (p := ?p) ?D (bind_K1 (ns := ["self", "value"]) (kn := "name") ?B) (fun _ _ _ _ _ h => pbK1_names h) fun L => ?S) ?law
  case D => (refine ⟨⟨?_, ?h1, ?h2⟩, ?h3, ?h4, ?h5, ?h6, ?h7, ?h8, ?h9, ?h10, ?h11, ?h12, ?h13⟩; (case h1 => rw [‹Wd.K _ = hd.heap_1 _›]; rfl); (case h2 => rfl); (case h3 => rfl); (case h4 => rw [‹Wd.K _ = hd.heap_1 _›]; rfl); (case h5 => rfl); (case h6 => rfl); (case h7 => rfl); (case h8 => rfl); (case h9 => rfl); (case h10 => rfl); (case h11 => exact names_ok (by decide +kernel)); (case h12 => decide +kernel); (case h13 => decide +kernel))
  case B =>
    intro args v
    revert args
    refine len2 ?_
    intro a b
    with_unfolding_all rfl
  case S => 
    refine' sb_as ?hT ?hE
    case hT => exact (b_cons (st_if (t_is (b_type rfl (by rw [hK]; rfl) (ss_cons (e_name (by decide +kernel) (by decide +kernel)) ss_nil rfl) rfl) (e_tstr rfl (by rw [hK]; rfl)) rfl) (b_cons (st_assign (s_if (t_plain (e_name (by decide +kernel) (by decide +kernel)) rfl) (e_glob rfl (by rw [hK]; rfl) (by decide +kernel)) (e_glob rfl (by rw [hK]; rfl) (by decide +kernel))) (a_name (.inl rfl)) rfl rfl rfl) (b_cons (st_if (t_search hP (e_name (by decide +kernel) (by decide +kernel)) (ss_cons (e_name (by decide +kernel) (by decide +kernel)) ss_nil rfl) rfl (fun _ => rfl) rfl rfl rfl) (b_one (st_raise rfl (by rw [hK]; rfl) (ss_cons e_str ss_nil rfl) rfl)) b_nil) (b_one (st_ret (e_name (by decide +kernel) (by decide +kernel)))))) b_nil) (b_one (fun _ => s_fail)))
    case hE => exact rfl
  case law =>
    intro H s x b hx
    refine PWE.fspecX (l := [("self", s), ("value", .str x), ("name", .bool b)]) rfl ?_
    cases b with
    | true =>
      walk_at "x"
      cases hb : hasN x with
      | false =>
        refine PWE.ifF rfl ?_
        walk_at "x"
        exact .inl ⟨_, rfl, rfl⟩
      | true =>
        refine PWE.ifT rfl ?_
        walk_at "x"
        exact PWE.guard (by rw [sizeLine_eq]; decide) rfl
    | false =>
      walk_at "x"
      cases hb : hasV x with
      | false =>
        refine PWE.ifF rfl ?_
        walk_at "x"
        exact .inl ⟨_, rfl, rfl⟩
      | true =>
        refine PWE.ifT rfl ?_
        walk_at "x"
        exact PWE.guard (by rw [sizeLine_eq]; decide) rfl
theorem m_get {sc : FSpec} (hconv : FHolds W 2 (.ref 100) sc) (c : ConvLaw sc) : ∃ sp, CHolds W 3 (.ref 148) sp ∧ GetLaw sp := by
  refine own_mk' (c_ownE (d := 2) (fd := ?fd) (body := ?body) (ns := ["self", "name", "default"]) (p := ?p) ?D (bind_N (ns := ["self", "name", "default"]) ?B ?B2) (fun _ _ _ _ _ h => pbN_names h) fun L => ?S) ?law
  case D => (refine ⟨⟨?_, ?h1, ?h2⟩, ?h3, ?h4, ?h5, ?h6, ?h7, ?h8, ?h9, ?h10, ?h11, ?h12, ?h13⟩; (case h1 => rw [‹Wd.K _ = hd.heap_1 _›]; rfl); (case h2 => rfl); (case h3 => rfl); (case h4 => rw [‹Wd.K _ = hd.heap_1 _›]; rfl); (case h5 => rfl); (case h6 => rfl); (case h7 => rfl); (case h8 => rfl); (case h9 => rfl); (case h10 => rfl); (case h11 => exact names_ok (by decide +kernel)); (case h12 => decide +kernel); (case h13 => decide +kernel))
  case B =>
    intro s hb
    have ho : s.heap.get? 141 = some _ := hb _ _ (W.X _ _ (by (rw [‹Wd.K _ = hd.heap_1 _›]; rfl)))
    refine len3 ?_
    intro a b c
    exact BindsTo.of_defaults rfl ho rfl (by with_unfolding_all rfl) (by with_unfolding_all rfl)
  case B2 =>
    intro s hb args
    have ho : s.heap.get? 141 = some _ := hb _ _ (W.X _ _ (by (rw [‹Wd.K _ = hd.heap_1 _›]; rfl)))
    intro e0
    have e : args.length = 2 := Nat.succ.inj e0
    clear e0
    revert args
    refine len2 ?_
    intro a b
    exact BindsTo.of_defaults rfl ho rfl (by with_unfolding_all rfl) (by with_unfolding_all rfl)
  case S => 
    refine' sb_as ?hT ?hE
    case hT => exact (b_cons (st_assign (s_icall (e_name (by decide +kernel) (by decide +kernel)) (f_more hconv (by decide)) (by rw [hK, hC]; rfl) (by rw [hK]; rfl) (by rw [hK]; rfl) (sa_kw1 (ss_cons (m_lower (e_name (by decide +kernel) (by decide +kernel)) ss_nil rfl (fun _ => rfl) rfl rfl) ss_nil rfl) e_bool rfl) (fun _ => rfl) rfl rfl rfl) (a_name (.inl rfl)) rfl rfl rfl) (b_cons (st_for (100) (si_list (s_field (e_name (by decide +kernel) (by decide +kernel)) (by rw [hK, hC]; rfl))) (a_tuple (.cons (a_name (.inl rfl)) (.cons (a_name (.inl rfl)) .nil)) rfl) (b_one (st_if (t_eq (m_lower (e_name (by decide +kernel) (by decide +kernel)) ss_nil rfl (fun _ => rfl) rfl rfl) (e_name (by decide +kernel) (by decide +kernel)) rfl) (b_one (st_ret (e_name (by decide +kernel) (by decide +kernel)))) b_nil)) (fun _ => rfl)) (b_one (st_ret (e_name (by decide +kernel) (by decide +kernel))))))
    case hE => exact rfl
  case law =>
    intro H i l rows n d t ho hn
    have hl : pbOf (pbN ["self", "name", "default"]) (.ref i :: .str n :: d.toList) [] H = some ([("self", .ref i), ("name", .str n), ("default", d.getD .none)], H) := by cases d <;> rfl
    generalize d.getD .none = d' at hl
    obtain ⟨k, e1, e2, e3⟩ := t.ex
    obtain ⟨hn1, hn3⟩ := nameLen_inv hn
    cases hn2 : hasN (Txt.lower n) with
    | true =>
      refine PWE.fspecX hl ?_
      walk_at "x"
      refine PWE.inst e1 e2 ?_
      refine PWE.guard rfl ?_
      walk_at "x"
      refine PW.lower (x := n) (by lia) ?_
      walk_at "x"
      exact PWE.call (c.exc hn3 hn2) rfl
    | false =>
      refine fspec_X ?_
      refine PW.fspec hl ?_
      walk_at "p"
      refine PW.inst e1 e2 ?_
      refine PW.guard rfl ?_
      walk_at "p"
      refine PW.lower (by lia) ?_
      walk_at "p"
      refine PW.call (c.ok hn3 hn2) ?_
      walk_at "p"
      refine PW.field e1 e2 ?_
      walk_at "p"
      refine PW.nxL e3 ?_
      refine PW.forList (l := rows.map row) (fun j σ => σ.H = H ∧ σ.loc.lookup "name" = some (.str (Txt.lower n)) ∧ σ.loc.lookup "default" = some d' ∧ ∀ r ∈ rows.take j, (Txt.lower r.1 == Txt.lower n) = false) ?hl ?step ?fin 100 0 _ ?hN (Nat.zero_le _) ?h0
      case hl => rintro j σ ⟨hH, _⟩; rw [hH]; exact e3
      case hN => rw [List.length_map]; have := rowsOk.len ho; lia
      case h0 => exact ⟨rfl, rfl, rfl, fun r hr => by simp at hr⟩
      case step =>
        rintro j p σ hp ⟨hH, h1, h2, h3⟩
        obtain ⟨r, hr, rfl⟩ := row_at hp
        have hro := rowsOk.row ho (List.mem_of_getElem? hr)
        unfold row
        walk_at "p"
        refine PW.guard rfl ?_
        walk_at "p"
        refine PW.lower (x := r.1) (by lia) ?_
        walk_at "p"
        cases hc : Txt.lower r.1 == Txt.lower n with
        | true =>
          refine PW.ifT rfl ?_
          walk_at "p"
          refine ⟨hH, .inl ?_⟩
          have hf : findRow rows n = some r := by
            unfold findRow
            rw [List.find?_eq_some_iff_append]
            refine ⟨hc, rows.take j, rows.drop (j + 1), ?_, fun a ha => by rw [h3 a ha]; rfl⟩
            have hj := List.getElem?_eq_some_iff.mp hr
            obtain ⟨hj1, hj2⟩ := hj
            rw [← hj2, ← List.drop_eq_getElem_cons hj1, List.take_append_drop]
          unfold getD'
          rw [hf]
        | false =>
          refine PW.ifF rfl ?_
          walk_at "p"
          refine ⟨hH, lset_ne (by decide) (lset_ne (by decide) h1), lset_ne (by decide) (lset_ne (by decide) h2), fun a ha => ?_⟩
          rw [List.take_add_one, hr] at ha
          rcases List.mem_append.mp ha with ha | ha
          · exact h3 a ha
          · simp only [Option.toList_some, List.mem_singleton] at ha
            rw [ha]; exact hc
      case fin =>
        rintro σ ⟨hH, h1, h2, h3⟩
        walk_at "p"
        refine ⟨hH, .inl ?_⟩
        rw [List.length_map, List.take_length] at h3
        have hf : findRow rows n = none := by
          unfold findRow
          rw [List.find?_eq_none]
          intro a ha
          rw [h3 a ha]; decide
        unfold getD'
        rw [hf]
theorem m_init {sc : FSpec} (hconv : FHolds W 2 (.ref 100) sc) (c : ConvLaw sc) : ∃ sp, CHolds W 3 (.ref 93) sp ∧ InitLaw sp := by
  refine own_mk' (c_own (d := 2) (fd := ?fd) (body := ?body) (ns := ["self", "headers"]) (p := ?p) ?D (bind_posD (ns := ["self", "headers"]) ?B) (fun _ _ _ _ _ h => pb0_names h) fun L => ?S) ?law
  case D => (refine ⟨⟨?_, ?h1, ?h2⟩, ?h3, ?h4, ?h5, ?h6, ?h7, ?h8, ?h9, ?h10, ?h11, ?h12, ?h13⟩; (case h1 => rw [‹Wd.K _ = hd.heap_1 _›]; rfl); (case h2 => rfl); (case h3 => rfl); (case h4 => rw [‹Wd.K _ = hd.heap_1 _›]; rfl); (case h5 => rfl); (case h6 => rfl); (case h7 => rfl); (case h8 => rfl); (case h9 => rfl); (case h10 => rfl); (case h11 => exact names_ok (by decide +kernel)); (case h12 => decide +kernel); (case h13 => decide +kernel))
  case B =>
    intro s hb args
    have ho : s.heap.get? 86 = some _ := hb _ _ (W.X _ _ (by (rw [‹Wd.K _ = hd.heap_1 _›]; rfl)))
    revert args
    refine len2 ?_
    intro a b
    exact BindsTo.of_defaults rfl ho rfl (by with_unfolding_all rfl) (by with_unfolding_all rfl)
  case S => 
    refine' sb_as ?hT ?hE
    case hT => exact (b_cons (st_assign (s_if (t_isnot (e_name (by decide +kernel) (by decide +kernel)) e_none rfl) (e_name (by decide +kernel) (by decide +kernel)) (s_list ss_nil)) (a_name (.inl rfl)) rfl rfl rfl) (b_cons (st_if (t_isnot (b_type rfl (by rw [hK]; rfl) (ss_cons (e_name (by decide +kernel) (by decide +kernel)) ss_nil rfl) rfl) (e_tlist rfl (by rw [hK]; rfl)) rfl) (b_one (fun _ => s_fail)) b_nil) (b_cons (st_assign (e_name (by decide +kernel) (by decide +kernel)) (a_field hCl (e_name (by decide +kernel) (by decide +kernel)) (by rw [hK, hC]; rfl)) rfl rfl rfl) (b_one (st_if (t_plain e_bool rfl) (b_one (st_for (100) (si_list (e_name (by decide +kernel) (by decide +kernel))) (a_tuple (.cons (a_name (.inl rfl)) (.cons (a_name (.inl rfl)) .nil)) rfl) (b_cons (st_expr (s_icall (e_name (by decide +kernel) (by decide +kernel)) (f_more hconv (by decide)) (by rw [hK, hC]; rfl) (by rw [hK]; rfl) (by rw [hK]; rfl) (sa_kw1 (ss_cons (e_name (by decide +kernel) (by decide +kernel)) ss_nil rfl) e_bool rfl) (fun _ => rfl) rfl rfl rfl) rfl rfl) (b_one (st_expr (s_icall (e_name (by decide +kernel) (by decide +kernel)) (f_more hconv (by decide)) (by rw [hK, hC]; rfl) (by rw [hK]; rfl) (by rw [hK]; rfl) (sa_kw1 (ss_cons (e_name (by decide +kernel) (by decide +kernel)) ss_nil rfl) e_bool rfl) (fun _ => rfl) rfl rfl rfl) rfl rfl))) (fun _ => rfl))) b_nil)))))
    case hE => exact rfl
  case law =>
    intro H i k l rows hi hk hl ho hv
    have hlk : k ≠ l := fun e => by rw [e, hl] at hk; cases hk
    have hik : k ≠ i := fun e => by rw [e, hi] at hk; cases hk
    have e1 : (H.set k (.dct [("_headers", .ref l)]))[i]? = some (.inst k) := get_set hi hik.symm
    have e2 : (H.set k (.dct [("_headers", .ref l)]))[k]? = some (.dct [("_headers", .ref l)]) := by
      rw [List.getElem?_set_self]
      exact lt_of_get hk
    have e3 : (H.set k (.dct [("_headers", .ref l)]))[l]? = some (.list (rows.map row)) := get_set hl hlk.symm
    refine PW.fspec (l := [("self", .ref i), ("headers", .ref l)]) (H₁ := H) rfl ?_
    walk_at "p"
    refine PW.typL hl ?_
    walk_at "p"
    refine PW.inst hi hk ?_
    refine PW.guard (by decide) ?_
    refine ⟨(), _, rfl, ?_⟩
    show PW _ { loc := _, H := H.set k (.dct [("_headers", .ref l)]) } _
    generalize H.set k (.dct [("_headers", .ref l)]) = H' at *
    clear hi hk hl hlk hik
    walk_at "p"
    refine PW.nxL e3 ?_
    refine PW.forList (l := rows.map row) (fun j σ => σ.H = H' ∧ σ.loc.lookup "self" = some (.ref i)) ?hl ?step ?fin 100 0 _ ?hN (Nat.zero_le _) ⟨rfl, rfl⟩
    case hl => rintro j σ ⟨hH, _⟩; rw [hH]; exact e3
    case hN => rw [List.length_map]; have := rowsOk.len ho; lia
    case step =>
      rintro j p σ hp ⟨hH, h1⟩
      obtain ⟨r, hr, rfl⟩ := row_at hp
      have hro := rowsOk.row ho (List.mem_of_getElem? hr)
      obtain ⟨v1, v2⟩ := hv r (List.mem_of_getElem? hr)
      rw [← hH] at e1 e2
      unfold row
      walk_at "p"
      refine PW.guard rfl ?_
      walk_at "p"
      refine PW.inst e1 e2 ?_
      refine PW.guard rfl ?_
      walk_at "p"
      refine PW.call (c.ok (by lia) v1) ?_
      walk_at "p"
      refine PW.inst e1 e2 ?_
      refine PW.guard rfl ?_
      walk_at "p"
      refine PW.call (c.ok (by lia) v2) ?_
      walk_at "p"
      exact ⟨hH, lset_ne (by decide) (lset_ne (by decide) h1)⟩
    case fin =>
      rintro σ ⟨hH, h1⟩
      exact ⟨hH, .inr ⟨rfl, rfl⟩⟩
theorem m_quoted : ∃ sp, CHolds W 1 (.ref 55) sp ∧ QuoLaw sp := by
  refine own_mk' (c_own (d := 0) (fd := ?fd) (body := ?body) (ns := ["data"]) (p := ?p) ?D (bind_pos ?B) (fun _ _ _ _ _ h => pb0_names h) fun L => ?S) ?law
  case D => (refine ⟨⟨?_, ?h1, ?h2⟩, ?h3, ?h4, ?h5, ?h6, ?h7, ?h8, ?h9, ?h10, ?h11, ?h12, ?h13⟩; (case h1 => rw [‹Wd.K _ = hd.heap_1 _›]; rfl); (case h2 => rfl); (case h3 => rfl); (case h4 => rw [‹Wd.K _ = hd.heap_1 _›]; rfl); (case h5 => rfl); (case h6 => rfl); (case h7 => rfl); (case h8 => rfl); (case h9 => rfl); (case h10 => rfl); (case h11 => exact names_ok (by decide +kernel)); (case h12 => decide +kernel); (case h13 => decide +kernel))
  case B => exact bp1 fun a => by with_unfolding_all rfl
  case S => 
    refine' sb_as ?hT ?hE
    case hT => exact (b_one (st_ret (s_sub_ hP (e_glob rfl (by rw [hK]; rfl) (by decide +kernel)) (ss_cons e_str (ss_cons (s_sub_ hP (e_glob rfl (by rw [hK]; rfl) (by decide +kernel)) (ss_cons (e_gstr rfl (by rw [hK]; rfl) (by decide +kernel)) (ss_cons (e_name (by decide +kernel) (by decide +kernel)) ss_nil rfl) rfl) rfl (fun _ => rfl) rfl rfl) ss_nil rfl) rfl) rfl (fun _ => rfl) rfl rfl)))
    case hE => exact rfl
  case law =>
    intro H x h1 h2
    refine PW.fspec (l := [("data", .str x)]) (H₁ := H) rfl ?_
    walk_at "p"
    refine PW.guard (.inl rfl) ?_
    walk_at "p"
    refine PW.guard (.inr rfl) ?_
    walk_at "p"
    refine PW.sub2 (P := PT) (by decide) crlf_eq h1 ?_
    walk_at "p"
    refine PW.sub1 (P := PT) dd_eq h2 ?_
    walk_at "p"
    exact ⟨rfl, .inl rfl⟩
end
end

section
open PySem PySem.W PyProof.Rows PySem.Spec PySem.SeqAt PySem.Calls
set_option autoImplicit false
set_option linter.unusedVariables false
set_option linter.unusedSectionVars false
set_option maxRecDepth 100000
set_option maxHeartbeats 4000000
set_option tactic.hygienic false
section
variable {W : Wd} {P : Params} (hK : W.K = hd.heap_1 P) (hC : W.C = 201) (hCl : ClsOk W) (hP : PatsOk W PT)
include hK hC hCl hP
theorem m_str : ∃ sp, CHolds W 1 (.ref 177) sp ∧ StrLaw sp := by
  refine own_mk' (c_own (d := 0) (fd := ?fd) (body := ?body) (ns := ["self"]) (p := ?p) ?D (bind_pos ?B) (fun _ _ _ _ _ h => pb0_names h) fun L => ?S) ?law
  case D => (refine ⟨⟨?_, ?h1, ?h2⟩, ?h3, ?h4, ?h5, ?h6, ?h7, ?h8, ?h9, ?h10, ?h11, ?h12, ?h13⟩; (case h1 => rw [‹Wd.K _ = hd.heap_1 _›]; rfl); (case h2 => rfl); (case h3 => rfl); (case h4 => rw [‹Wd.K _ = hd.heap_1 _›]; rfl); (case h5 => rfl); (case h6 => rfl); (case h7 => rfl); (case h8 => rfl); (case h9 => rfl); (case h10 => rfl); (case h11 => exact names_ok (by decide +kernel)); (case h12 => decide +kernel); (case h13 => decide +kernel))
  case B => exact bp1 fun a => by with_unfolding_all rfl
  case S => 
    refine' sb_as ?hT ?hE
    case hT => exact (b_one (st_ret (m_join e_str (ss_cons (s_add (s_comp0 (100) rfl (si_list (s_field (e_name (by decide +kernel) (by decide +kernel)) (by rw [hK, hC]; rfl))) (a_name (.inl rfl)) tests_nil (s_fmt1 e_str (e_name (by decide +kernel) (by decide +kernel))) (fun C => (a_name (.inl rfl))) (fun C => tests_nil) (fun C => (s_fmt1 e_str (e_name (by decide +kernel) (by decide +kernel)))) (fun _ => rfl) (by decide +kernel) rfl (by decide +kernel) ⟨.nil, by decide +kernel⟩) (s_list (ss_cons e_str (ss_cons e_str ss_nil rfl) rfl))) ss_nil rfl) rfl (fun _ => rfl) rfl rfl)))
    case hE => exact rfl
  case law =>
    intro H i li rows t hr
    have ho := hr.ok
    have hj := joinOk_rows hr
    have hl := rowsOk.len ho
    obtain ⟨k, e1, e2, e3⟩ := t.ex
    have up : ∀ (x : Nat) (o o' : PO), H[x]? = some o → (H ++ [o'])[x]? = some o := fun x o o' e => get_app e
    refine str_shape ?_
    refine PW.fspecE (l := [("self", .ref i)]) (H₁ := H) rfl ?_
    walk_at "p"
    refine PW.comp ?_
    walk_at "p"
    refine PW.field e1 e2 ?_
    walk_at "p"
    refine PW.nxL e3 ?_
    refine PW.compL (fun j out σ => σ.H = H ++ [.list out] ∧ out = ((rows.take j).map lineOf).map .str) rows.length (fun j => row (rows.getD j default)) ?hnx ?hacc ?step ?hsz (by lia) ?fin 100 0 [] _ (by lia) (Nat.zero_le _) ⟨rfl, rfl⟩
    case hnx =>
      rintro j out σ ⟨hH, _⟩
      exact nx_rows (hH ▸ up _ _ _ e3) j
    case hacc =>
      rintro j out σ ⟨hH, _⟩
      rw [hH, List.getElem?_append_right (Nat.le_refl _)]; simp
    case hsz =>
      rintro j out σ ⟨_, rfl⟩
      rw [List.length_map, List.length_map, List.length_take]; lia
    case step =>
      rintro j out σ hj ⟨hH, h2⟩
      have hr : rows.getD j default = rows[j] := by simp [List.getD, List.getElem?_eq_getElem hj]
      rw [hr]
      have hro := rowsOk.row ho (List.getElem_mem hj)
      unfold row
      walk_at "p"
      rw [if_pos rfl]
      walk_at "p"
      refine PW.fmt1 (by lia) ?_
      refine ⟨by rw [hH, List.getElem?_append_right (Nat.le_refl _)]; simp, ?_, ?_⟩
      · show σ.H.set H.length _ = _
        rw [hH, List.set_append_right _ _ (Nat.le_refl _)]
        simp
      · rw [h2, List.take_add_one, List.getElem?_eq_getElem hj]
        simp only [Option.toList_some, List.map_append, List.map_cons, List.map_nil]
    case fin =>
      rintro out σ ⟨hH, h2⟩
      rw [List.take_length] at h2
      subst h2
      refine ⟨_, rfl, ?_⟩
      walk_at "p"
      refine PW.guard (by rw [sizeLine_eq]; simp) ?_
      walk_at "p"
      refine PW.addL (l := (rows.map lineOf).map .str) (k := [.str (Str.ofString ""), .str (Str.ofString "")]) ?_ ?_ ?_ ?_
      · rw [hH, List.append_assoc, List.getElem?_append_right (Nat.le_refl _)]; simp
      · show (σ.H ++ [_])[σ.H.length]? = _
        rw [List.getElem?_append_right (Nat.le_refl _)]; simp
      · rw [List.length_map, List.length_map, sizeLine_eq]; simp only [List.length_cons, List.length_nil]; lia
      · walk_at "p"
        refine PW.join (l := (rows.map lineOf ++ [Str.ofString "", Str.ofString ""]).map .str) ?_ (pstrs_map _) hj ?_
        · rw [List.getElem?_append_right (Nat.le_refl _)]; simp
        · walk_at "p"
          refine ⟨_, rfl, rfl, ?_⟩
          rw [hH]
          exact ⟨_, by rw [List.append_assoc, List.append_assoc]⟩
theorem m_del {sc : FSpec} (hconv : FHolds W 2 (.ref 100) sc) (c : ConvLaw sc) : ∃ sp, CHolds W 3 (.ref 119) sp ∧ DelLaw sp := by
  refine own_mk' (c_ownE (d := 2) (fd := ?fd) (body := ?body) (ns := ["self", "name"]) (p := ?p) ?D (bind_pos ?B) (fun _ _ _ _ _ h => pb0_names h) fun L => ?S) ?law
  case D => (refine ⟨⟨?_, ?h1, ?h2⟩, ?h3, ?h4, ?h5, ?h6, ?h7, ?h8, ?h9, ?h10, ?h11, ?h12, ?h13⟩; (case h1 => rw [‹Wd.K _ = hd.heap_1 _›]; rfl); (case h2 => rfl); (case h3 => rfl); (case h4 => rw [‹Wd.K _ = hd.heap_1 _›]; rfl); (case h5 => rfl); (case h6 => rfl); (case h7 => rfl); (case h8 => rfl); (case h9 => rfl); (case h10 => rfl); (case h11 => exact names_ok (by decide +kernel)); (case h12 => decide +kernel); (case h13 => decide +kernel))
  case B => exact bp2 fun a b => by with_unfolding_all rfl
  case S => 
    refine' sb_as ?hT ?hE
    case hT => exact (b_cons (st_assign (s_icall (e_name (by decide +kernel) (by decide +kernel)) (f_more hconv (by decide)) (by rw [hK, hC]; rfl) (by rw [hK]; rfl) (by rw [hK]; rfl) (sa_kw1 (ss_cons (m_lower (e_name (by decide +kernel) (by decide +kernel)) ss_nil rfl (fun _ => rfl) rfl rfl) ss_nil rfl) e_bool rfl) (fun _ => rfl) rfl rfl rfl) (a_name (.inr ⟨rfl, _, rfl⟩)) rfl rfl rfl) (b_one (st_assign (s_comp0 (100) rfl (si_list (s_field (e_name (by decide +kernel) (by decide +kernel)) (by rw [hK, hC]; rfl))) (a_name (.inl rfl)) (tests_one (t_ne (m_lower (s_item (e_name (by decide +kernel) (by decide +kernel)) e_int (fun _ => (fun _ => rfl))) ss_nil rfl (fun _ => rfl) rfl rfl) (e_name (by decide +kernel) (by decide +kernel)) rfl)) (e_name (by decide +kernel) (by decide +kernel)) (fun C => (a_name (.inl rfl))) (fun C => (tests_one (t_ne (m_lower (s_item (e_name (by decide +kernel) (by decide +kernel)) e_int (fun _ => (fun _ => rfl))) ss_nil rfl (fun _ => rfl) rfl rfl) (e_name (by decide +kernel) (by decide +kernel)) rfl))) (fun C => (e_name (by decide +kernel) (by decide +kernel))) (fun _ => rfl) (by decide +kernel) rfl (by decide +kernel) ⟨(.cons ⟨rfl, rfl, rfl, .inl rfl⟩ .nil), by decide +kernel⟩) (a_slice (s_field (e_name (by decide +kernel) (by decide +kernel)) (by rw [hK, hC]; rfl))) rfl rfl rfl)))
    case hE => exact rfl
  case law =>
    intro H i li rows n t ho hn
    obtain ⟨k, e1, e2, e3⟩ := t.ex
    obtain ⟨hn1, hn3⟩ := nameLen_inv hn
    constructor
    · intro hn2
      refine PWE.fspecX (l := [("self", .ref i), ("name", .str n)]) (H₁ := H) rfl ?_
      walk_at "x"
      refine PWE.inst e1 e2 ?_
      refine PWE.guard rfl ?_
      walk_at "x"
      refine PW.lower (x := n) (by lia) ?_
      walk_at "x"
      exact PWE.call (c.exc hn3 hn2) rfl
    intro hn2
    have up : ∀ (x : Nat) (o o' : PO), H[x]? = some o → (H ++ [o'])[x]? = some o := fun x o o' e => get_app e
    refine ⟨[PO.list ((kept rows n).map row)], fspec_X ?_⟩
    refine PW.fspec (l := [("self", .ref i), ("name", .str n)]) (H₁ := H) rfl ?_
    walk_at "p"
    refine PW.inst e1 e2 ?_
    refine PW.guard rfl ?_
    walk_at "p"
    refine PW.lower (x := n) (by lia) ?_
    walk_at "p"
    refine PW.call (c.ok hn3 hn2) ?_
    walk_at "p"
    refine PW.comp ?_
    walk_at "p"
    refine PW.field e1 e2 ?_
    walk_at "p"
    refine PW.nxL e3 ?_
    refine PW.compL (fun j out σ => σ.H = H ++ [.list out] ∧ σ.loc.lookup "name" = some (.str (Txt.lower n)) ∧ out = (kept (rows.take j) n).map row) rows.length (fun j => row (rows.getD j default)) ?hnx ?hacc ?step ?hsz (by have := rowsOk.len ho; lia) ?fin 100 0 [] _ (by have := rowsOk.len ho; lia) (Nat.zero_le _) ⟨rfl, rfl, rfl⟩
    case hnx =>
      rintro j out σ ⟨hH, _⟩
      exact nx_rows (hH ▸ up _ _ _ e3) j
    case hacc =>
      rintro j out σ ⟨hH, _⟩
      rw [hH, List.getElem?_append_right (Nat.le_refl _)]; simp
    case hsz =>
      rintro j out σ ⟨_, _, rfl⟩
      rw [List.length_map]
      unfold kept
      exact Nat.le_trans (List.length_filter_le _ _) (by rw [List.length_take]; lia)
    case step =>
      rintro j out σ hj ⟨hH, h1, h2⟩
      have hr : rows.getD j default = rows[j] := by simp [List.getD, List.getElem?_eq_getElem hj]
      rw [hr]
      have hro := rowsOk.row ho (List.getElem_mem hj)
      unfold row
      walk_at "p"
      refine PW.itemT (p := .str rows[j].1) rfl (by decide) ?_
      walk_at "p"
      refine PW.lower (x := rows[j].1) (by lia) ?_
      walk_at "p"
      have htk := kept_step n hj
      cases hc : Txt.lower rows[j].1 != Txt.lower n with
      | true =>
        rw [if_pos rfl]
        walk_at "p"
        rw [hc] at htk
        refine ⟨by rw [hH, List.getElem?_append_right (Nat.le_refl _)]; simp, ?_, lset_ne (by decide) h1, ?_⟩
        · show σ.H.set H.length _ = _
          rw [hH, List.set_append_right _ _ (Nat.le_refl _)]
          simp
        · rw [htk, h2]
          simp [row]
      | false =>
        rw [if_neg (by decide)]
        refine ⟨hH, lset_ne (by decide) h1, ?_⟩
        rw [hc] at htk
        rw [htk, h2]
        simp [row]
    case fin =>
      rintro out σ ⟨hH, h1, h2⟩
      rw [List.take_length] at h2
      subst h2
      refine ⟨_, pback_one h1, ?_⟩
      walk_at "p"
      have g1 : σ.H[i]? = some (.inst k) := by rw [hH]; exact up _ _ _ e1
      have g2 : σ.H[k]? = some (.dct [("_headers", .ref li)]) := by rw [hH]; exact up _ _ _ e2
      have g3 : σ.H[li]? = some (.list (rows.map row)) := by rw [hH]; exact up _ _ _ e3
      have g4 : σ.H[H.length]? = some (.list ((kept rows n).map row)) := by rw [hH, List.getElem?_append_right (Nat.le_refl _)]; simp
      refine PW.field g1 g2 ?_
      have hk : (kept rows n).length ≤ rows.length := by unfold kept; exact List.length_filter_le _ _
      refine PW.allset g3 g4 (Nat.ne_of_lt (lt_of_get e3)) ?_ ?_
      · rw [List.length_map, List.length_map, sizeLine_eq]; have := rowsOk.len ho; lia
      · walk_at "p"
        refine ⟨?_, .inr ⟨rfl, rfl⟩⟩
        show σ.H.set li _ = _
        rw [hH]
theorem m_store {sc sd : FSpec} (hconv : FHolds W 2 (.ref 100) sc) (c : ConvLaw sc) (hdel : FHolds W 3 (.ref 119) sd) (dl : DelLaw sd) : ∃ sp, CHolds W 4 (.ref 114) sp ∧ StoreLaw sp := by
  refine own_mk' (c_ownE (d := 3) (fd := ?fd) (body := ?body) (ns := ["self", "name", "val"]) (p := ?p) ?D (bind_pos ?B) (fun _ _ _ _ _ h => pb0_names h) fun L => ?S) ?law
  case D => (refine ⟨⟨?_, ?h1, ?h2⟩, ?h3, ?h4, ?h5, ?h6, ?h7, ?h8, ?h9, ?h10, ?h11, ?h12, ?h13⟩; (case h1 => rw [‹Wd.K _ = hd.heap_1 _›]; rfl); (case h2 => rfl); (case h3 => rfl); (case h4 => rw [‹Wd.K _ = hd.heap_1 _›]; rfl); (case h5 => rfl); (case h6 => rfl); (case h7 => rfl); (case h8 => rfl); (case h9 => rfl); (case h10 => rfl); (case h11 => exact names_ok (by decide +kernel)); (case h12 => decide +kernel); (case h13 => decide +kernel))
  case B => exact bp3 fun a b c => by with_unfolding_all rfl
  case S => 
    refine' sb_as ?hT ?hE
    case hT => exact (b_cons (st_delI hCl (f_more hdel (by decide)) (by rw [hK, hC]; rfl) (by rw [hK]; rfl) (e_name (by decide +kernel) (by decide +kernel)) (e_name (by decide +kernel) (by decide +kernel))) (b_one (st_expr (ml_append (s_field (e_name (by decide +kernel) (by decide +kernel)) (by rw [hK, hC]; rfl)) (ss_cons (s_tuple (ss_cons (s_icall (e_name (by decide +kernel) (by decide +kernel)) (f_more hconv (by decide)) (by rw [hK, hC]; rfl) (by rw [hK]; rfl) (by rw [hK]; rfl) (sa_kw1 (ss_cons (e_name (by decide +kernel) (by decide +kernel)) ss_nil rfl) e_bool rfl) (fun _ => rfl) rfl rfl rfl) (ss_cons (s_icall (e_name (by decide +kernel) (by decide +kernel)) (f_more hconv (by decide)) (by rw [hK, hC]; rfl) (by rw [hK]; rfl) (by rw [hK]; rfl) (sa_kw1 (ss_cons (e_name (by decide +kernel) (by decide +kernel)) ss_nil rfl) e_bool rfl) (fun _ => rfl) rfl rfl rfl) ss_nil rfl) rfl)) ss_nil rfl) rfl (fun _ => rfl) rfl rfl) rfl rfl)))
    case hE => exact rfl
  case law =>
    intro H i li rows n v t ho hn hv
    obtain ⟨k, f1, f2, f3⟩ := t.ex
    obtain ⟨hn1, hn3⟩ := nameLen_inv hn
    obtain ⟨dE, dO⟩ := dl H i li rows n t ho hn
    constructor
    · intro hn2
      refine PWE.fspecX (l := [("self", .ref i), ("name", .str n), ("val", .str v)]) (H₁ := H) rfl ?_
      walk_at "x"
      refine PWE.inst f1 f2 ?_
      walk_at "x"
      exact PWE.call (dE hn2) rfl
    intro hn2
    obtain ⟨X, hX⟩ := dO hn2
    obtain ⟨k', e1, e2, e3⟩ := (t.put X (kept rows n)).ex
    have hk : (kept rows n).length ≤ rows.length := by unfold kept; exact List.length_filter_le _ _
    have hlen := rowsOk.len ho
    refine ⟨X, PWE.fspecX (l := [("self", .ref i), ("name", .str n), ("val", .str v)]) (H₁ := H) rfl ?_⟩
    rw [← set_set' (H ++ X) li (PO.list ((kept rows n).map row)) (PO.list ((kept rows n ++ [(n, v)]).map row))]
    generalize (H ++ X).set li (.list ((kept rows n).map row)) = H₁ at *
    walk_at "x"
    refine PWE.inst f1 f2 ?_
    walk_at "x"
    refine PWE.of (PW.call hX ?_)
    walk_at "x"
    refine PWE.of (PW.field e1 e2 ?_)
    walk_at "x"
    refine PWE.plist e3 ?_
    walk_at "x"
    refine PWE.inst e1 e2 ?_
    refine PWE.guard rfl ?_
    walk_at "x"
    cases hN : hasN n with
    | true => exact PWE.call (c.exc (by lia) hN) (by rw [if_pos (.inl rfl)])
    | false =>
      refine PWE.of (PW.call (c.ok (by lia) hN) ?_)
      walk_at "x"
      refine PWE.inst e1 e2 ?_
      refine PWE.guard rfl ?_
      walk_at "x"
      cases hV : hasV v with
      | true => exact PWE.call (c.exc (by lia) hV) (by rw [if_pos (.inr rfl)])
      | false =>
        rw [if_neg (by decide)]
        refine PWE.of (PW.call (c.ok (by lia) hV) ?_)
        walk_at "x"
        refine PWE.guard ⟨by rw [sizeLine_eq]; simp, rfl⟩ ?_
        walk_at "x"
        refine PWE.of (PW.append e3 (by rw [List.length_map, sizeLine_eq]; lia) ?_)
        walk_at "x"
        refine .inr ⟨rfl, ?_⟩
        simp [row]
end
end

section
open PySem PySem.W PyProof.Rows PySem.Spec PySem.SeqAt PySem.Calls
set_option autoImplicit false
set_option linter.unusedVariables false
set_option maxRecDepth 100000
set_option tactic.hygienic false
noncomputable def nxIt1 (i N : Nat) : NX := fun j H => match H[i]? with
  | some (.dct fs) => if fs.length = N ∧ N ≤ 1 then (match fs[j]? with
      | some (k, .str v) => some (some (.tup [.str (Str.ofString k), .str v]))
      | some _ => none
      | none => some none) else none
  | _ => none
section
variable {W : Wd} {d : Nat} {env : Env} {G : GG}
theorem one_entry {α : Type} {es : Array α} (h : es.size = 1) : ∃ e, es = #[e] := ⟨es[0]'(by lia), Array.ext h fun i h1 h2 => by
  have : i = 0 := by lia
  subst this; rfl⟩
theorem ns_one {e : DictEntry} {n : Str} {v : Value} (h : nsFind #[e] n = some v) : e.key.isStr n = true ∧ e.val = v := by
  have h : Option.map DictEntry.val (match e.key.isStr n with | true => some e | false => none) = some v := by
    have h2 := h
    unfold nsFind findBy at h2
    rw [← Array.find?_toList] at h2
    exact h2
  cases hc : e.key.isStr n with
  | false => rw [hc] at h; cases h
  | true => rw [hc] at h; exact ⟨rfl, Option.some.inj h⟩
noncomputable def At1 (W : Wd) (h : Heap) (ρ : Rh) (a : Addr) (fs : List (String × PV)) : Prop := ∃ kvs : List (Str × Value), kvs.length = fs.length ∧ h.DictAt (strKind W.prog W.w) a kvs fs.length ∧ a ≠ sysModules ∧
    ∀ (j : Nat) (k : String) (p : PV), fs[j]? = some (k, p) → ∃ v, kvs[j]? = some (Str.ofString k, v) ∧ RepV h ρ v p
theorem at_one {h : Heap} {ρ : Rh} {a : Addr} {k : String} {p : PV} {e : DictEntry} {v : Value} (ho : h.get? a = some ⟨.type "dict", none, .dict #[e] 1, #[]⟩) (hna : a ≠ sysModules) (hh : ∃ x t, e.key = .str x t ∧ e.hash = hashStr W.w x) (hv : nsFind #[e] (Str.ofString k) = some v) (rv : RepV h ρ v p) : At1 W h ρ a [(k, p)] := by
  obtain ⟨x, t, hkey, hh⟩ := hh
  obtain ⟨h1, h2⟩ := ns_one hv
  rw [hkey] at h1
  have hx : x = Str.ofString k := eq_of_beq h1
  subst hx
  refine ⟨[(Str.ofString k, e.val)], rfl, ⟨_, #[e], ho, ⟨rfl, rfl, rfl⟩, rfl, fun e' he' => ?_, .cons ?_ rfl .nil, List.nodup_cons.mpr ⟨List.not_mem_nil, List.nodup_nil⟩⟩, hna, fun j k' p' e' => ?_⟩
  · rw [Array.mem_singleton.mp he']
    exact ⟨_, by rw [hkey]; exact beq_self_eq_true _, hh⟩
  · show Value.isStrOf _ e.key = true
    rw [hkey]; exact beq_self_eq_true _
  · cases j with
    | zero =>
      have e' := Prod.mk.inj (Option.some.inj e')
      rw [← e'.1, ← e'.2, h2]
      exact ⟨_, rfl, rv⟩
    | succ j => exact absurd e' (fun z => by cases z)
theorem dict_at1 {h : Heap} {ρ : Rh} {a : Addr} {fs : List (String × PV)} (r : RepO W h ρ a (.dct fs)) (hl : fs.length ≤ 1) : At1 W h ρ a fs := by
  obtain ⟨es, n, m, ho, hn, z, hok⟩ := r
  have en := hok.n
  have hsz := hok.sz
  have hna := hok.na
  have hh := hok.hash
  clear hok
  subst en
  cases fs with
  | nil =>
    have := Array.eq_empty_of_size_eq_zero hsz
    clear hn z
    subst this
    exact ⟨[], rfl, ⟨_, #[], ho, ⟨rfl, rfl, rfl⟩, rfl, fun e he => absurd he (Array.not_mem_empty e), .nil, List.nodup_nil⟩, hna, fun j k p e => absurd e (fun z => by cases z)⟩
  | cons x fs =>
    have hz : fs = [] := List.eq_nil_of_length_eq_zero (by rw [List.length_cons] at hl; lia)
    subst hz
    obtain ⟨k, p⟩ := x
    obtain ⟨v, hv, rv⟩ := (z k).1 p List.lookup_cons_self
    obtain ⟨o', es', ep, ho', hd', hk, hm⟩ := hn
    rw [← Option.some.inj (ho.symm.trans ho')] at hd'
    have hee : es = es' := by injection hd'
    subst hee
    obtain ⟨e, he⟩ := one_entry hsz
    subst he
    exact at_one ho hna (hh e (Array.mem_singleton.mpr rfl)) ((hm _).trans hv) rv
set_option tactic.hygienic true in
theorem nxIt1_inv {i N j : Nat} {H : List PO} {r : Option PV} (h : nxIt1 i N j H = some r) : ∃ fs, H[i]? = some (.dct fs) ∧ fs.length = N ∧ N ≤ 1 ∧ ((∃ k v, fs[j]? = some (k, .str v) ∧ r = some (.tup [.str (Str.ofString k), .str v])) ∨ (fs[j]? = none ∧ r = none)) := by
  unfold nxIt1 at h
  split at h
  · rename_i fs hi
    split at h
    · rename_i hc
      split at h
      · rename_i k v e; exact ⟨fs, hi, hc.1, hc.2, .inl ⟨k, v, e, (Option.some.inj h).symm⟩⟩
      · cases h
      · rename_i e; exact ⟨fs, hi, hc.1, hc.2, .inr ⟨e, (Option.some.inj h).symm⟩⟩
    · cases h
  · cases h
theorem src_it1 {I : Addr} {i N : Nat} {elts : List Expr} {k : Nat} {tp : Pos} : Src W [I] (.ref I) (.Tuple elts k tp) (nxIt1 i N) (fun j h ρ => ∃ a ok ov, ρ.a[i]? = some a ∧ IsItemIter h I a j N N ok ov ∧ a ≠ I) where
  fld := by
    rintro j h ρ ⟨a, ok, ov, _, he, _⟩ b m
    rw [List.mem_singleton.mp m]; exact ⟨_, _, he, rfl⟩
  keep := by
    rintro j h h' ρ ρ' ⟨a, ok, ov, ea, he, hne⟩ st kk
    exact ⟨a, ok, ov, st.pre _ _ ea, kk I (by simp) _ he, hne⟩
  item := by
    rintro j A s ρ H p Q E hh hc ⟨a, ok, ov, ea, he, hne⟩ hx hq
    obtain ⟨fs, hi, hN, h1, hr⟩ := nxIt1_inv hx
    subst hN
    rcases hr with ⟨kk, v, hfs, hp⟩ | ⟨_, hp⟩
    · cases hp
      obtain ⟨kvs, hlen, hat, hns, hget⟩ := dict_at1 (hc.cell i a _ ea hi) h1
      obtain ⟨v', ev, t, rv⟩ := hget j kk _ hfs
      subst rv
      rw [← hlen] at he hat
      refine wpAny_pyNext_items_item (knd := strKind W.prog W.w) he hat ev fun key h' hkey ho hT hsz hk => ?_
      obtain ⟨t', rfl⟩ := Value.isStrOf_shape hkey
      refine hq (.ref s.heap.objs.size) h' s.toks (fun b o nb e1 => hk b o (fun q => nb (by simp [q])) e1) (fun b m => ?_) ?_ fun A' s' Q' E' es hq' => ?_
      · rw [List.mem_singleton.mp m]; exact ⟨_, _, ho, rfl⟩
      · exact ⟨_, [.str (Str.ofString kk) t', .str v t], rfl, ⟨_, hT, rfl, 0, rfl⟩, .cons ⟨_, rfl⟩ (.cons ⟨_, rfl⟩ .nil)⟩
      · refine wpAny_letOwnedTupleGo_items (by rw [es]; exact ho) fun h'' he'' sb => ?_
        refine hq' h'' (fun b o nb e1 => ?_) ⟨a, _, _, ea, by rw [← hlen]; exact he'', hne⟩
        have q : b ≠ I := fun q => nb (by simp [q])
        rw [sb.2 b q, es]; exact e1
    · cases hp
  self := by
    rintro j A s ρ Q E ⟨a, ok, ov, ea, he, hne⟩ hq
    exact kcp_self he hq
  stop := by
    rintro j A s ρ H Q E hh hc ⟨a, ok, ov, ea, he, hne⟩ hx hq
    obtain ⟨fs, hi, hN, h1, hr⟩ := nxIt1_inv hx
    subst hN
    rcases hr with ⟨kk, v, hfs, hp⟩ | ⟨hfs, _⟩
    · cases hp
    · obtain ⟨kvs, hlen, hat, hns, hget⟩ := dict_at1 (hc.cell i a _ ea hi) h1
      rw [← hlen] at he hat
      refine wpAny_pyNext_items_end (knd := strKind W.prog W.w) hh he hat ?_ fun h' sb => hq h' s.toks (but_of sb)
      rw [List.getElem?_eq_none_iff] at hfs ⊢
      lia
noncomputable def pnxIt1 (v : PV) : PM NX := fun σ => match v with
  | .ref i => (match σ.H[i]? with
    | some (.dct fs) => if fs.length ≤ 1 then some (.ok (nxIt1 i fs.length), σ) else none
    | _ => none)
  | _ => none
theorem si_it1 {o : Expr} {elts : List Expr} {k : Nat} {apos pos tp : Pos} {p : PM PV} (ho : SE W d env o p) (hb : ∀ t, attributeBase o "items" env t = t) (hf : methodCallForm (0 + 0) (backTo pos (starEach [] env)) [] = true) (hpos : (apos.endLine == pos.line) = true) :
    SI W d env (.Call (.Attribute o "items" apos) [] [] pos) (.Tuple elts k tp) (PM.bind (pnoexc p) pnxIt1) := by
  intro G A s ρ σ Q E ha hr hg hp
  refine wp_methG (ks := []) (es := []) (ho G A s ρ σ _ _ ha hr hg ?_) hb hf hpos
  unfold PM.bind pnoexc at hp
  match hq : p σ, hp with
  | some (.ok v, σ₁), hp =>
    intro x h₁ ρ₁ tk₁ r1 e1 l1 rx
    dsimp only at hp
    unfold pnxIt1 at hp
    cases v with
    | ref i =>
      dsimp only at hp
      cases hi : σ₁.H[i]? with
      | none => rw [hi] at hp; exact hp.elim
      | some ob =>
        rw [hi] at hp
        cases ob with
        | list _ => exact hp.elim
        | inst _ => exact hp.elim
        | dct fs =>
          dsimp only at hp
          by_cases hl : fs.length ≤ 1
          · rw [if_pos hl] at hp
            obtain ⟨a, rfl, ea, r⟩ := ref_inv r1.cells rx hi
            obtain ⟨kvs, hlen, hat, hns, _⟩ := dict_at1 r hl
            have hD : h₁.DictOf (strKind W.prog W.w) a kvs := by
              obtain ⟨o, es, h1, h2, h3, h4⟩ := hat; exact ⟨o, es, _, h1, h2, h3, h4⟩
            have hT : ({ s with heap := h₁, toks := tk₁ } : Shared).TypeIs (.ref a) "dict" := by
              obtain ⟨o, es, h1, h2, _⟩ := hat; exact ⟨o, h1, h2.1⟩
            have hnd : ∀ b, Value.ref a = .ref b → ∃ o, ({ s with heap := h₁, toks := tk₁ } : Shared).heap.get? b = some o ∧ o.dict = none := fun b e => by
              cases e; obtain ⟨o, es, h1, h2, _⟩ := hat; exact ⟨o, h1, h2.2.1⟩
            refine wp_bmG (R := rrL) (id := "dict.items") (ss_nil (d := d)) rfl (ha.ext r1 e1 l1) r1 (fun Q h => getMethod_builtin hT PySem.F.plainAttrs_dict PySem.F.slot_dict_items PySem.F.type_dict_items hnd h) ?_
            intro vs h₂ ρ₂ tk₂ ha2 r2 e2 rv
            have hv : vs = [] := nil_inv rv
            subst hv
            obtain ⟨a', ea', r'⟩ := r2.cells.at hi
            have hae : a' = a := by
              have z := e2.pre i a ea
              rw [ea'] at z; exact Option.some.inj z
            subst hae
            obtain ⟨kvs', hlen', hat', hns', _⟩ := dict_at1 r' hl
            have hD' : h₂.DictOf (strKind W.prog W.w) a' kvs' := by
              obtain ⟨o, es, h1, h2, h3, h4⟩ := hat'; exact ⟨o, es, _, h1, h2, h3, h4⟩
            have hT' : ({ s with heap := h₂, toks := tk₂ } : Shared).TypeIs (.ref a') "dict" := by
              obtain ⟨o, es, h1, h2, _⟩ := hat'; exact ⟨o, h1, h2.1⟩
            refine call_meetsIn PySem.F.slot_dict_items hT' PySem.F.entry_dict_items (PySem.F.args_dict_items_1 _) (meets_dict_items (strKind W.prog W.w) a' (by simpa using hns')) ⟨⟨kvs', hD'⟩, ?_⟩
            have k1 := Keeps.push (h := h₂) { cls := .type "dict_items", data := .fields #[.ref a'] }
            have hsz : (h₂.push { cls := .type "dict_items", data := .fields #[.ref a'] }).objs.size = h₂.objs.size + 1 := Heap.size_push ..
            have hatp : (h₂.push { cls := .type "dict_items", data := .fields #[.ref a'] }).DictAt (strKind W.prog W.w) a' kvs' fs.length := hat'.at' fun o e => k1 _ _ e
            refine wpAny_pyIter_items (knd := strKind W.prog W.w) (s := { s with heap := h₂.push { cls := .type "dict_items", data := .fields #[.ref a'] }, toks := tk₂ }) (v := h₂.objs.size) ⟨_, Heap.get?_push_size _ rfl, rfl, rfl⟩ hatp ?_
            have k2 := Keeps.push (h := h₂.push { cls := .type "dict_items", data := .fields #[.ref a'] }) { cls := .type "dict_itemiterator", data := .fields #[.none, .bool false, .ref a', .int 0 0, .int kvs'.length 0, .int fs.length 0, .none, .none] }
            have hit := Heap.get?_push_size (h₂.push { cls := .type "dict_items", data := .fields #[.ref a'] }) (o := { cls := .type "dict_itemiterator", data := .fields #[.none, .bool false, .ref a', .int 0 0, .int kvs'.length 0, .int fs.length 0, .none, .none] }) rfl
            have hal : a' < h₂.objs.size := by obtain ⟨o, _, h1, _⟩ := hat'; exact Heap.lt_size h1
            refine hp [(h₂.push { cls := .type "dict_items", data := .fields #[.ref a'] }).objs.size] _ _ _ ρ₂ tk₂ (r2.keeps (k1.trans k2)) ((e1.trans e2).trans (Ext0.keeps (k1.trans k2)).toExt) ⟨ha2.tok, ha2.pos⟩ src_it1 (own_mk r2 (e1.trans e2) (fun b m => ?_) fun b m => ?_) ⟨a', .none, .none, ea', ?_, ?_⟩
            · rw [List.mem_singleton.mp m, hsz]
              cases z : h₂.get? (h₂.objs.size + 1) with
              | none => rfl
              | some o => exact absurd (Heap.lt_size z) (Nat.not_lt.mpr (Nat.le_succ _))
            · rw [List.mem_singleton.mp m]; exact ⟨_, _, hit, rfl⟩
            · rw [← hlen'] at hit ⊢; exact hit
            · rw [hsz]; exact Nat.ne_of_lt (Nat.lt_succ_of_lt hal)
          · rw [if_neg hl] at hp; exact hp.elim
    | _ => exact hp.elim
end
end

section
open PySem PySem.W PyProof.Rows PySem.Spec PySem.SeqAt PySem.Calls
set_option autoImplicit false
set_option linter.unusedVariables false
set_option maxRecDepth 100000
set_option tactic.hygienic false
noncomputable def nxText (x : Str) : NX := fun j _ => some ((x.cps[j]?).map fun c => .str ⟨#[c]⟩)
section
variable {W : Wd} {d : Nat} {env : Env} {G : GG}
theorem text_item {A : Around} {s : Shared} {I : Addr} {x : Str} {t : Tok} {j c : Nat} {Q : Option Value → Shared → Prop} {E : Value → Shared → Prop} (hit : s.heap.IsStrIter I (strIterType x) x t j) (hx : x.cps[j]? = some c)
    (hQ : ∀ h', h'.IsStrIter I (strIterType x) x t (j + 1) → Heap.SameBut I s.heap h' → Q (some (.str ⟨#[c]⟩ s.toks)) { s with heap := h', toks := s.toks + 1 }) : wpAny (model W.prog W.w) A (pyNext (.ref I)) Q E s := by
  unfold strIterType at hit hQ
  cases ha : x.cps.all (· < 128) <;> simp only [ha] at hit hQ
  · exact wpAny_pyNext_wide_item hit hx hQ
  · exact wpAny_pyNext_ascii_item hit hx hQ
theorem text_end {A : Around} {s : Shared} {I : Addr} {x : Str} {t : Tok} {j : Nat} {Q : Option Value → Shared → Prop} {E : Value → Shared → Prop} (hh : A.handled = none) (hit : s.heap.IsStrIter I (strIterType x) x t j) (hx : x.cps[j]? = none)
    (hQ : ∀ h', Heap.ExtBut I s.heap h' → Q none { s with heap := h' }) : wpAny (model W.prog W.w) A (pyNext (.ref I)) Q E s := by
  unfold strIterType at hit
  cases ha : x.cps.all (· < 128) <;> simp only [ha] at hit
  · exact wpAny_pyNext_wide_end hh hit hx hQ
  · exact wpAny_pyNext_ascii_end hh hit hx hQ
theorem text_self {A : Around} {s : Shared} {I : Addr} {x : Str} {t : Tok} {j : Nat} {Q : Value → Shared → Prop} {E : Value → Shared → Prop} (hit : s.heap.IsStrIter I (strIterType x) x t j) (hQ : Q (.ref I) s) : wpAny (model W.prog W.w) A (pyIter (.ref I)) Q E s := by
  unfold strIterType at hit
  cases ha : x.cps.all (· < 128) <;> simp only [ha] at hit
  · exact wpAny_pyIter_striter_wide hit hQ
  · exact wpAny_pyIter_striter_ascii hit hQ
theorem src_text {I : Addr} {x : Str} {t : Tok} {tg : Expr} : Src W [I] (.ref I) tg (nxText x) (fun j h ρ => h.IsStrIter I (strIterType x) x t j) where
  fld := by
    rintro j h ρ ⟨o, ho, hc, hd⟩ b m
    rw [List.mem_singleton.mp m]; exact ⟨o, _, ho, hd⟩
  keep := by
    rintro j h h' ρ ρ' ⟨o, ho, r⟩ st k
    exact ⟨o, k I (by simp) o ho, r⟩
  item := by
    rintro j A s ρ H p Q E hh hc hit hx hq
    have hx : some ((x.cps[j]?).map fun c => PV.str ⟨#[c]⟩) = some (some p) := hx
    obtain ⟨c, e, rfl⟩ := Option.map_eq_some_iff.mp (Option.some.inj hx)
    refine text_item hit e fun h' hit' sb => ?_
    refine hq _ h' _ (but_of sb.extBut) (fun b m => ?_) ⟨_, rfl⟩ fun A' s' Q' E' es hq' => ?_
    · rw [List.mem_singleton.mp m]; obtain ⟨o, ho, _, hd⟩ := hit'; exact ⟨o, _, ho, hd⟩
    · obtain ⟨o, ho, hc', hd⟩ := id hit'
      refine letgo_plain (by rw [es]; exact ho) hc' hd (by unfold strIterType; split <;> decide) ?_
      have := hq' h' (fun _ _ _ e => e) hit'
      rw [← es] at this; exact this
  self := by
    rintro j A s ρ Q E hit hq
    exact text_self hit hq
  stop := by
    rintro j A s ρ H Q E hh hc hit hx hq
    have hx : some ((x.cps[j]?).map fun c => PV.str ⟨#[c]⟩) = some none := hx
    exact text_end hh hit (Option.map_eq_none_iff.mp (Option.some.inj hx)) fun h' sb => hq h' s.toks (but_of sb)
noncomputable def pnxText (v : PV) : PM NX := match v with
  | .str x => PM.pure (nxText x)
  | _ => pfail
theorem si_text {e tg : Expr} {q : PM PV} (he : SE W d env e q) : SI W d env e tg (PM.bind (pnoexc q) pnxText) := by
  intro G A s ρ σ Q E ha hr hg hp
  refine he G A s ρ σ _ _ ha hr hg ?_
  unfold PM.bind pnoexc at hp
  match hq : q σ, hp with
  | some (.ok v, σ₁), hp =>
    intro w h₁ ρ₁ tk₁ r1 e1 l1 rx
    cases v with
    | str x =>
      obtain ⟨t, rfl⟩ := rx
      refine wpAny_pyIter_strU (s := { s with heap := h₁, toks := tk₁ }) ?_
      have k := Keeps.push (h := h₁) { cls := .type (strIterType x), data := .fields #[.str x t, .int 0 0] }
      refine hp [h₁.objs.size] (.ref h₁.objs.size) _ _ ρ₁ tk₁ (r1.keeps k) (e1.trans (Ext0.keeps k).toExt) l1 (src_text (t := t)) (own_mk r1 e1 (fun b m => by rw [List.mem_singleton.mp m]; exact fresh_none) fun b m => ?_) ?_
      · rw [List.mem_singleton.mp m]; exact ⟨_, _, Heap.get?_push_size _ rfl, rfl⟩
      · exact ⟨_, Heap.get?_push_size _ rfl, rfl, rfl⟩
    | _ => exact hp.elim
noncomputable def pjoin (out : Str) : PM PV := pguard (out.length ≤ sizeLine) (PM.pure (.str out))
noncomputable def pjoinC (p : PM PV) (q : Str → PM PV) (out : Str) : PM PV := PM.bind p fun a => pstr a fun y => pguard ((out ++ y).length ≤ sizeLine) (q (out ++ y))
theorem sj_nil {out : Str} : Sim W d env rrV GG.tt (joinParts out []) (pjoin out) := by
  refine Sim.of0 ?_
  intro A s ρ σ Q E ha hr hg hp
  obtain ⟨hl, hp⟩ := pguard_inv hp
  exact joinParts_nil (hp _ s.heap ρ _ hr .refl ⟨_, rfl⟩) hl
set_option tactic.hygienic true in
theorem sj_cons {out : Str} {x : Sem Value} {rest : List (Sem Value)} {p : PM PV} {q : Str → PM PV} (hx : Sim W d env rrV GG.tt x p) (hr : ∀ out, Sim W d env rrV GG.tt (joinParts out rest) (q out)) : Sim W d env rrV GG.tt (joinParts out (x :: rest)) (pjoinC p q out) := by
  intro A s ρ σ Q E ha hrel hg hp
  refine joinParts_cons (hx A s ρ σ _ _ ha hrel hg ?_)
  unfold pjoinC PM.bind at hp
  match hq : p σ, hp with
  | some (.ok b, σ₁), hp =>
    intro a h₁ ρ₁ tk r1 e1 l r
    cases b with
    | str y =>
      obtain ⟨t, rfl⟩ := r
      have hp : Post W env rrV s ρ Q E (pguard ((out ++ y).length ≤ sizeLine) (q (out ++ y)) σ₁) := hp
      unfold pguard at hp
      split at hp
      · rename_i hl
        exact ⟨hl, hr _ A _ ρ₁ σ₁ Q E (ha.ext r1 e1 l) r1 trivial (Post.trans (s := s) rfl e1 hp)⟩
      · exact hp.elim
    | _ => exact hp.elim
  | some (.exc, σ₁), hp => exact hp
theorem s_fpart {v : Expr} {pos : Pos} {p : PM PV} (h : SE W d env v p) : Sim W d env rrV GG.tt (eval (.FormattedValue v 115 none pos) env) (PM.bind p fun a => pstr a fun y => pguard (y.length ≤ sizeLine) (PM.pure (.str y))) := by
  show Sim W d env rrV GG.tt (eval v env >>= fun v => standAt pos >>= fun _ => holding [v] (converted 115 v) >>= fun v' => formatField v' Str.empty) _
  refine Sim.bind (h _) fun a b => Sim.stand (Sim.of0 ?_)
  intro A s ρ σ Q E ha hrel hg hp
  have rb : RepV s.heap ρ a b := hg.2
  cases b with
  | str y =>
    obtain ⟨t, rfl⟩ := rb
    have hp : Post0 W env rrV s ρ Q E (pguard (y.length ≤ sizeLine) (PM.pure (.str y)) σ) := hp
    obtain ⟨hl, hp⟩ := pguard_inv hp
    exact wpAny_bind (wpAny_holding (habitSame_str (fun t' tk => formatField_str (fun t2 tk2 => hp _ s.heap ρ _ hrel .refl ⟨_, rfl⟩) hl) hl))
  | _ => exact hp.elim
theorem s_fstr4 {v₁ v₂ v₃ v₄ : Expr} {p₁ p₂ p₃ p₄ : PM PV} {pos : Pos} (h₁ : Sim W d env rrV GG.tt (eval v₁ env) p₁) (h₂ : Sim W d env rrV GG.tt (eval v₂ env) p₂) (h₃ : Sim W d env rrV GG.tt (eval v₃ env) p₃) (h₄ : Sim W d env rrV GG.tt (eval v₄ env) p₄) :
    SE W d env (.JoinedStr [v₁, v₂, v₃, v₄] pos) (pjoinC p₁ (pjoinC p₂ (pjoinC p₃ (pjoinC p₄ pjoin))) Str.empty) := by
  intro G
  have z := sj_cons (out := Str.empty) h₁ fun _ => sj_cons h₂ fun _ => sj_cons h₃ fun _ => sj_cons h₄ fun _ => sj_nil
  exact Sim.weak (fun A s ρ σ Q E ha hr hg hp => JoinedStr_many (z A s ρ σ Q E ha hr hg hp)) fun _ _ _ => trivial
theorem e_never3 {a b c : Expr} {pos : Pos} : SE W d env (.JoinedStr [a, b, c] pos) pfail := fun _ => s_fail
noncomputable def pboolAnd (p q : PM PV) : PM PV := PM.bind p fun a => match a with
  | .bool b => if b = true then q else PM.pure (.bool b)
  | _ => pfail
theorem s_and2 {a b : Expr} {pos : Pos} {p q : PM PV} (h1 : SE W d env a p) (h2 : SE W d env b q) : SE W d env (.BoolOp .And [a, b] pos) (pboolAnd p q) := by
  intro G
  show Sim W d env rrV G (eval a env >>= fun v => standAt pos >>= fun _ => holding [v] (truthy v) >>= fun t => match BoolOp.And, t with
    | .And, false | .Or, true => pure v
    | _, _ => eval b env) _
  refine Sim.bind (h1 _) fun v p => Sim.stand ?_
  cases p with
  | bool c =>
    refine Sim.under fun ⟨h, ρ, _, e⟩ => ?_
    have e : v = .bool c := e
    subst e
    intro A s ρ σ Q E ha hr hg hp
    refine wpAny_bind (wpAny_holding ?_)
    cases c with
    | true => exact wpAny_pure (h2 _ A s ρ σ Q E ha hr hg hp)
    | false => exact wpAny_pure (wpAny_pure (hp _ s.heap ρ s.toks hr .refl ⟨ha.tok, ha.pos⟩ rfl))
  | _ => exact s_fail
end
end

section
open PySem PySem.W PyProof.Rows PySem.Spec PySem.SeqAt PySem.Calls
set_option autoImplicit false
set_option linter.unusedVariables false
set_option maxRecDepth 100000
set_option tactic.hygienic false
noncomputable def pbKw1 (ns : List String) (kn pn : String) : List PV → List (String × PV) → List PO → Option (List (String × PV) × List PO) := fun a k H => if a.length = ns.length ∧ k.map (·.1) = [pn] then some (ns.zip a ++ [(kn, .ref H.length)], H ++ [.dct k]) else none
theorem pbKw1_names {ns : List String} {kn pn : String} {a : List PV} {kw : List (String × PV)} {H : List PO} {l : List (String × PV)} {H' : List PO} (h : pbKw1 ns kn pn a kw H = some (l, H')) : l.map (·.1) = ns ++ [kn] := by
  obtain ⟨hc, e⟩ := if_inv h
  cases e
  rw [List.map_append, zip_names hc.1]; rfl
theorem bind_kw1 {W : Wd} {fd : FuncData} {ns : List String} {kn pn : String} (h : ∀ (A : Around) (s : Shared) (Q : List (Str × Value) → Shared → Prop) (E : Value → Shared → Prop) (v : Value) (args : List Value), args.length = ns.length →
    wpAny (model W.prog W.w) A (nsSet s.heap.objs.size (Str.ofString pn) v) (fun _ s' => Q ((ns.map Str.ofString).zip args ++ [(Str.ofString kn, .ref s.heap.objs.size)]) s') E { s with heap := s.heap.push { cls := .type "dict", data := .dict #[] } } → wpAny (model W.prog W.w) A (bindArgs fd ⟨args, [(Str.ofString pn, v)]⟩) Q E s) : BindOk W fd (pbKw1 ns kn pn) := by
  intro A s ρ H args kw pargs pkw l H' Q E hc ra rk e hQ
  obtain ⟨⟨h1, h2⟩, e⟩ := if_inv e
  cases e
  cases rk with
  | nil => cases h2
  | @cons x y xs ys r rk =>
    obtain ⟨k, v⟩ := x
    obtain ⟨k', q⟩ := y
    injection h2 with h2 h3
    obtain ⟨e1, r⟩ := r
    have e1 : k = Str.ofString k' := e1
    have h2 : k' = pn := h2
    subst h2
    subst e1
    cases rk with
    | cons _ _ => cases h3
    | nil =>
      refine h A s Q E v args (by rw [ra.length]; exact h1) ?_
      have k := Keeps.push (h := s.heap) { cls := .type "dict", data := .dict #[] }
      have hn : s.heap.get? s.heap.objs.size = none := fresh_none
      have o1 : (s.heap.push { cls := .type "dict", data := .dict #[] }).get? s.heap.objs.size = some { cls := .type "dict", data := .dict #[] } := Heap.get?_push_size _ rfl
      refine wpAny_nsSetD (s := { s with heap := s.heap.push { cls := .type "dict", data := .dict #[] } }) (Heap.Ns.new s.heap (.type "dict")) o1 fun h' es' n' hns' hod' sb z1 z2 z3 => ?_
      have kk : Keeps s.heap h' := fun b o e => by
        have hb : b ≠ s.heap.objs.size := fun z => by rw [z, hn] at e; cases e
        rw [sb.2 b hb]; exact k b o e
      obtain ⟨y1, y2⟩ := z1 rfl
      have c1 : Cells W h' (ρ.add s.heap.objs.size) (H ++ [.dct [(k', q)]]) := by
        refine hc.snoc kk hn ⟨es', n', _, hod', hns', fun z => ⟨fun p e => ?_, fun e => ?_⟩, ⟨y2, y1, not_sys hc, z3 fun e he => absurd he (Array.not_mem_empty e)⟩⟩
        · have hz : z = k' := by
            by_cases hz : z = k'
            · exact hz
            · rw [List.lookup_cons, show (z == k') = false by simpa using hz] at e; cases e
          subst hz
          rw [List.lookup_cons_self] at e
          cases e
          exact ⟨v, if_pos rfl, r.stb (kk.stb pre_snoc)⟩
        · have hz : z ≠ k' := fun hz => by rw [hz, List.lookup_cons_self] at e; cases e
          exact if_neg fun x => hz (ofString_inj x)
      refine hQ _ _ (ρ.add s.heap.objs.size) (s.toks + 1) c1 kk (Ext0.snoc kk hn).toExt rfl (Nat.le_succ _) ?_
      refine All2.append (zip_rel (W := W) (ra.mono fun _ _ y => y.stb (kk.stb pre_snoc))) (.cons ⟨rfl, _, rfl, ?_⟩ .nil)
      show (ρ.a ++ [s.heap.objs.size])[H.length]? = _
      rw [← hc.len, List.getElem?_append_right (Nat.le_refl _)]; simp
section
variable {σ : PS}
theorem PW.nxI1 {i : Nat} {fs : List (String × PV)} {Q : NX → PS → Prop} (e : σ.H[i]? = some (.dct fs)) (hl : fs.length ≤ 1) (h : Q (nxIt1 i fs.length) σ) : PW (pnxIt1 (.ref i)) σ Q := ⟨_, σ, by unfold pnxIt1; dsimp only; rw [e]; exact if_pos hl, h⟩
theorem PW.forOne {nx : NX} {asg : PV → PM Unit} {b : PM PF} {N : Nat} {p : PV} {Q : PF → PS → Prop} (e : nx 0 σ.H = some (some p)) (h : PW (asg p) σ fun _ σ₁ => PW b σ₁ fun f σ₂ => f = .next ∧ nx 1 σ₂.H = some none ∧ Q .next σ₂) : PW (pfor nx asg b (N + 2) 0) σ Q := by
  have z : PW (PM.bind (pnoexc (asg p)) (fun _ => PM.bind (pnoexc b) fun r => pturn r (pfor nx asg b (N + 1) 1))) σ Q := by
    refine PW.bind (PW.noexc (h.mono fun _ σ₁ h₁ => PW.bind (PW.noexc (h₁.mono fun f σ₂ h₂ => ?_))))
    obtain ⟨rfl, e2, h3⟩ := h₂
    exact ⟨.next, σ₂, by show pfor nx asg b (N + 1) 1 σ₂ = _; unfold pfor; rw [e2], h3⟩
  obtain ⟨a, σ', e3, q⟩ := z
  exact ⟨a, σ', by unfold pfor; rw [e]; exact e3, q⟩
end
end

section
open PySem PySem.W PyProof.Rows PySem.Spec PySem.SeqAt PySem.Calls
set_option autoImplicit false
set_option linter.unusedVariables false
set_option linter.unusedSectionVars false
set_option maxRecDepth 100000
set_option maxHeartbeats 4000000
set_option tactic.hygienic false
section
variable {W : Wd} {P : Params} (hK : W.K = hd.heap_1 P) (hC : W.C = 201) (hCl : ClsOk W) (hP : PatsOk W PT)
include hK hC hCl hP
noncomputable def SetdLaw (sp : FSpec) : Prop := ∀ (H : List PO) (i l : Nat) (rows : List (Str × Str)) (n v : Str), Tab H i l rows → rowsOk rows = true → nameLen n = true → v.length ≤ 10000 →
  (hasN (Txt.lower n) = true → sp [.ref i, .str n, .str v] [] H = some (.exc, H)) ∧
  (hasN (Txt.lower n) = false → (∀ r, findRow rows n = some r → sp [.ref i, .str n, .str v] [] H = some (.ok (.str r.2), H)) ∧
    (findRow rows n = none → sp [.ref i, .str n, .str v] [] H = some (if hasN n = true ∨ hasV v = true then (.exc, H) else (.ok (.str v), H.set l (.list ((rows ++ [(n, v)]).map row))))))
theorem m_setd {sc sg : FSpec} (hconv : FHolds W 2 (.ref 100) sc) (c : ConvLaw sc) (hget : FHolds W 3 (.ref 148) sg) (g : GetLaw sg) : ∃ sp, CHolds W 4 (.ref 191) sp ∧ SetdLaw sp := by
  refine own_mk' (c_ownE (d := 3) (fd := ?fd) (body := ?body) (ns := ["self", "name", "value"]) (p := ?p) ?D (bind_pos ?B) (fun _ _ _ _ _ h => pb0_names h) fun L => ?S) ?law
  case D => (refine ⟨⟨?_, ?h1, ?h2⟩, ?h3, ?h4, ?h5, ?h6, ?h7, ?h8, ?h9, ?h10, ?h11, ?h12, ?h13⟩; (case h1 => rw [‹Wd.K _ = hd.heap_1 _›]; rfl); (case h2 => rfl); (case h3 => rfl); (case h4 => rw [‹Wd.K _ = hd.heap_1 _›]; rfl); (case h5 => rfl); (case h6 => rfl); (case h7 => rfl); (case h8 => rfl); (case h9 => rfl); (case h10 => rfl); (case h11 => exact names_ok (by decide +kernel)); (case h12 => decide +kernel); (case h13 => decide +kernel))
  case B => exact bp3 fun a b c => by with_unfolding_all rfl
  case S => 
    refine' sb_as ?hT ?hE
    case hT => exact (b_cons (st_assign (s_icall (e_name (by decide +kernel) (by decide +kernel)) (f_more hget (by decide)) (by rw [hK, hC]; rfl) (by rw [hK]; rfl) (by rw [hK]; rfl) (sa_pos (ss_cons (e_name (by decide +kernel) (by decide +kernel)) ss_nil rfl) rfl) (fun _ => rfl) rfl rfl rfl) (a_name (.inl rfl)) rfl rfl rfl) (b_one (st_if (t_is (e_name (by decide +kernel) (by decide +kernel)) e_none rfl) (b_cons (st_expr (ml_append (s_field (e_name (by decide +kernel) (by decide +kernel)) (by rw [hK, hC]; rfl)) (ss_cons (s_tuple (ss_cons (s_icall (e_name (by decide +kernel) (by decide +kernel)) (f_more hconv (by decide)) (by rw [hK, hC]; rfl) (by rw [hK]; rfl) (by rw [hK]; rfl) (sa_kw1 (ss_cons (e_name (by decide +kernel) (by decide +kernel)) ss_nil rfl) e_bool rfl) (fun _ => rfl) rfl rfl rfl) (ss_cons (s_icall (e_name (by decide +kernel) (by decide +kernel)) (f_more hconv (by decide)) (by rw [hK, hC]; rfl) (by rw [hK]; rfl) (by rw [hK]; rfl) (sa_kw1 (ss_cons (e_name (by decide +kernel) (by decide +kernel)) ss_nil rfl) e_bool rfl) (fun _ => rfl) rfl rfl rfl) ss_nil rfl) rfl)) ss_nil rfl) rfl (fun _ => rfl) rfl rfl) rfl rfl) (b_one (st_ret (e_name (by decide +kernel) (by decide +kernel))))) (b_one (st_ret (e_name (by decide +kernel) (by decide +kernel)))))))
    case hE => exact rfl
  case law =>
    intro H i li rows n v t ho hn hv
    obtain ⟨k, f1, f2, f3⟩ := t.ex
    obtain ⟨hn1, hn3⟩ := nameLen_inv hn
    have hlen := rowsOk.len ho
    refine ⟨fun hn2 => ?_, fun hn2 => ⟨fun r hr => ?_, fun hr => ?_⟩⟩
    · refine PWE.fspecX (l := [("self", .ref i), ("name", .str n), ("value", .str v)]) (H₁ := H) rfl ?_
      walk_at "x"
      refine PWE.inst f1 f2 ?_
      refine PWE.guard rfl ?_
      walk_at "x"
      exact PWE.call (g.exc t ho hn hn2) rfl
    · refine PWE.fspecX (l := [("self", .ref i), ("name", .str n), ("value", .str v)]) (H₁ := H) rfl ?_
      walk_at "x"
      refine PWE.inst f1 f2 ?_
      refine PWE.guard rfl ?_
      walk_at "x"
      have hg := g.ok1 t ho hn hn2
      unfold getD' at hg
      rw [hr] at hg
      refine PWE.of (PW.call hg ?_)
      walk_at "x"
      exact .inl ⟨_, rfl, rfl⟩
    · refine PWE.fspecX (l := [("self", .ref i), ("name", .str n), ("value", .str v)]) (H₁ := H) rfl ?_
      walk_at "x"
      refine PWE.inst f1 f2 ?_
      refine PWE.guard rfl ?_
      walk_at "x"
      have hg := g.ok1 t ho hn hn2
      unfold getD' at hg
      rw [hr] at hg
      refine PWE.of (PW.call hg ?_)
      walk_at "x"
      refine PWE.of (PW.field f1 f2 ?_)
      walk_at "x"
      refine PWE.plist f3 ?_
      walk_at "x"
      refine PWE.inst f1 f2 ?_
      refine PWE.guard rfl ?_
      walk_at "x"
      cases hN : hasN n with
      | true => exact PWE.call (c.exc (by lia) hN) (by rw [if_pos (.inl rfl)])
      | false =>
        refine PWE.of (PW.call (c.ok (by lia) hN) ?_)
        walk_at "x"
        refine PWE.inst f1 f2 ?_
        refine PWE.guard rfl ?_
        walk_at "x"
        cases hV : hasV v with
        | true => exact PWE.call (c.exc (by lia) hV) (by rw [if_pos (.inr rfl)])
        | false =>
          rw [if_neg (by decide)]
          refine PWE.of (PW.call (c.ok (by lia) hV) ?_)
          walk_at "x"
          refine PWE.guard ⟨by rw [sizeLine_eq]; simp, rfl⟩ ?_
          walk_at "x"
          refine PWE.of (PW.append f3 (by rw [List.length_map, sizeLine_eq]; lia) ?_)
          walk_at "x"
          refine .inl ⟨_, rfl, ?_⟩
          simp [row]
end
end

section
open PySem PySem.W PyProof.Rows PySem.Spec PySem.SeqAt PySem.Calls
set_option autoImplicit false
set_option linter.unusedVariables false
set_option linter.unusedSectionVars false
set_option maxRecDepth 100000
set_option maxHeartbeats 4000000
set_option tactic.hygienic false
section
variable {W : Wd} {P : Params} (hK : W.K = hd.heap_1 P) (hC : W.C = 201) (hCl : ClsOk W) (hP : PatsOk W PT)
include hK hC hCl hP
noncomputable def pq : Str := Str.ofString "p-q=\".\""
noncomputable def FmtLaw (sp : FSpec) : Prop := ∀ (H : List PO), sp [.str (Str.ofString "p-q"), .str (Str.ofString ".")] [] H = some (.ok (.str pq), H)
noncomputable def pbF : List PV → List (String × PV) → Option (List (String × PV)) := fun a k => if a.length = ["param", "value"].length ∧ k = [] then some (["param", "value"].zip a ++ [("quote", .int 1)]) else none
omit hK hC hCl hP in
theorem bind_F {fd : FuncData} (h : ∀ (s : Shared), (∀ b o, W.h₀.get? b = some o → s.heap.get? b = some o) → ∀ args : List Value, args.length = ["param", "value"].length → ∃ t, BindsTo s fd ⟨args, []⟩ ((["param", "value"].map Str.ofString).zip args ++ [(Str.ofString "quote", .int 1 t)])) : BindOk W fd (pbOf pbF) := by
  refine BindOk.mk fun s ρ args kw pargs pkw l hb ra rk e => ?_
  obtain ⟨⟨h1, rfl⟩, rfl⟩ := if_inv e
  cases rk
  obtain ⟨t, h⟩ := h s hb args (by rw [ra.length]; exact h1)
  exact ⟨_, h, (zip_rel (W := W) ra).append (.cons ⟨rfl, _, rfl⟩ .nil)⟩
omit hK hC hCl hP in
theorem pbF_names {a : List PV} {kw : List (String × PV)} {H : List PO} {l : List (String × PV)} {H' : List PO} (h : pbOf pbF a kw H = some (l, H')) : l.map (·.1) = ["param", "value", "quote"] := by
  obtain ⟨l', e1, e2⟩ := Option.map_eq_some_iff.mp h
  cases e2
  obtain ⟨c, rfl⟩ := if_inv e1
  rw [List.map_append, zip_names c.1]; rfl
omit hK hC hCl hP in
theorem join_two {v : Str} : Txt.join (Str.ofString "; ") [v, pq] = v ++ Str.ofString "; p-q=\".\"" := by
  have e : Str.ofString "; p-q=\".\"" = Str.ofString "; " ++ pq := by decide +kernel
  rw [e]
  show v ++ Str.ofString "; " ++ pq = _
  rw [← ofl_cp (v ++ Str.ofString "; " ++ pq), ← ofl_cp (v ++ (Str.ofString "; " ++ pq))]
  simp [cp, Str.cps_append]
omit hK hC hCl hP in
theorem join_two_ok {v : Str} (h : v.length ≤ 400) : JoinOk (Str.ofString "; ") [v, pq] = true := by
  have hsl := sizeLine_eq
  have e1 : (Str.ofString "; ").length = 2 := by decide +kernel
  have e2 : pq.length = 7 := by decide +kernel
  unfold JoinOk
  show (!Builtin.Str.tooLong (0 + v.length + (Str.ofString "; ").length + pq.length + (Str.ofString "; ").length)) = true
  unfold Builtin.Str.tooLong
  rw [e1, e2, Bool.not_eq_true', decide_eq_false_iff_not]
  lia
theorem m_fmt : ∃ sp, CHolds W 1 (.ref 78) sp ∧ FmtLaw sp := by
  refine own_mk' (c_own (d := 0) (fd := ?fd) (body := ?body) (ns := ["param", "value", "quote"]) (p := ?p) ?D (bind_F ?B) (fun _ _ _ _ _ h => pbF_names h) fun L => ?S) ?law
  case D => (refine ⟨⟨?_, ?h1, ?h2⟩, ?h3, ?h4, ?h5, ?h6, ?h7, ?h8, ?h9, ?h10, ?h11, ?h12, ?h13⟩; (case h1 => rw [‹Wd.K _ = hd.heap_1 _›]; rfl); (case h2 => rfl); (case h3 => rfl); (case h4 => rw [‹Wd.K _ = hd.heap_1 _›]; rfl); (case h5 => rfl); (case h6 => rfl); (case h7 => rfl); (case h8 => rfl); (case h9 => rfl); (case h10 => rfl); (case h11 => exact names_ok (by decide +kernel)); (case h12 => decide +kernel); (case h13 => decide +kernel))
  case B =>
    intro s hb
    have ho : s.heap.get? 71 = some _ := hb _ _ (W.X _ _ (by (rw [‹Wd.K _ = hd.heap_1 _›]; rfl)))
    refine len2 ?_
    intro a b
    exact ⟨_, BindsTo.of_defaults rfl ho rfl (by with_unfolding_all rfl) (by with_unfolding_all rfl)⟩
  case S => 
    refine' sb_as ?hT ?hE
    case hT => exact (b_one (st_if (t_and2 (t_isnot (e_name (by decide +kernel) (by decide +kernel)) e_none rfl) (t_gt (b_len rfl (by rw [hK]; rfl) (ss_cons (e_name (by decide +kernel) (by decide +kernel)) ss_nil rfl) rfl) e_int rfl)) (b_one (st_if (t_or2 (t_plain (e_name (by decide +kernel) (by decide +kernel)) rfl) (t_search hP (e_glob rfl (by rw [hK]; rfl) (by decide +kernel)) (ss_cons (e_name (by decide +kernel) (by decide +kernel)) ss_nil rfl) rfl (fun _ => rfl) rfl rfl rfl)) (b_cons (st_assign (s_replace (s_replace (e_name (by decide +kernel) (by decide +kernel)) ss_cc rfl (fun _ => rfl) rfl rfl) ss_cc rfl (fun _ => rfl) rfl rfl) (a_name (.inl rfl)) rfl rfl rfl) (b_one (st_ret (s_fstr4 (s_fpart (e_name (by decide +kernel) (by decide +kernel))) s_cstr (s_fpart (e_name (by decide +kernel) (by decide +kernel))) s_cstr)))) (b_one (st_ret e_never3)))) (b_one (st_ret (e_name (by decide +kernel) (by decide +kernel))))))
    case hE => exact rfl
  case law =>
    intro H
    refine PW.fspec (l := [("param", .str (Str.ofString "p-q")), ("value", .str (Str.ofString ".")), ("quote", .int 1)]) (H₁ := H) rfl ?_
    walk_at "p"
    refine ⟨.int 1, _, rfl, ?_⟩
    walk_at "p"
    refine ⟨.bool true, _, rfl, ?_⟩
    walk_at "p"
    refine PW.replace (by decide +kernel) ?_
    walk_at "p"
    refine PW.replace (by decide +kernel) ?_
    rw [show Txt.replace (Txt.replace (Str.ofString ".") (Str.ofString "\\") (Str.ofString "\\\\")) (Str.ofString "\"") (Str.ofString "\\\"") = Str.ofString "." by decide +kernel]
    walk_at "p"
    unfold pjoinC pjoin
    walk_at "p"
    refine PW.guard (by decide +kernel) ?_
    walk_at "p"
    refine PW.guard (by decide +kernel) ?_
    walk_at "p"
    refine PW.guard (by decide +kernel) ?_
    walk_at "p"
    refine PW.guard (by decide +kernel) ?_
    walk_at "p"
    refine PW.guard (by decide +kernel) ?_
    walk_at "p"
    refine PW.guard (by decide +kernel) ?_
    walk_at "p"
    refine PW.guard (by decide +kernel) ?_
    walk_at "p"
    exact ⟨rfl, .inl (congrArg (fun z => PF.ret (.str z)) (by decide +kernel))⟩
noncomputable def AddpLaw (sp : FSpec) : Prop := ∀ (H : List PO) (i l : Nat) (rows : List (Str × Str)) (n v : Str), Tab H i l rows → rowsOk rows = true → n.length ≤ 400 → v.length ≤ 400 →
  ((hasN n = true ∨ hasV v = true) → ∃ X, sp [.ref i, .str n, .str v] [("p_q", .str (Str.ofString "."))] H = some (.exc, H ++ X)) ∧
  (hasN n = false → hasV v = false → ∃ X, sp [.ref i, .str n, .str v] [("p_q", .str (Str.ofString "."))] H = some (.ok .none, (H ++ X).set l (.list ((rows ++ [(n, v ++ Str.ofString "; p-q=\".\"")]).map row))))
theorem m_addp {sc sf : FSpec} (hconv : FHolds W 2 (.ref 100) sc) (c : ConvLaw sc) (hfmt : FHolds W 1 (.ref 78) sf) (fm : FmtLaw sf) : ∃ sp, CHolds W 3 (.ref 198) sp ∧ AddpLaw sp := by
  refine own_mk' (c_ownE (d := 2) (fd := ?fd) (body := ?body) (ns := ["self", "_name", "_value", "_params"]) (p := ?p) ?D (bind_kw1 (ns := ["self", "_name", "_value"]) (kn := "_params") (pn := "p_q") ?B) (fun _ _ _ _ _ h => pbKw1_names h) fun L => ?S) ?law
  case D => (refine ⟨⟨?_, ?h1, ?h2⟩, ?h3, ?h4, ?h5, ?h6, ?h7, ?h8, ?h9, ?h10, ?h11, ?h12, ?h13⟩; (case h1 => rw [‹Wd.K _ = hd.heap_1 _›]; rfl); (case h2 => rfl); (case h3 => rfl); (case h4 => rw [‹Wd.K _ = hd.heap_1 _›]; rfl); (case h5 => rfl); (case h6 => rfl); (case h7 => rfl); (case h8 => rfl); (case h9 => rfl); (case h10 => rfl); (case h11 => exact names_ok (by decide +kernel)); (case h12 => decide +kernel); (case h13 => decide +kernel))
  case B =>
    intro A s Q E v
    refine len3 ?_
    intro a b c h
    with_unfolding_all show wpAny (model W.prog W.w) A (alloc { cls := .type "dict", data := .dict #[] } >>= fun d => _) Q E s
    refine wpAny_bind (wpAny_alloc (wpAny_bind ?_))
    with_unfolding_all show wpAny (model W.prog W.w) A ((nsSet _ (Str.ofString "p_q") v >>= fun _ => pure (ForInStep.yield PUnit.unit)) >>= fun r => _) _ _ _
    refine wpAny_bind (wpAny_bind (wpAny_mono h (fun _ s' q => wpAny_pure (wpAny_pure (wpAny_pure ?_))) fun _ _ e => e))
    exact q
  case S => 
    refine' sb_as ?hT ?hE
    case hT => exact (b_cons (st_assign (s_list ss_nil) (a_name (.inl rfl)) rfl rfl rfl) (b_cons (st_if (t_isnot (e_name (by decide +kernel) (by decide +kernel)) e_none rfl) (b_cons (st_assign (s_icall (e_name (by decide +kernel) (by decide +kernel)) (f_more hconv (by decide)) (by rw [hK, hC]; rfl) (by rw [hK]; rfl) (by rw [hK]; rfl) (sa_kw1 (ss_cons (e_name (by decide +kernel) (by decide +kernel)) ss_nil rfl) e_bool rfl) (fun _ => rfl) rfl rfl rfl) (a_name (.inl rfl)) rfl rfl rfl) (b_one (st_expr (ml_append (e_name (by decide +kernel) (by decide +kernel)) (ss_cons (e_name (by decide +kernel) (by decide +kernel)) ss_nil rfl) rfl (fun _ => rfl) rfl rfl) rfl rfl))) b_nil) (b_cons (st_for (100) (si_it1 (e_name (by decide +kernel) (by decide +kernel)) (fun _ => rfl) rfl rfl) (a_tuple (.cons (a_name (.inl rfl)) (.cons (a_name (.inl rfl)) .nil)) rfl) (b_cons (st_assign (s_icall (e_name (by decide +kernel) (by decide +kernel)) (f_more hconv (by decide)) (by rw [hK, hC]; rfl) (by rw [hK]; rfl) (by rw [hK]; rfl) (sa_kw1 (ss_cons (e_name (by decide +kernel) (by decide +kernel)) ss_nil rfl) e_bool rfl) (fun _ => rfl) rfl rfl rfl) (a_name (.inl rfl)) rfl rfl rfl) (b_one (st_if (t_is (e_name (by decide +kernel) (by decide +kernel)) e_none rfl) (b_one (st_expr (ml_append (e_name (by decide +kernel) (by decide +kernel)) (ss_cons (s_replace (e_name (by decide +kernel) (by decide +kernel)) ss_cc rfl (fun _ => rfl) rfl rfl) ss_nil rfl) rfl (fun _ => rfl) rfl rfl) rfl rfl)) (b_cons (st_assign (s_icall (e_name (by decide +kernel) (by decide +kernel)) (f_more hconv (by decide)) (by rw [hK, hC]; rfl) (by rw [hK]; rfl) (by rw [hK]; rfl) (sa_kw1 (ss_cons (e_name (by decide +kernel) (by decide +kernel)) ss_nil rfl) e_bool rfl) (fun _ => rfl) rfl rfl rfl) (a_name (.inl rfl)) rfl rfl rfl) (b_one (st_expr (ml_append (e_name (by decide +kernel) (by decide +kernel)) (ss_cons (s_kcall (f_more hfmt (by decide)) rfl (by rw [hK]; rfl) (by rw [hK]; rfl) (sa_pos (ss_cons (s_replace (e_name (by decide +kernel) (by decide +kernel)) ss_cc rfl (fun _ => rfl) rfl rfl) (ss_cons (e_name (by decide +kernel) (by decide +kernel)) ss_nil rfl) rfl) rfl) (by decide +kernel) (fun _ => rfl)) ss_nil rfl) rfl (fun _ => rfl) rfl rfl) rfl rfl)))))) (fun _ => rfl)) (b_one (st_expr (ml_append (s_field (e_name (by decide +kernel) (by decide +kernel)) (by rw [hK, hC]; rfl)) (ss_cons (s_tuple (ss_cons (s_icall (e_name (by decide +kernel) (by decide +kernel)) (f_more hconv (by decide)) (by rw [hK, hC]; rfl) (by rw [hK]; rfl) (by rw [hK]; rfl) (sa_kw1 (ss_cons (e_name (by decide +kernel) (by decide +kernel)) ss_nil rfl) e_bool rfl) (fun _ => rfl) rfl rfl rfl) (ss_cons (m_join e_str (ss_cons (e_name (by decide +kernel) (by decide +kernel)) ss_nil rfl) rfl (fun _ => rfl) rfl rfl) ss_nil rfl) rfl)) ss_nil rfl) rfl (fun _ => rfl) rfl rfl) rfl rfl)))))
    case hE => exact rfl
  case law =>
    intro H i li rows n v t ho hn hv
    obtain ⟨k, f1, f2, f3⟩ := t.ex
    have hlen := rowsOk.len ho
    have up : ∀ {H : List PO} {x : Nat} {o o' : PO}, H[x]? = some o → (H ++ [o'])[x]? = some o := fun e => get_app e
    generalize hF : fspecX _ _ [PV.ref i, .str n, .str v] [("p_q", .str (Str.ofString "."))] H = F
    have hV0 : ∀ hb : hasV v = true, ∃ X, F = some (.exc, H ++ X) := fun hb => by
      refine ⟨[.dct [("p_q", .str (Str.ofString "."))], .list []], ?_⟩
      rw [← hF]
      refine PWE.fspecX (l := [("self", .ref i), ("_name", .str n), ("_value", .str v), ("_params", .ref H.length)]) (H₁ := H ++ [.dct [("p_q", .str (Str.ofString "."))]]) rfl ?_
      walk_at "x"
      refine PWE.guard (by rw [sizeLine_eq]; decide) ?_
      walk_at "x"
      refine PWE.inst (up (up f1)) (up (up f2)) ?_
      refine PWE.guard rfl ?_
      walk_at "x"
      exact PWE.call (c.exc (by lia) hb) (by simp)
    have hV1 : ∀ hb : hasV v = false, F = some (if hasN n = true then (.exc, H ++ [PO.dct [("p_q", .str (Str.ofString "."))], PO.list [.str v, .str pq]]) else (.ok .none, (H ++ [PO.dct [("p_q", .str (Str.ofString "."))], PO.list [.str v, .str pq]]).set li (.list ((rows ++ [(n, v ++ Str.ofString "; p-q=\".\"")]).map row)))) := fun hb => by
      rw [← hF]
      refine PWE.fspecX (l := [("self", .ref i), ("_name", .str n), ("_value", .str v), ("_params", .ref H.length)]) (H₁ := H ++ [.dct [("p_q", .str (Str.ofString "."))]]) rfl ?_
      have hl1 : (H ++ [PO.dct [("p_q", .str (Str.ofString "."))]]).length = H.length + 1 := by simp
      have hp : ∀ l : List PV, (H ++ [PO.dct [("p_q", .str (Str.ofString "."))]] ++ [PO.list l])[(H ++ [PO.dct [("p_q", .str (Str.ofString "."))]]).length]? = some (.list l) := fun l => by rw [List.getElem?_append_right (Nat.le_refl _)]; simp
      have hs : ∀ l l' : List PV, (H ++ [PO.dct [("p_q", .str (Str.ofString "."))]] ++ [PO.list l]).set (H ++ [PO.dct [("p_q", .str (Str.ofString "."))]]).length (.list l') = H ++ [PO.dct [("p_q", .str (Str.ofString "."))]] ++ [PO.list l'] := fun l l' => by rw [List.set_append_right _ _ (Nat.le_refl _), Nat.sub_self]; rfl
      have hd : ∀ l : List PV, (H ++ [PO.dct [("p_q", .str (Str.ofString "."))]] ++ [PO.list l])[H.length]? = some (.dct [("p_q", .str (Str.ofString "."))]) := fun l => up (by rw [List.getElem?_append_right (Nat.le_refl _), Nat.sub_self]; rfl)
      walk_at "x"
      refine PWE.guard (by rw [sizeLine_eq]; decide) ?_
      walk_at "x"
      refine PWE.inst (up (up f1)) (up (up f2)) ?_
      refine PWE.guard rfl ?_
      walk_at "x"
      refine PWE.of (PW.call (c.ok (by lia) hb) ?_)
      walk_at "x"
      refine PWE.plist (hp []) ?_
      walk_at "x"
      refine PWE.of (PW.append (hp []) (by rw [sizeLine_eq]; decide) ?_)
      rw [hs]
      walk_at "x"
      refine PW.nxI1 (hd [.str v]) (by decide) ?_
      refine PWE.of (PW.forOne (p := .tup [.str (Str.ofString "p_q"), .str (Str.ofString ".")]) ?_ ?_)
      · unfold nxIt1
        rw [hd]; rfl
      walk_at "p"
      refine PW.guard rfl ?_
      walk_at "p"
      refine PW.inst (up (up f1)) (up (up f2)) ?_
      refine PW.guard rfl ?_
      walk_at "p"
      refine PW.call (c.ok (by decide +kernel) (by decide +kernel)) ?_
      walk_at "p"
      refine PW.inst (up (up f1)) (up (up f2)) ?_
      refine PW.guard rfl ?_
      walk_at "p"
      refine PW.call (c.ok (by decide +kernel) (by decide +kernel)) ?_
      walk_at "p"
      refine PW.plist (hp [.str v]) ?_
      walk_at "p"
      refine PW.replace (by decide +kernel) ?_
      walk_at "p"
      refine PW.call (v := .str pq) (H' := H ++ [PO.dct [("p_q", .str (Str.ofString "."))]] ++ [PO.list [.str v]]) (by rw [show Txt.replace (Str.ofString "p_q") (Str.ofString "_") (Str.ofString "-") = Str.ofString "p-q" by decide +kernel]; exact fm _) ?_
      walk_at "p"
      refine PW.append (hp [.str v]) (by rw [sizeLine_eq]; simp) ?_
      rw [hs]
      walk_at "p"
      refine ⟨rfl, by unfold nxIt1; rw [hd]; rfl, ?_⟩
      walk_at "x"
      refine PWE.of (PW.field (up (up f1)) (up (up f2)) ?_)
      walk_at "x"
      refine PWE.plist (up (up f3)) ?_
      walk_at "x"
      refine PWE.inst (up (up f1)) (up (up f2)) ?_
      refine PWE.guard rfl ?_
      walk_at "x"
      cases hN : hasN n with
      | true => exact PWE.call (c.exc (by lia) hN) (by simp)
      | false =>
        rw [if_neg (by decide)]
        refine PWE.of (PW.call (c.ok (by lia) hN) ?_)
        walk_at "x"
        refine PW.join (l := [.str v] ++ [.str pq]) (xs := [v, pq]) (hp ([.str v] ++ [.str pq])) rfl (join_two_ok hv) ?_
        walk_at "x"
        refine PWE.guard ⟨by rw [sizeLine_eq]; simp, rfl⟩ ?_
        walk_at "x"
        refine PWE.of (PW.append (up (up f3)) (by rw [List.length_map, sizeLine_eq]; lia) ?_)
        walk_at "x"
        refine .inr ⟨rfl, ?_⟩
        simp [row, join_two]
    constructor
    · intro h
      cases hV : hasV v with
      | true => exact hV0 hV
      | false =>
        have hN : hasN n = true := h.resolve_right (by rw [hV]; decide)
        have := hV1 hV
        rw [if_pos hN] at this
        exact ⟨_, this⟩
    · intro hN hV
      have := hV1 hV
      rw [if_neg (by rw [hN]; decide)] at this
      exact ⟨_, this⟩
end
end

section
open PySem PySem.W PyProof.Rows PySem.Spec PySem.SeqAt PySem.Calls
set_option autoImplicit false
set_option linter.unusedVariables false
set_option linter.unusedSectionVars false
set_option maxRecDepth 100000
set_option maxHeartbeats 4000000
set_option tactic.hygienic false
noncomputable abbrev Rows := List (Str × Str)
noncomputable def doneS : Str := Str.ofString "done"
noncomputable def refS : Str := Str.ofString "refused"
noncomputable def suf : Str := Str.ofString "; p-q=\".\""
noncomputable def deedR : Nat → Str → Str → Rows → Option Str × Rows
  | 0, n, v, rows => if hasN n = true then (none, rows) else if hasV v = true then (none, kept rows n) else (some doneS, kept rows n ++ [(n, v)])
  | 1, n, v, rows => if hasN n = true then (none, rows) else match findRow rows n with
    | some r => (some r.2, rows)
    | none => if hasV v = true then (none, rows) else (some v, rows ++ [(n, v)])
  | 2, n, v, rows => if hasN n = true then (none, rows) else if hasV v = true then (none, rows) else (some doneS, rows ++ [(n, v ++ suf)])
  | _, n, _, rows => if hasN n = true then (none, rows) else (some doneS, kept rows n)
noncomputable def DoneLaw (sp : FSpec) : Prop := ∀ (H : List PO) (i l : Nat) (rows : Rows) (k : Nat) (n v : Str), Tab H i l rows → rowsOk rows = true → nameLen n = true → n.length ≤ 400 → v.length ≤ 400 → hasN (Txt.lower n) = hasN n → k < 4 →
  ∃ X, sp [.ref i, .int k, .str n, .str v] [] H = some (.ok (.str ((deedR k n v rows).1.getD refS)), (H ++ X).set l (.list ((deedR k n v rows).2.map row)))
theorem set_id {α : Type} {l : List α} {i : Nat} {a : α} (h : l[i]? = some a) : l.set i a = l := by
  apply List.ext_getElem?
  intro j
  by_cases hj : i = j
  · subst hj; rw [List.getElem?_set_self (List.getElem?_eq_some_iff.mp h).1, h]
  · rw [List.getElem?_set_ne hj]
theorem c_ownG {W : Wd} {d : Nat} {fa : Addr} {fd : FuncData} {body : List Stmt} {ns : List String} {pb : List PV → List (String × PV) → List PO → Option (List (String × PV) × List PO)} {p : PM PF} (D : DefOk W fa fd body ns) (hb : BindOk W fd pb) (hns : ∀ a kw H l H', pb a kw H = some (l, H') → l.map (·.1) = ns)
    (hS : ∀ L, SBf W d (fenv fd L fa) body p) : CHolds W (d + 1) (.ref fa) (fspecX pb p) := c_defG D hb hns fun L => ⟨p, hS L, fun _ _ _ _ h => h⟩
theorem PWE.setI {σ : PS} {spec : FSpec} {i k : Nat} {fs : List (String × PV)} {b v : PV} {Q : Unit → PS → Prop} {E : PS → Prop} (e : σ.H[i]? = some (.inst k)) (e2 : σ.H[k]? = some (.dct fs)) (h : PWE (pcall spec [.ref i, b, v] []) σ (fun _ => Q ()) E) : PWE (psetAny spec (.ref i) b v) σ Q E := by
  have z : psetAny spec (.ref i) b v σ = psetI spec (.ref i) b v σ := by unfold psetAny; dsimp only; rw [e]
  have y : PWE (psetI spec (.ref i) b v) σ Q E := PWE.inst e e2 (PWE.bind (h.mono (fun _ _ q => PWE.pure q) fun _ q => q))
  unfold PWE at y ⊢
  rw [z]; exact y
theorem PWE.delI {σ : PS} {spec : FSpec} {i k : Nat} {fs : List (String × PV)} {b : PV} {Q : Unit → PS → Prop} {E : PS → Prop} (e : σ.H[i]? = some (.inst k)) (e2 : σ.H[k]? = some (.dct fs)) (h : PWE (pcall spec [.ref i, b] []) σ (fun _ => Q ()) E) : PWE (pdelI spec (.ref i) b) σ Q E := PWE.inst e e2 (PWE.bind (h.mono (fun _ _ q => PWE.pure q) fun _ q => q))
theorem ans_exc {v : PV} {H' H'' : List PO} (h : H'' = H') : (∃ w, PF.ret v = PF.ret w ∧ (Res.ok v, H'') = (Res.ok w, H')) ∨ PF.ret v = PF.next ∧ (Res.ok v, H'') = (Res.ok PV.none, H') := .inl ⟨_, rfl, by rw [h]⟩
section
variable {W : Wd} {P : Params} (hK : W.K = hd.heap_1 P) (hC : W.C = 201) (hCl : ClsOk W) (hP : PatsOk W PT)
include hK hC hCl hP
theorem m_done {sA sB sC sD : FSpec} (hset : FHolds W 4 (.ref 114) sA) (la : StoreLaw sA) (hsetd : FHolds W 4 (.ref 191) sB) (lb : SetdLaw sB) (hadd : FHolds W 3 (.ref 198) sC) (lc : AddpLaw sC) (hdel : FHolds W 3 (.ref 119) sD) (ld : DelLaw sD) : ∃ sp, CHolds W 5 (.ref 219) sp ∧ DoneLaw sp := by
  refine own_mk' (c_ownG (d := 4) (fd := ?fd) (body := ?body) (ns := ["table", "kind", "name", "value"]) (p := ?p) ?D (bind_pos ?B) (fun _ _ _ _ _ h => pb0_names h) fun L => ?S) ?law
  case D => (refine ⟨⟨?_, ?h1, ?h2⟩, ?h3, ?h4, ?h5, ?h6, ?h7, ?h8, ?h9, ?h10, ?h11, ?h12, ?h13⟩; (case h1 => rw [‹Wd.K _ = hd.heap_1 _›]; rfl); (case h2 => rfl); (case h3 => rfl); (case h4 => rw [‹Wd.K _ = hd.heap_1 _›]; rfl); (case h5 => rfl); (case h6 => rfl); (case h7 => rfl); (case h8 => rfl); (case h9 => rfl); (case h10 => rfl); (case h11 => exact names_ok (by decide +kernel)); (case h12 => decide +kernel); (case h13 => decide +kernel))
  case B =>
    intro args h
    match args, h with
    | [a, b, c, d], _ => with_unfolding_all rfl
  case S =>
    refine' try_body ?h1 ?h2 ?h3 try_str ?hb ?hr
    case h1 => rfl
    case h2 => rfl
    case h3 => (rw [‹Wd.K _ = hd.heap_1 _›]; rfl)
    case hb => exact (b_one (st_if (t_eq (e_name (by decide +kernel) (by decide +kernel)) e_int rfl) (b_one (st_assign (e_name (by decide +kernel) (by decide +kernel)) (a_setAny hCl (f_more hset (by decide)) (by rw [hK, hC]; rfl) (by rw [hK]; rfl) (e_name (by decide +kernel) (by decide +kernel)) (e_name (by decide +kernel) (by decide +kernel))) rfl rfl rfl)) (b_one (st_if (t_eq (e_name (by decide +kernel) (by decide +kernel)) e_int rfl) (b_one (st_ret (s_icall (e_name (by decide +kernel) (by decide +kernel)) (f_more hsetd (by decide)) (by rw [hK, hC]; rfl) (by rw [hK]; rfl) (by rw [hK]; rfl) (sa_pos (ss_cons (e_name (by decide +kernel) (by decide +kernel)) (ss_cons (e_name (by decide +kernel) (by decide +kernel)) ss_nil rfl) rfl) rfl) (fun _ => rfl) rfl rfl rfl))) (b_one (st_if (t_eq (e_name (by decide +kernel) (by decide +kernel)) e_int rfl) (b_one (st_expr (s_icall (e_name (by decide +kernel) (by decide +kernel)) (f_more hadd (by decide)) (by rw [hK, hC]; rfl) (by rw [hK]; rfl) (by rw [hK]; rfl) (sa_kw1 (ss_cons (e_name (by decide +kernel) (by decide +kernel)) (ss_cons (e_name (by decide +kernel) (by decide +kernel)) ss_nil rfl) rfl) e_str rfl) (fun _ => rfl) rfl rfl rfl) rfl rfl)) (b_one (st_delI hCl (f_more hdel (by decide)) (by rw [hK, hC]; rfl) (by rw [hK]; rfl) (e_name (by decide +kernel) (by decide +kernel)) (e_name (by decide +kernel) (by decide +kernel))))))))))
    case hr => exact (b_one (st_ret e_str))
  case law =>
    intro H i l rows k n v t ho hn hn4 hv4 hlow hk
    obtain ⟨k0, f1, f2, f3⟩ := t.ex
    have hid : ∀ X, (H ++ X).set l (.list (rows.map row)) = H ++ X := fun X => set_id (get_app f3)
    generalize hF : fspecX _ _ [PV.ref i, .int k, .str n, .str v] [] H = F
    match k, hk with
    | 0, _ =>
      obtain ⟨sE, sO⟩ := la H i l rows n v t ho hn (by lia)
      rw [hlow] at sE sO
      cases hN : hasN n with
      | true =>
        refine ⟨[], ?_⟩
        rw [show deedR 0 n v rows = (none, rows) from if_pos hN, hid, ← hF]
        refine PWE.fspecX (l := [("table", .ref i), ("kind", .int 0), ("name", .str n), ("value", .str v)]) (H₁ := H) rfl (PWE.of (PW.tryb ?_))
        walk_at "x"
        refine PWE.setI f1 f2 (PWE.call (sE hN) (ans_exc (by simp)))
      | false =>
        obtain ⟨X, hX⟩ := sO hN
        refine ⟨X, ?_⟩
        cases hV : hasV v with
        | true =>
          rw [if_pos (.inr hV)] at hX
          rw [show deedR 0 n v rows = (none, kept rows n) from (if_neg (by rw [hN]; decide)).trans (if_pos hV), ← hF]
          refine PWE.fspecX (l := [("table", .ref i), ("kind", .int 0), ("name", .str n), ("value", .str v)]) (H₁ := H) rfl (PWE.of (PW.tryb ?_))
          walk_at "x"
          exact PWE.setI f1 f2 (PWE.call hX (ans_exc rfl))
        | false =>
          rw [if_neg (by rw [hN, hV]; decide)] at hX
          rw [show deedR 0 n v rows = (some doneS, kept rows n ++ [(n, v)]) from (if_neg (by rw [hN]; decide)).trans (if_neg (by rw [hV]; decide)), ← hF]
          refine PWE.fspecX (l := [("table", .ref i), ("kind", .int 0), ("name", .str n), ("value", .str v)]) (H₁ := H) rfl (PWE.of (PW.tryb ?_))
          walk_at "x"
          refine PWE.setI f1 f2 (PWE.of (PW.call hX ?_))
          walk_at "x"
          exact ans_exc rfl
    | 1, _ =>
      obtain ⟨sE, sO⟩ := lb H i l rows n v t ho hn (by lia)
      rw [hlow] at sE sO
      cases hN : hasN n with
      | true =>
        refine ⟨[], ?_⟩
        rw [show deedR 1 n v rows = (none, rows) from if_pos hN, hid, ← hF]
        refine PWE.fspecX (l := [("table", .ref i), ("kind", .int 1), ("name", .str n), ("value", .str v)]) (H₁ := H) rfl (PWE.of (PW.tryb ?_))
        walk_at "x"
        refine PWE.inst f1 f2 ?_
        refine PWE.guard rfl ?_
        walk_at "x"
        exact PWE.call (sE hN) (ans_exc (by simp))
      | false =>
        obtain ⟨sS, sN⟩ := sO hN
        cases hf : findRow rows n with
        | some r =>
          refine ⟨[], ?_⟩
          have hd : deedR 1 n v rows = (some r.2, rows) := by
            show (if hasN n = true then _ else match findRow rows n with | some r => (some r.2, rows) | none => _) = _
            rw [if_neg (by rw [hN]; decide), hf]
          rw [show deedR 1 n v rows = (some r.2, rows) from hd, hid, ← hF]
          refine PWE.fspecX (l := [("table", .ref i), ("kind", .int 1), ("name", .str n), ("value", .str v)]) (H₁ := H) rfl (PWE.of (PW.tryb ?_))
          walk_at "x"
          refine PWE.inst f1 f2 ?_
          refine PWE.guard rfl ?_
          walk_at "x"
          refine PWE.of (PW.call (sS r hf) ?_)
          walk_at "x"
          exact ans_exc (by simp)
        | none =>
          have hs := sN hf
          have hd : deedR 1 n v rows = if hasV v = true then (none, rows) else (some v, rows ++ [(n, v)]) := by
            show (if hasN n = true then _ else match findRow rows n with | some r => (some r.2, rows) | none => _) = _
            rw [if_neg (by rw [hN]; decide), hf]
          refine ⟨[], ?_⟩
          cases hV : hasV v with
          | true =>
            rw [if_pos (.inr hV)] at hs
            rw [show deedR 1 n v rows = (none, rows) from hd.trans (if_pos hV), hid, ← hF]
            refine PWE.fspecX (l := [("table", .ref i), ("kind", .int 1), ("name", .str n), ("value", .str v)]) (H₁ := H) rfl (PWE.of (PW.tryb ?_))
            walk_at "x"
            refine PWE.inst f1 f2 ?_
            refine PWE.guard rfl ?_
            walk_at "x"
            exact PWE.call hs (ans_exc (by simp))
          | false =>
            rw [if_neg (by rw [hN, hV]; decide)] at hs
            rw [show deedR 1 n v rows = (some v, rows ++ [(n, v)]) from hd.trans (if_neg (by rw [hV]; decide)), ← hF]
            refine PWE.fspecX (l := [("table", .ref i), ("kind", .int 1), ("name", .str n), ("value", .str v)]) (H₁ := H) rfl (PWE.of (PW.tryb ?_))
            walk_at "x"
            refine PWE.inst f1 f2 ?_
            refine PWE.guard rfl ?_
            walk_at "x"
            refine PWE.of (PW.call hs ?_)
            walk_at "x"
            exact ans_exc (by simp)
    | 2, _ =>
      obtain ⟨sE, sO⟩ := lc H i l rows n v t ho hn4 hv4
      cases hN : hasN n with
      | true =>
        obtain ⟨X, hX⟩ := sE (.inl hN)
        refine ⟨X, ?_⟩
        rw [show deedR 2 n v rows = (none, rows) from if_pos hN, hid, ← hF]
        refine PWE.fspecX (l := [("table", .ref i), ("kind", .int 2), ("name", .str n), ("value", .str v)]) (H₁ := H) rfl (PWE.of (PW.tryb ?_))
        walk_at "x"
        refine PWE.inst f1 f2 ?_
        refine PWE.guard rfl ?_
        walk_at "x"
        exact PWE.call hX (ans_exc rfl)
      | false =>
        cases hV : hasV v with
        | true =>
          obtain ⟨X, hX⟩ := sE (.inr hV)
          refine ⟨X, ?_⟩
          rw [show deedR 2 n v rows = (none, rows) from (if_neg (by rw [hN]; decide)).trans (if_pos hV), hid, ← hF]
          refine PWE.fspecX (l := [("table", .ref i), ("kind", .int 2), ("name", .str n), ("value", .str v)]) (H₁ := H) rfl (PWE.of (PW.tryb ?_))
          walk_at "x"
          refine PWE.inst f1 f2 ?_
          refine PWE.guard rfl ?_
          walk_at "x"
          exact PWE.call hX (ans_exc rfl)
        | false =>
          obtain ⟨X, hX⟩ := sO hN hV
          refine ⟨X, ?_⟩
          rw [show deedR 2 n v rows = (some doneS, rows ++ [(n, v ++ suf)]) from (if_neg (by rw [hN]; decide)).trans (if_neg (by rw [hV]; decide)), ← hF]
          refine PWE.fspecX (l := [("table", .ref i), ("kind", .int 2), ("name", .str n), ("value", .str v)]) (H₁ := H) rfl (PWE.of (PW.tryb ?_))
          walk_at "x"
          refine PWE.inst f1 f2 ?_
          refine PWE.guard rfl ?_
          walk_at "x"
          refine PWE.of (PW.call hX ?_)
          walk_at "x"
          exact ans_exc rfl
    | 3, _ =>
      obtain ⟨sE, sO⟩ := ld H i l rows n t ho hn
      rw [hlow] at sE sO
      cases hN : hasN n with
      | true =>
        refine ⟨[], ?_⟩
        rw [show deedR 3 n v rows = (none, rows) from if_pos hN, hid, ← hF]
        refine PWE.fspecX (l := [("table", .ref i), ("kind", .int 3), ("name", .str n), ("value", .str v)]) (H₁ := H) rfl (PWE.of (PW.tryb ?_))
        walk_at "x"
        exact PWE.delI f1 f2 (PWE.call (sE hN) (ans_exc (by simp)))
      | false =>
        obtain ⟨X, hX⟩ := sO hN
        refine ⟨X, ?_⟩
        rw [show deedR 3 n v rows = (some doneS, kept rows n) from if_neg (by rw [hN]; decide), ← hF]
        refine PWE.fspecX (l := [("table", .ref i), ("kind", .int 3), ("name", .str n), ("value", .str v)]) (H₁ := H) rfl (PWE.of (PW.tryb ?_))
        walk_at "x"
        refine PWE.delI f1 f2 (PWE.of (PW.call hX ?_))
        walk_at "x"
        exact ans_exc rfl
end
end

section
open PySem PySem.W PyProof.Rows PySem.Spec PySem.SeqAt PySem.Calls
set_option autoImplicit false
set_option linter.unusedVariables false
set_option linter.unusedSectionVars false
set_option maxRecDepth 100000
set_option maxHeartbeats 4000000
set_option tactic.hygienic false
noncomputable def spells (c : Nat) : List Str := [Str.ofString "a", Str.ofString "A", Str.ofString "b", Str.ofString "", Str.ofString "a", Str.ofString "A", Str.ofString "\x0d.", ⟨#[c / 160 / 18 % 256]⟩]
noncomputable def vals : List Str := [Str.ofString "", Str.ofString ".", Str.ofString "x", Str.ofString ".a: b", Str.ofString "\t", Str.ofString "a\n."]
noncomputable def ends : List Str := [Str.ofString "\n", Str.ofString "\x0d", Str.ofString "\x0d\n"]
noncomputable def dname (c : Nat) : Str := dotsN (c / 4 % 5) ++ (spells c).getD (c / 20 % 8) (ofl [])
noncomputable def dval (c : Nat) : Str := vals.getD (c / 160 % 6) (ofl [])
noncomputable def dend (c : Nat) : Str := ends.getD (c / 160 / 6 % 3) (ofl [])
noncomputable def deedP (c : Nat) : PV := .tup [natP (c % 4), .str (dname c), .str (dval c), .lit (dend c)]
noncomputable def DeedLaw (sp : FSpec) : Prop := ∀ (H : List PO) (c : Nat), c < 10 ^ 6 → ∃ X, sp [natP c] [] H = some (.ok (deedP c), H ++ X)
theorem PW.divN {n m : Nat} {σ : PS} {Q : PV → PS → Prop} (hm : m ≠ 0 ∧ m < 1000) (h : Q (natP (n / m)) σ) : PW (pDiv (natP n) (natP m)) σ Q := PW.guard (by lia) (by rw [show (n : Int).fdiv (m : Int) = ((n / m : Nat) : Int) from (Int.ofNat_fdiv n m).symm]; exact PW.pure h)
theorem PW.chr {n : Nat} {σ : PS} {Q : PV → PS → Prop} (hn : n ≤ 1000) (h : Q (.str ⟨#[n]⟩) σ) : PW (fChr [natP n]) σ Q := PW.guard (by lia) (PW.pure h)
theorem get_getD {α β : Type} {l : List α} {f : α → β} {d : α} {j : Nat} (h : j < l.length) : (l.map f)[j]? = some (f (l.getD j d)) := by
  rw [List.getElem?_map, List.getElem?_eq_getElem h]; simp [List.getD, List.getElem?_eq_getElem h]
theorem last_get (H : List PO) (o : PO) : (H ++ [o])[H.length]? = some o := by rw [List.getElem?_append_right (Nat.le_refl _), Nat.sub_self]; rfl
theorem spell_len (c : Nat) : ((spells c).getD (c / 20 % 8) (ofl [])).length ≤ 2 := by
  have h : ∀ s ∈ spells c, s.length ≤ 2 := by
    intro s hs
    unfold spells at hs
    simp only [List.mem_cons, List.not_mem_nil, or_false] at hs
    rcases hs with rfl | rfl | rfl | rfl | rfl | rfl | rfl | rfl <;> first | decide +kernel | exact Nat.le_succ 1
  have hm : c / 20 % 8 < (spells c).length := Nat.mod_lt _ (by decide)
  rw [List.getD_eq_getElem?_getD, List.getElem?_eq_getElem hm]
  exact h _ (List.getElem_mem hm)
section
variable {W : Wd} {P : Params} (hK : W.K = hd.heap_1 P) (hC : W.C = 201) (hCl : ClsOk W) (hP : PatsOk W PT)
include hK hC hCl hP
theorem m_deed : ∃ sp, CHolds W 1 (.ref 212) sp ∧ DeedLaw sp := by
  refine own_mk' (c_own (d := 0) (fd := ?fd) (body := ?body) (ns := ["cell"]) (p := ?p) ?D (bind_pos ?B) (fun _ _ _ _ _ h => pb0_names h) fun L => ?S) ?law
  case D => (refine ⟨⟨?_, ?h1, ?h2⟩, ?h3, ?h4, ?h5, ?h6, ?h7, ?h8, ?h9, ?h10, ?h11, ?h12, ?h13⟩; (case h1 => rw [‹Wd.K _ = hd.heap_1 _›]; rfl); (case h2 => rfl); (case h3 => rfl); (case h4 => rw [‹Wd.K _ = hd.heap_1 _›]; rfl); (case h5 => rfl); (case h6 => rfl); (case h7 => rfl); (case h8 => rfl); (case h9 => rfl); (case h10 => rfl); (case h11 => exact names_ok (by decide +kernel)); (case h12 => decide +kernel); (case h13 => decide +kernel))
  case B => exact bp1 fun a => by with_unfolding_all rfl
  case S => 
    refine' sb_as ?hT ?hE
    case hT => exact (b_cons (st_assign (s_div (e_name (by decide +kernel) (by decide +kernel)) e_int) (a_name (.inl rfl)) rfl rfl rfl) (b_cons (st_assign (s_item (s_list (ss_cons e_str (ss_cons e_str (ss_cons e_str (ss_cons e_str (ss_cons e_str (ss_cons e_str (ss_cons e_str (ss_cons (b_chr rfl (by rw [hK]; rfl) (ss_cons (s_mod (s_div (e_name (by decide +kernel) (by decide +kernel)) e_int) e_int) ss_nil rfl) rfl) ss_nil rfl) rfl) rfl) rfl) rfl) rfl) rfl) rfl)) (s_mod (s_div (e_name (by decide +kernel) (by decide +kernel)) e_int) e_int) (fun _ => (fun _ => rfl))) (a_name (.inl rfl)) rfl rfl rfl) (b_cons (st_assign (s_item (s_list (ss_cons e_str (ss_cons e_str (ss_cons e_str (ss_cons e_str (ss_cons e_str (ss_cons e_str ss_nil rfl) rfl) rfl) rfl) rfl) rfl)) (s_mod (e_name (by decide +kernel) (by decide +kernel)) e_int) (fun _ => (fun _ => rfl))) (a_name (.inl rfl)) rfl rfl rfl) (b_one (st_ret (s_tuple (ss_cons (s_mod (e_name (by decide +kernel) (by decide +kernel)) e_int) (ss_cons (s_add (s_mul e_str (s_mod (s_div (e_name (by decide +kernel) (by decide +kernel)) e_int) e_int)) (e_name (by decide +kernel) (by decide +kernel))) (ss_cons (e_name (by decide +kernel) (by decide +kernel)) (ss_cons (s_lits3 (s_mod (s_div (e_name (by decide +kernel) (by decide +kernel)) e_int) e_int) (fun _ => (fun _ => rfl))) ss_nil rfl) rfl) rfl) rfl)))))))
    case hE => exact rfl
  case law =>
    intro H c hc
    refine ⟨[.list ((spells c).map .str), .list (vals.map .str), .list (ends.map .lit)], PW.fspec (l := [("cell", natP c)]) (H₁ := H) rfl ?_⟩
    walk_at "p"
    refine PW.divN (m := 160) (by decide) ?_
    walk_at "p"
    refine PW.divN (m := 18) (by decide) ?_
    walk_at "p"
    refine PW.modN (m := 256) (by decide) ?_
    walk_at "p"
    refine PW.chr (by lia) ?_
    walk_at "p"
    refine PW.guard (by rw [sizeLine_eq]; simp) ?_
    walk_at "p"
    refine PW.divN (m := 20) (by decide) ?_
    walk_at "p"
    refine PW.modN (m := 8) (by decide) ?_
    walk_at "p"
    refine PW.itemN (l := (spells c).map .str) (last_get _ _) (get_getD (d := ofl []) (Nat.mod_lt _ (by decide))) (by lia) ?_
    walk_at "p"
    refine PW.guard (by rw [sizeLine_eq]; simp) ?_
    walk_at "p"
    refine PW.modN (m := 6) (by decide) ?_
    walk_at "p"
    refine PW.itemN (l := vals.map .str) (last_get _ _) (get_getD (d := ofl []) (Nat.mod_lt _ (by decide))) (by lia) ?_
    walk_at "p"
    refine PW.modN (m := 4) (by decide) ?_
    walk_at "p"
    refine PW.divN (m := 4) (by decide) ?_
    walk_at "p"
    refine PW.modN (m := 5) (by decide) ?_
    walk_at "p"
    refine PW.mulD (by lia) ?_
    walk_at "p"
    refine PW.addS (by have := spell_len c; rw [dots_len, sizeLine_eq]; lia) ?_
    walk_at "p"
    refine PW.divN (m := 6) (by decide) ?_
    walk_at "p"
    refine PW.modN (m := 3) (by decide) ?_
    walk_at "p"
    refine PW.itemN (l := ends.map .lit) (last_get _ _) (get_getD (d := ofl []) (Nat.mod_lt _ (by decide))) (by lia) ?_
    walk_at "p"
    refine PW.guard ⟨by rw [sizeLine_eq]; simp, rfl⟩ ?_
    walk_at "p"
    refine ⟨?_, .inl rfl⟩
    simp [List.append_assoc]
    exact ⟨rfl, rfl, rfl⟩
end
end

section
open PySem PySem.W PyProof.Rows PySem.Spec PySem.SeqAt PySem.Calls
set_option autoImplicit false
set_option linter.unusedVariables false
set_option linter.unusedSectionVars false
set_option maxRecDepth 100000
set_option tactic.hygienic false
noncomputable def Sml (l : List Nat) : Prop := ∀ y ∈ l, y < 256
noncomputable def lo (c : Nat) : Nat := (Unicode.lowerOf c).headD c
theorem lo_one : ∀ c < 256, Unicode.lowerOf c = [lo c] := by decide +kernel
theorem lo_dot : ∀ c < 256, (lo c == 46) = (c == 46) := by decide +kernel
theorem lo_PN : ∀ c < 256, PN (lo c) = PN c := by decide +kernel
theorem flat_one {α : Type} (f : α → Nat) : ∀ l : List α, (l.map fun c => [f c]).flatten = l.map f
  | [] => rfl
  | a :: l => by rw [List.map_cons, List.flatten_cons, flat_one f l]; rfl
theorem lower_cp {x : Str} (h : Sml (cp x)) : cp (Txt.lower x) = (cp x).map lo := by
  show ((x.cps.mapIdx fun i c => (Unicode.lowerAt x.cps i).toArray).flatten).toList = _
  rw [Array.toList_flatten, Array.toList_mapIdx, ← flat_one]
  congr 1
  apply List.ext_getElem
  · simp [cp]
  · intro i h1 h2
    have hi : i < x.cps.size := by simpa using h1
    have hc : x.cps[i] < 256 := h _ (by show x.cps[i] ∈ x.cps.toList; rw [Array.mem_toList_iff]; exact Array.getElem_mem hi)
    simp only [List.getElem_map, List.getElem_mapIdx, cp, Array.getElem_toList]
    unfold Unicode.lowerAt
    rw [Array.getElem?_eq_getElem hi]
    have e : (x.cps[i] == 0x3A3) = false := by
      have : x.cps[i] ≠ 0x3A3 := fun e => by lia
      simpa using this
    simp only [e, Bool.false_and]
    exact lo_one _ hc
theorem any_lo : ∀ {l : List Nat}, Sml l → (l.map lo).any PN = l.any PN
  | [], _ => rfl
  | c :: l, h => by
    rw [List.map_cons, List.any_cons, List.any_cons, lo_PN c (h c List.mem_cons_self), any_lo fun y m => h y (List.mem_cons_of_mem _ m)]
theorem hasN_lower {x : Str} (h : Sml (cp x)) : hasN (Txt.lower x) = hasN x := by
  show (cp (Txt.lower x)).any PN = (cp x).any PN
  rw [lower_cp h, any_lo h]
theorem nameLen_of {x : Str} (h : x.length ≤ 400) : nameLen x = true := by
  have := len_lower x
  unfold nameLen
  rw [Bool.and_eq_true, decide_eq_true_eq, decide_eq_true_eq]
  lia
noncomputable def phiL (m : Nat) (l : List Nat) : List Nat := if l.head? = some 46 then List.replicate m 46 ++ l else l
noncomputable def phi (m : Nat) (n : Str) : Str := ofl (phiL m (cp n))
theorem cp_phi (m : Nat) (n : Str) : cp (phi m n) = phiL m (cp n) := cp_ofl _
theorem phiL_zero (l : List Nat) : phiL 0 l = l := by unfold phiL; split <;> rfl
theorem phi_zero (n : Str) : phi 0 n = n := by unfold phi; rw [phiL_zero, ofl_cp]
set_option tactic.hygienic true in
theorem phiL_dot (m : Nat) : ∀ l, phiL m (dotL l) = phiL (m + 1) l
  | [] => rfl
  | c :: l => by
    by_cases hc : c = 46
    · subst hc
      show List.replicate m 46 ++ 46 :: 46 :: l = List.replicate (m + 1) 46 ++ 46 :: l
      rw [List.replicate_succ', List.append_assoc]; rfl
    · have e : dotL (c :: l) = c :: l := by
        unfold dotL
        split
        · rename_i e; cases e; exact absurd rfl hc
        · rfl
      have hh : ¬ (c :: l).head? = some 46 := fun z => hc (Option.some.inj z)
      rw [e]; unfold phiL; rw [if_neg hh, if_neg hh]
theorem phi_dot (m : Nat) (n : Str) : phi m (dotStr n) = phi (m + 1) n := by
  unfold phi dotStr
  rw [cp_ofl, phiL_dot]
theorem any_phi (m : Nat) (l : List Nat) : (phiL m l).any PN = l.any PN := by
  unfold phiL
  split
  · rw [List.any_append, show (List.replicate m 46).any PN = false by rw [List.any_eq_false]; intro x hx; rw [List.eq_of_mem_replicate hx]; decide]; rfl
  · rfl
theorem hasN_phi (m : Nat) (n : Str) : hasN (phi m n) = hasN n := by
  show (cp (phi m n)).any PN = _
  rw [cp_phi, any_phi]; rfl
theorem sml_phi {m : Nat} {l : List Nat} (h : Sml l) : Sml (phiL m l) := by
  unfold phiL
  split
  · intro y hy
    rcases List.mem_append.mp hy with hy | hy
    · rw [List.eq_of_mem_replicate hy]; decide
    · exact h y hy
  · exact h
theorem len_phi (m : Nat) (l : List Nat) : (phiL m l).length ≤ m + l.length := by
  unfold phiL
  split
  · rw [List.length_append, List.length_replicate]; exact Nat.le_refl _
  · lia
theorem lo_phi {m : Nat} {l : List Nat} (h : Sml l) : (phiL m l).map lo = phiL m (l.map lo) := by
  have e : ((l.map lo).head? = some 46) ↔ (l.head? = some 46) := by
    cases l with
    | nil => exact Iff.rfl
    | cons c l =>
      have := lo_dot c (h c List.mem_cons_self)
      rw [List.map_cons, List.head?_cons, List.head?_cons, Option.some.injEq, Option.some.injEq, ← beq_iff_eq (a := lo c), ← beq_iff_eq (a := c), this]
  unfold phiL
  by_cases hh : l.head? = some 46
  · rw [if_pos hh, if_pos (e.mpr hh), List.map_append, List.map_replicate]; rfl
  · rw [if_neg hh, if_neg fun z => hh (e.mp z)]
theorem head_phi (m : Nat) {l : List Nat} (h : l.head? = some 46) : (List.replicate m 46 ++ l).head? = some 46 := by
  cases m with
  | zero => exact h
  | succ m => rfl
theorem phiL_inj {m : Nat} {a b : List Nat} : phiL m a = phiL m b ↔ a = b := by
  refine ⟨fun h => ?_, fun h => by rw [h]⟩
  unfold phiL at h
  by_cases ha : a.head? = some 46 <;> by_cases hb : b.head? = some 46
  · rw [if_pos ha, if_pos hb] at h
    exact List.append_cancel_left h
  · rw [if_pos ha, if_neg hb] at h
    exact absurd (h ▸ head_phi m ha) hb
  · rw [if_neg ha, if_pos hb] at h
    exact absurd (h ▸ head_phi m hb) ha
  · rw [if_neg ha, if_neg hb] at h
    exact h
theorem cp_inj {x y : Str} : cp x = cp y ↔ x = y := ⟨fun h => by rw [← ofl_cp x, h, ofl_cp], fun h => by rw [h]⟩
theorem lower_phi {m : Nat} {x y : Str} (hx : Sml (cp x)) (hy : Sml (cp y)) : (Txt.lower (phi m x) == Txt.lower (phi m y)) = (Txt.lower x == Txt.lower y) := by
  have e : (Txt.lower (phi m x) = Txt.lower (phi m y)) ↔ (Txt.lower x = Txt.lower y) := by
    rw [← cp_inj, ← cp_inj, lower_cp hx, lower_cp hy, lower_cp (x := phi m x) (by rw [cp_phi]; exact sml_phi hx), lower_cp (x := phi m y) (by rw [cp_phi]; exact sml_phi hy), cp_phi, cp_phi, lo_phi hx, lo_phi hy, phiL_inj]
  rw [Bool.eq_iff_iff, beq_iff_eq, beq_iff_eq]
  exact e
noncomputable def phiRow (m : Nat) (r : Str × Str) : Str × Str := (phi m r.1, r.2)
noncomputable def SmlR (rows : Rows) : Prop := ∀ r ∈ rows, Sml (cp r.1)
theorem find_phi {m : Nat} {n : Str} (hn : Sml (cp n)) : ∀ {rows : Rows}, SmlR rows → findRow (rows.map (phiRow m)) (phi m n) = (findRow rows n).map (phiRow m)
  | [], _ => rfl
  | r :: rows, h => by
    have e : (Txt.lower (phi m r.1) == Txt.lower (phi m n)) = (Txt.lower r.1 == Txt.lower n) := lower_phi (h r List.mem_cons_self) hn
    have ih := find_phi (m := m) hn (rows := rows) fun x hx => h x (List.mem_cons_of_mem _ hx)
    unfold findRow at ih ⊢
    rw [List.map_cons, List.find?_cons, List.find?_cons]
    show (match Txt.lower (phi m r.1) == Txt.lower (phi m n) with | true => _ | false => _) = _
    rw [e]
    cases Txt.lower r.1 == Txt.lower n with
    | true => rfl
    | false => exact ih
theorem kept_phi {m : Nat} {n : Str} (hn : Sml (cp n)) : ∀ {rows : Rows}, SmlR rows → kept (rows.map (phiRow m)) (phi m n) = (kept rows n).map (phiRow m)
  | [], _ => rfl
  | r :: rows, h => by
    have e : (Txt.lower (phi m r.1) == Txt.lower (phi m n)) = (Txt.lower r.1 == Txt.lower n) := lower_phi (h r List.mem_cons_self) hn
    have ih := kept_phi (m := m) hn (rows := rows) fun x hx => h x (List.mem_cons_of_mem _ hx)
    unfold kept at ih ⊢
    rw [List.map_cons, List.filter_cons, List.filter_cons, ih]
    show (if (!(Txt.lower (phi m r.1) == Txt.lower (phi m n))) = true then _ else _) = List.map (phiRow m) (if (!(Txt.lower r.1 == Txt.lower n)) = true then _ else _)
    rw [e]
    cases Txt.lower r.1 == Txt.lower n <;> rfl
theorem deed_bad {k : Nat} {n v : Str} {rows : Rows} (h : hasN n = true) : deedR k n v rows = (none, rows) := by
  match k with
  | 0 => exact if_pos h
  | 1 => exact if_pos h
  | 2 => exact if_pos h
  | k + 3 => exact if_pos h
theorem deed0 {n v : Str} {rows : Rows} (h : hasN n = false) : deedR 0 n v rows = if hasV v = true then (none, kept rows n) else (some doneS, kept rows n ++ [(n, v)]) := if_neg (by rw [h]; decide)
theorem deed1 {n v : Str} {rows : Rows} (h : hasN n = false) : deedR 1 n v rows = match findRow rows n with
    | some r => (some r.2, rows)
    | none => if hasV v = true then (none, rows) else (some v, rows ++ [(n, v)]) := if_neg (by rw [h]; decide)
theorem deed2 {n v : Str} {rows : Rows} (h : hasN n = false) : deedR 2 n v rows = if hasV v = true then (none, rows) else (some doneS, rows ++ [(n, v ++ suf)]) := if_neg (by rw [h]; decide)
theorem deed3 {k : Nat} {n v : Str} {rows : Rows} (h : hasN n = false) : deedR (k + 3) n v rows = (some doneS, kept rows n) := if_neg (by rw [h]; decide)
theorem deed_phi {m k : Nat} {n v : Str} {rows : Rows} (hn : Sml (cp n)) (hr : SmlR rows) : deedR k (phi m n) v (rows.map (phiRow m)) = ((deedR k n v rows).1, (deedR k n v rows).2.map (phiRow m)) := by
  cases hN : hasN n with
  | true => rw [deed_bad hN, deed_bad (by rw [hasN_phi, hN])]
  | false =>
    have hN' : hasN (phi m n) = false := by rw [hasN_phi, hN]
    match k with
    | 0 =>
      rw [deed0 hN, deed0 hN', kept_phi hn hr]
      cases hasV v <;> simp [phiRow]
    | 1 =>
      rw [deed1 hN, deed1 hN', find_phi hn hr]
      cases findRow rows n <;> cases hasV v <;> simp [phiRow]
    | 2 =>
      rw [deed2 hN, deed2 hN']
      cases hasV v <;> simp [phiRow]
    | k + 3 =>
      rw [deed3 hN, deed3 hN', kept_phi hn hr]
end

section
open PySem PySem.W PyProof.Rows PySem.Spec PySem.SeqAt PySem.Calls
set_option autoImplicit false
set_option linter.unusedVariables false
set_option linter.unusedSectionVars false
set_option maxRecDepth 100000
set_option tactic.hygienic false
theorem name_form (c : Nat) : ∃ t : List Nat, cp (dname c) = List.replicate (c / 4 % 5) 46 ++ t ∧ ((∃ x < 256, t = [x]) ∨ t = [] ∨ t = [13, 46]) := by
  have hm : c / 20 % 8 < (spells c).length := Nat.mod_lt _ (by decide)
  have hs : (spells c).getD (c / 20 % 8) (ofl []) ∈ spells c := by
    rw [List.getD_eq_getElem?_getD, List.getElem?_eq_getElem hm]
    exact List.getElem_mem hm
  refine ⟨cp ((spells c).getD (c / 20 % 8) (ofl [])), ?_, ?_⟩
  · unfold dname
    rw [cp_app]
    exact congrArg (· ++ _) (cp_ofl _)
  · generalize (spells c).getD (c / 20 % 8) (ofl []) = s at hs
    unfold spells at hs
    simp only [List.mem_cons, List.not_mem_nil, or_false] at hs
    rcases hs with rfl | rfl | rfl | rfl | rfl | rfl | rfl | rfl
    · exact .inl ⟨97, by decide, by decide +kernel⟩
    · exact .inl ⟨65, by decide, by decide +kernel⟩
    · exact .inl ⟨98, by decide, by decide +kernel⟩
    · exact .inr (.inl (by decide +kernel))
    · exact .inl ⟨97, by decide, by decide +kernel⟩
    · exact .inl ⟨65, by decide, by decide +kernel⟩
    · exact .inr (.inr (by decide +kernel))
    · exact .inl ⟨_, Nat.mod_lt _ (by decide), rfl⟩
theorem sml_app {a b : List Nat} (ha : Sml a) (hb : Sml b) : Sml (a ++ b) := fun y hy => (List.mem_append.mp hy).elim (ha y) (hb y)
theorem sml_dots (k : Nat) : Sml (List.replicate k 46) := fun y hy => by rw [List.eq_of_mem_replicate hy]; decide
theorem name_len (c : Nat) : (dname c).length ≤ 6 := by
  obtain ⟨t, e, h⟩ := name_form c
  have hk : c / 4 % 5 < 5 := Nat.mod_lt _ (by decide)
  have ht : t.length ≤ 2 := by
    rcases h with ⟨x, _, rfl⟩ | rfl | rfl
    · exact Nat.le_succ 1
    · exact Nat.zero_le _
    · exact Nat.le_refl _
  rw [← cp_len, e, List.length_append, List.length_replicate]
  lia
theorem name_sml (c : Nat) : Sml (cp (dname c)) := by
  obtain ⟨t, e, h⟩ := name_form c
  rw [e]
  refine sml_app (sml_dots _) ?_
  rcases h with ⟨x, hx, rfl⟩ | rfl | rfl
  · intro y hy; rw [List.mem_singleton.mp hy]; exact hx
  · intro y hy; cases hy
  · intro y hy; simp at hy; lia
theorem cs_one : ∀ k < 5, ∀ x < 256, noCS (List.replicate k 46 ++ [x]) = true := by decide +kernel
theorem cs_nil : ∀ k < 5, noCS (List.replicate k 46 ++ []) = true := by decide +kernel
theorem bad_cr : ∀ k < 5, (List.replicate k 46 ++ [13, 46]).any PN = true := by decide +kernel
theorem name_cs {c : Nat} (hN : hasN (dname c) = false) : noCS (cp (dname c)) = true := by
  obtain ⟨t, e, h⟩ := name_form c
  have hk : c / 4 % 5 < 5 := Nat.mod_lt _ (by decide)
  have hN : (cp (dname c)).any PN = false := hN
  rw [e] at hN ⊢
  rcases h with ⟨x, hx, rfl⟩ | rfl | rfl
  · exact cs_one _ hk x hx
  · exact cs_nil _ hk
  · rw [bad_cr _ hk] at hN; cases hN
theorem val_mem (c : Nat) : dval c ∈ vals := by
  have hm : c / 160 % 6 < vals.length := Nat.mod_lt _ (by decide)
  unfold dval
  rw [List.getD_eq_getElem?_getD, List.getElem?_eq_getElem hm]
  exact List.getElem_mem hm
theorem val_ok : ∀ v ∈ vals, v.length ≤ 10 ∧ (v ++ suf).length ≤ 20 ∧ hasV (v ++ suf) = hasV v := by decide +kernel
theorem end_ok (c : Nat) : EndOk (dend c) := by
  have hm : c / 160 / 6 % 3 < ends.length := Nat.mod_lt _ (by decide)
  have h : dend c ∈ ends := by
    unfold dend
    rw [List.getD_eq_getElem?_getD, List.getElem?_eq_getElem hm]
    exact List.getElem_mem hm
  generalize dend c = e at h
  unfold ends at h
  simp only [List.mem_cons, List.not_mem_nil, or_false] at h
  rcases h with rfl | rfl | rfl
  · exact ⟨.inl (by decide +kernel)⟩
  · exact ⟨.inr (.inl (by decide +kernel))⟩
  · exact ⟨.inr (.inr (by decide +kernel))⟩
structure GoodR (a b : Nat) (rows : Rows) : Prop where
  len : rows.length ≤ a
  all : ∀ r ∈ rows, r.1.length ≤ b ∧ r.2.length ≤ 20 ∧ hasN r.1 = false ∧ hasV r.2 = false ∧ noCS (cp r.1) = true ∧ Sml (cp r.1)
theorem GoodR.rowsS {a b : Nat} {rows : Rows} (h : GoodR a b rows) (ha : a ≤ 40) (hb : b ≤ 400) : RowsS rows :=
  ⟨Nat.le_trans h.len ha, fun r hr => by obtain ⟨h1, h2, h3, h4, h5, _⟩ := h.all r hr; exact ⟨Nat.le_trans h1 hb, Nat.le_trans h2 (by decide), h3, h4, h5⟩⟩
theorem GoodR.sml {a b : Nat} {rows : Rows} (h : GoodR a b rows) : SmlR rows := fun r hr => (h.all r hr).2.2.2.2.2
theorem GoodR.more {a b : Nat} {rows rs : Rows} {n v : Str} (h : GoodR a b rows) (hs : ∀ r ∈ rs, r ∈ rows) (hl : rs.length ≤ a) (hn : n.length ≤ b) (hN : hasN n = false) (hc : noCS (cp n) = true) (hm : Sml (cp n)) (hv : v.length ≤ 20) (hV : hasV v = false) : GoodR (a + 1) b (rs ++ [(n, v)]) := by
  refine ⟨by rw [List.length_append]; exact Nat.succ_le_succ hl, fun r hr => ?_⟩
  rcases List.mem_append.mp hr with hr | hr
  · exact h.all r (hs r hr)
  · rw [List.mem_singleton.mp hr]; exact ⟨hn, hv, hN, hV, hc, hm⟩
theorem GoodR.sub {a b : Nat} {rows rs : Rows} (h : GoodR a b rows) (hs : ∀ r ∈ rs, r ∈ rows) (hl : rs.length ≤ a) : GoodR (a + 1) b rs := ⟨Nat.le_succ_of_le hl, fun r hr => h.all r (hs r hr)⟩
theorem kept_sub {rows : Rows} {n : Str} : (∀ r ∈ kept rows n, r ∈ rows) ∧ (kept rows n).length ≤ rows.length := ⟨fun r hr => (List.mem_filter.mp hr).1, List.length_filter_le _ _⟩
theorem deed_good {a b k : Nat} {n v : Str} {rows : Rows} (h : GoodR a b rows) (hn : n.length ≤ b) (hm : Sml (cp n)) (hc : hasN n = false → noCS (cp n) = true) (hv : v ∈ vals) : GoodR (a + 1) b (deedR k n v rows).2 := by
  have same : GoodR (a + 1) b rows := h.sub (fun _ m => m) h.len
  have hk : GoodR (a + 1) b (kept rows n) := h.sub kept_sub.1 (Nat.le_trans kept_sub.2 h.len)
  obtain ⟨v1, v2, v3⟩ := val_ok v hv
  cases hN : hasN n with
  | true => rw [deed_bad hN]; exact same
  | false =>
    have hcs := hc hN
    match k with
    | 0 =>
      rw [deed0 hN]
      cases hV : hasV v with
      | true => exact hk
      | false => exact h.more kept_sub.1 (Nat.le_trans kept_sub.2 h.len) hn hN hcs hm (Nat.le_trans v1 (by decide)) hV
    | 1 =>
      rw [deed1 hN]
      cases findRow rows n with
      | some r => exact same
      | none =>
        cases hV : hasV v with
        | true => exact same
        | false => exact h.more (fun _ m => m) h.len hn hN hcs hm (Nat.le_trans v1 (by decide)) hV
    | 2 =>
      rw [deed2 hN]
      cases hV : hasV v with
      | true => exact same
      | false => exact h.more (fun _ m => m) h.len hn hN hcs hm v2 (v3.trans hV)
    | k + 3 => rw [deed3 hN]; exact hk
theorem dotL_phi (l : List Nat) : dotL l = phiL 1 l := by
  have := phiL_dot 0 l
  rwa [phiL_zero] at this
theorem sent_good {a b : Nat} {rows : Rows} (h : GoodR a b rows) : GoodR a (b + 1) (rows.map sentRow) := by
  refine ⟨by rw [List.length_map]; exact h.len, fun r hr => ?_⟩
  obtain ⟨r, hr2, rfl⟩ := List.mem_map.mp hr
  obtain ⟨h1, h2, h3, h4, h5, h6⟩ := h.all r hr2
  have e : cp (sentRow r).1 = phiL 1 (cp r.1) := by show cp (ofl (dotL (cp r.1))) = _; rw [cp_ofl, dotL_phi]
  refine ⟨?_, h2, ?_, h4, ?_, ?_⟩
  · have := len_phi 1 (cp r.1)
    rw [← cp_len, e]
    rw [cp_len] at this
    lia
  · show (cp (sentRow r).1).any PN = false
    rw [e, any_phi]; exact h3
  · show noCS (cp (ofl (dotL (cp r.1)))) = true
    rw [cp_ofl]; exact noCS_dot _ h5
  · rw [e]; exact sml_phi h6
noncomputable def wayD (s : Rows × List Str) (c : Nat) : Option Str × Rows := deedR (c % 4) (dname c) (dval c) s.1
noncomputable def wayS (cs : List Nat) : Nat → Rows × List Str
  | 0 => ([], [])
  | j + 1 => ((wayD (wayS cs j) (cs.getD j 0)).2.map sentRow, (wayS cs j).2 ++ [(wayD (wayS cs j) (cs.getD j 0)).1.getD refS])
theorem way_good (cs : List Nat) : ∀ j, GoodR j (6 + j) (wayS cs j).1 ∧ GoodR (j + 1) (6 + j) (wayD (wayS cs j) (cs.getD j 0)).2 := by
  have k : ∀ j, GoodR j (6 + j) (wayS cs j).1 → GoodR (j + 1) (6 + j) (wayD (wayS cs j) (cs.getD j 0)).2 := fun j h =>
    deed_good h (Nat.le_trans (name_len _) (Nat.le_add_right _ _)) (name_sml _) name_cs (val_mem _)
  intro j
  induction j with
  | zero => have z : GoodR 0 (6 + 0) (wayS cs 0).1 := ⟨Nat.le_refl _, fun r hr => by cases hr⟩; exact ⟨z, k 0 z⟩
  | succ j ih => have z : GoodR (j + 1) (6 + (j + 1)) (wayS cs (j + 1)).1 := sent_good ih.2; exact ⟨z, k _ z⟩
theorem way_ans (cs : List Nat) : ∀ j, (wayS cs j).2.length = j
  | 0 => rfl
  | j + 1 => by
    show ((wayS cs j).2 ++ [_]).length = _
    rw [List.length_append, way_ans cs j]; rfl
noncomputable def tS (N : Nat) (cs : List Nat) : Nat → Rows × List Str
  | 0 => ([], [])
  | j + 1 => ((deedR (cs.getD j 0 % 4) (phi (N - j) (dname (cs.getD j 0))) (dval (cs.getD j 0)) (tS N cs j).1).2, (tS N cs j).2 ++ [(deedR (cs.getD j 0 % 4) (phi (N - j) (dname (cs.getD j 0))) (dval (cs.getD j 0)) (tS N cs j).1).1.getD refS])
theorem tS_way {N : Nat} {cs : List Nat} : ∀ {j : Nat}, j ≤ N → tS N cs j = ((wayS cs j).1.map (phiRow (N - j)), (wayS cs j).2)
  | 0, _ => rfl
  | j + 1, h => by
    have ih := tS_way (N := N) (cs := cs) (j := j) (by lia)
    have g := (way_good cs j).1.sml
    have e := deed_phi (m := N - j) (k := cs.getD j 0 % 4) (v := dval (cs.getD j 0)) (name_sml (cs.getD j 0)) g
    have e2 : N - j = N - (j + 1) + 1 := by lia
    have e3 : ∀ rows : Rows, (rows.map sentRow).map (phiRow (N - (j + 1))) = rows.map (phiRow (N - j)) := fun rows => by
      rw [List.map_map]
      refine List.map_congr_left fun r _ => ?_
      show (phi (N - (j + 1)) (dotStr r.1), r.2) = (phi (N - j) r.1, r.2)
      rw [phi_dot, ← e2]
    show ((deedR _ (phi (N - j) (dname (cs.getD j 0))) (dval (cs.getD j 0)) (tS N cs j).1).2, (tS N cs j).2 ++ [(deedR _ (phi (N - j) (dname (cs.getD j 0))) (dval (cs.getD j 0)) (tS N cs j).1).1.getD refS]) = _
    rw [ih]
    dsimp only
    rw [e]
    exact Prod.ext (e3 _).symm rfl
theorem tS_end {N : Nat} {cs : List Nat} : tS N cs N = wayS cs N := by
  rw [tS_way (Nat.le_refl N), Nat.sub_self]
  refine Prod.ext ?_ rfl
  have : phiRow 0 = id := by funext r; show (phi 0 r.1, r.2) = r; rw [phi_zero]
  show (wayS cs N).1.map (phiRow 0) = _
  rw [this, List.map_id]
noncomputable def qd (x : Str) : Str := dots (norm x)
noncomputable def qdT : Nat → Str → Str
  | 0, x => x
  | m + 1, x => qd (qdT m x)
noncomputable def qdL (l : List Nat) : List Nat := dotsS true (normS false l)
noncomputable def qdTL : Nat → List Nat → List Nat
  | 0, l => l
  | m + 1, l => qdL (qdTL m l)
theorem cp_qd (x : Str) : cp (qd x) = qdL (cp x) := rfl
theorem cp_qdT (x : Str) : ∀ m, cp (qdT m x) = qdTL m (cp x)
  | 0 => rfl
  | m + 1 => by show cp (qd (qdT m x)) = _; rw [cp_qd, cp_qdT x m]; rfl
theorem norm_id : ∀ {b : Bool} {l : List Nat}, 13 ∉ l → 10 ∉ l → normS b l = l
  | _, [], _, _ => rfl
  | b, c :: l, h1, h2 => by
    have e1 : c ≠ 13 := fun e => h1 (by rw [e]; exact List.mem_cons_self)
    have e2 : c ≠ 10 := fun e => h2 (by rw [e]; exact List.mem_cons_self)
    unfold normS
    rw [if_neg e1, if_neg e2, norm_id (fun m => h1 (List.mem_cons_of_mem _ m)) fun m => h2 (List.mem_cons_of_mem _ m)]
theorem dots_id {l : List Nat} (h : 10 ∉ l) : dotsS false l = l := by
  have := dotsS_app l [] h
  simpa [dotsS] using this
set_option tactic.hygienic true in
theorem qdL_id {l : List Nat} (h1 : 13 ∉ l) (h2 : 10 ∉ l) : qdL l = dotL l := by
  unfold qdL
  rw [norm_id h1 h2]
  cases l with
  | nil => rfl
  | cons c l =>
    have h3 : 10 ∉ l := fun m => h2 (List.mem_cons_of_mem _ m)
    have e2 : c ≠ 10 := fun e => h2 (by rw [e]; exact List.mem_cons_self)
    unfold dotsS
    by_cases hc : c = 46
    · subst hc
      rw [if_pos (by decide), dots_id h3]; rfl
    · have e : (true && c == 46) = false := by simpa using hc
      rw [e, if_neg (by decide), show (c == 10) = false by simpa using e2, dots_id h3]
      unfold dotL
      split
      · rename_i e; cases e; exact absurd rfl hc
      · rfl
theorem phi_mem {m x : Nat} {l : List Nat} (hx : x ≠ 46) (h : x ∉ l) : x ∉ phiL m l := by
  unfold phiL
  split
  · intro hm
    rcases List.mem_append.mp hm with hm | hm
    · exact hx (List.eq_of_mem_replicate hm)
    · exact h hm
  · exact h
theorem dot_phi (m : Nat) (l : List Nat) : dotL (phiL m l) = phiL (m + 1) l := by
  rw [dotL_phi]
  unfold phiL
  by_cases h : l.head? = some 46
  · rw [if_pos h, if_pos (head_phi m h), if_pos h, ← List.append_assoc, List.replicate_append_replicate, Nat.add_comm]
  · rw [if_neg h, if_neg h, if_neg h]
theorem qdTL_phi {l : List Nat} (h1 : 13 ∉ l) (h2 : 10 ∉ l) : ∀ m, qdTL m l = phiL m l
  | 0 => (phiL_zero l).symm
  | m + 1 => by
    show qdL (qdTL m l) = _
    rw [qdTL_phi h1 h2 m, qdL_id (phi_mem (by decide) h1) (phi_mem (by decide) h2), dot_phi]
theorem qd_bad : ∀ k < 5, ∀ t ∈ [[13], [10], [13, 46]], ∀ m < 8, (qdTL m (List.replicate k 46 ++ t)).length ≤ 60 ∧ (qdTL m (List.replicate k 46 ++ t)).all (fun y => decide (y < 256)) = true ∧ (qdTL m (List.replicate k 46 ++ t)).any PN = true ∧ (List.replicate k 46 ++ t).any PN = true := by decide +kernel
theorem not_dots {x k : Nat} (hx : x ≠ 46) : x ∉ List.replicate k 46 := fun m => hx (List.eq_of_mem_replicate m)
theorem qdT_ok (c m : Nat) (hm : m < 8) : Sml (cp (qdT m (dname c))) ∧ (qdT m (dname c)).length ≤ 60 ∧ hasN (qdT m (dname c)) = hasN (dname c) ∧ (hasN (dname c) = false → qdT m (dname c) = phi m (dname c)) := by
  obtain ⟨t, e, h⟩ := name_form c
  have hk : c / 4 % 5 < 5 := Nat.mod_lt _ (by decide)
  by_cases hn : 13 ∉ cp (dname c) ∧ 10 ∉ cp (dname c)
  · have z : qdT m (dname c) = phi m (dname c) := by
      rw [← cp_inj, cp_qdT, cp_phi, qdTL_phi hn.1 hn.2]
    rw [z]
    refine ⟨by rw [cp_phi]; exact sml_phi (name_sml c), ?_, hasN_phi _ _, fun _ => rfl⟩
    have h1 := len_phi m (cp (dname c))
    have h2 := name_len c
    rw [← cp_len, cp_phi]
    rw [cp_len] at h1
    lia
  · have ht : t ∈ [[13], [10], [13, 46]] := by
      rw [e] at hn
      rcases h with ⟨x, _, rfl⟩ | rfl | rfl
      · by_cases h1 : x = 13
        · subst h1; decide
        · by_cases h2 : x = 10
          · subst h2; decide
          · refine absurd ⟨fun m => ?_, fun m => ?_⟩ hn
            · rcases List.mem_append.mp m with m | m
              · exact not_dots (by decide) m
              · exact h1 (List.mem_singleton.mp m).symm
            · rcases List.mem_append.mp m with m | m
              · exact not_dots (by decide) m
              · exact h2 (List.mem_singleton.mp m).symm
      · refine absurd ⟨fun m => ?_, fun m => ?_⟩ hn
        · rcases List.mem_append.mp m with m | m
          · exact not_dots (by decide) m
          · cases m
        · rcases List.mem_append.mp m with m | m
          · exact not_dots (by decide) m
          · cases m
      · decide
    obtain ⟨b1, b2, b3, b4⟩ := qd_bad _ hk t ht m hm
    rw [← e] at b1 b2 b3 b4
    have hb : hasN (dname c) = true := b4
    refine ⟨?_, ?_, ?_, fun h => by rw [hb] at h; cases h⟩
    · rw [cp_qdT]; exact fun y hy => of_decide_eq_true (List.all_eq_true.mp b2 y hy)
    · rw [← cp_len, cp_qdT]; exact b1
    · rw [hb]; show (cp (qdT m (dname c))).any PN = true; rw [cp_qdT]; exact b3
noncomputable def eS (N : Nat) (cs : List Nat) : Nat → Rows × List Str
  | 0 => ([], [])
  | j + 1 => ((deedR (cs.getD j 0 % 4) (qdT (N - j) (dname (cs.getD j 0))) (dval (cs.getD j 0)) (eS N cs j).1).2, (eS N cs j).2 ++ [(deedR (cs.getD j 0 % 4) (qdT (N - j) (dname (cs.getD j 0))) (dval (cs.getD j 0)) (eS N cs j).1).1.getD refS])
theorem eS_tS {N : Nat} {cs : List Nat} (hN : N < 8) : ∀ j, eS N cs j = tS N cs j
  | 0 => rfl
  | j + 1 => by
    have ih := eS_tS (cs := cs) hN j
    obtain ⟨_, _, q3, q4⟩ := qdT_ok (cs.getD j 0) (N - j) (by lia)
    have e : deedR (cs.getD j 0 % 4) (qdT (N - j) (dname (cs.getD j 0))) (dval (cs.getD j 0)) (eS N cs j).1 = deedR (cs.getD j 0 % 4) (phi (N - j) (dname (cs.getD j 0))) (dval (cs.getD j 0)) (tS N cs j).1 := by
      rw [ih]
      cases hb : hasN (dname (cs.getD j 0)) with
      | true => rw [deed_bad (by rw [q3, hb]), deed_bad (by rw [hasN_phi, hb])]
      | false => rw [q4 hb]
    show ((deedR _ (qdT (N - j) (dname (cs.getD j 0))) (dval (cs.getD j 0)) (eS N cs j).1).2, (eS N cs j).2 ++ [(deedR _ (qdT (N - j) (dname (cs.getD j 0))) (dval (cs.getD j 0)) (eS N cs j).1).1.getD refS]) = _
    rw [e, ih]; rfl
theorem phiRow_good {a b m : Nat} {rows : Rows} (h : GoodR a b rows) : ∀ r ∈ rows.map (phiRow m), r.1.length ≤ m + b ∧ r.2.length ≤ 20 ∧ hasN r.1 = false ∧ Sml (cp r.1) := by
  intro r hr
  obtain ⟨r, hr2, rfl⟩ := List.mem_map.mp hr
  obtain ⟨h1, h2, h3, h4, h5, h6⟩ := h.all r hr2
  refine ⟨?_, h2, (hasN_phi m r.1).trans h3, ?_⟩
  · have := len_phi m (cp r.1)
    show (phi m r.1).length ≤ m + b
    rw [← cp_len, cp_phi]
    rw [cp_len] at this
    lia
  · show Sml (cp (phi m r.1))
    rw [cp_phi]; exact sml_phi h6
theorem tS_ok {N j : Nat} {cs : List Nat} (hN : N < 8) (hj : j ≤ N) : (tS N cs j).1.length ≤ j ∧ ∀ r ∈ (tS N cs j).1, r.1.length ≤ 40 ∧ r.2.length ≤ 20 ∧ hasN r.1 = false ∧ Sml (cp r.1) := by
  have g := (way_good cs j).1
  rw [tS_way hj]
  refine ⟨by rw [List.length_map]; exact g.len, fun r hr => ?_⟩
  obtain ⟨h1, h2⟩ := phiRow_good g r hr
  exact ⟨by lia, h2⟩
theorem rowsOk_of {rows : Rows} {a : Nat} (ha : a ≤ 50) (h : rows.length ≤ a) (h2 : ∀ r ∈ rows, r.1.length ≤ 40 ∧ r.2.length ≤ 20) : rowsOk rows = true := by
  unfold rowsOk
  rw [Bool.and_eq_true, decide_eq_true_eq, List.all_eq_true]
  refine ⟨by lia, fun r hr => ?_⟩
  obtain ⟨h3, h4⟩ := h2 r hr
  unfold rowOk
  rw [Bool.and_eq_true, decide_eq_true_eq, decide_eq_true_eq]
  lia
theorem norm_len : ∀ (b : Bool) (l : List Nat), (normS b l).length ≤ 2 * l.length
  | _, [] => Nat.le_refl _
  | b, c :: l => by
    have h1 := norm_len true l
    have h2 := norm_len false l
    unfold normS
    rw [List.length_cons]
    split
    · simp only [List.length_cons]; lia
    · split
      · split
        · lia
        · simp only [List.length_cons]; lia
      · simp only [List.length_cons]; lia
theorem norm_le (x : Str) : (norm x).length ≤ 2 * x.length := by
  have := norm_len false (cp x)
  rw [cp_len] at this
  rw [← cp_len]
  exact this
theorem eS_ok {cs : List Nat} {j : Nat} (hN : cs.length < 8) (hj : j ≤ cs.length) : (eS cs.length cs j).1.length ≤ j ∧ rowsOk (eS cs.length cs j).1 = true := by
  rw [eS_tS hN]
  obtain ⟨h1, h2⟩ := tS_ok (cs := cs) hN hj
  exact ⟨h1, rowsOk_of (a := 50) (Nat.le_refl _) (by lia) fun r hr => ⟨(h2 r hr).1, (h2 r hr).2.1⟩⟩
theorem eS_ans (N : Nat) (cs : List Nat) : ∀ j, (eS N cs j).2.length = j
  | 0 => rfl
  | j + 1 => by
    show ((eS N cs j).2 ++ [_]).length = _
    rw [List.length_append, eS_ans N cs j]; rfl
theorem eS_end {cs : List Nat} (hN : cs.length < 8) : eS cs.length cs cs.length = wayS cs cs.length := (eS_tS hN _).trans tS_end
end

section
open PySem PySem.W PyProof.Rows PySem.Spec PySem.SeqAt PySem.Calls
set_option autoImplicit false
set_option linter.unusedVariables false
set_option linter.unusedSectionVars false
set_option maxRecDepth 100000
set_option maxHeartbeats 4000000
set_option tactic.hygienic false
noncomputable def WayLaw (sp : FSpec) : Prop := ∀ (H : List PO) (d : Nat) (cs : List Nat), H[d]? = some (.list (cs.map deedP)) → cs.length ≤ 7 →
  ∃ X a, sp [.ref d] [] H = some (.ok (.tup [.ref a, .str (textOf (wayS cs cs.length).1)]), H ++ X) ∧ (H ++ X)[a]? = some (.list ((wayS cs cs.length).2.map .str))
theorem PW.strTabL {σ : PS} {sp : FSpec} {ti l : Nat} {rows : Rows} {Q : PV → PS → Prop} (h : StrLaw sp) (t : Tab σ.H ti l rows) (hr : RowsS rows) (k : ∀ X, Q (.str (textOf rows)) { σ with H := σ.H ++ X }) : PW (fStrB sp [.ref ti]) σ Q := by
  obtain ⟨k0, e1, e2, _⟩ := t.ex
  obtain ⟨X, hX⟩ := h _ _ _ _ t hr
  exact PW.strI e1 e2 hX (k X)
theorem PW.compPre {σ : PS} {capt : List String} {p : PM NX} {asg : PV → PM Unit} {test : PM Bool} {elt : PM PV} {N : Nat} {Q : PV → PS → Prop} (h : PW p σ fun nx τ => PW (pcomp capt (PM.pure nx) asg test elt N) τ Q) : PW (pcomp capt p asg test elt N) σ Q := by
  obtain ⟨nx, τ, e, a, σ', e2, q⟩ := h
  refine ⟨a, σ', ?_, q⟩
  rw [← e2]
  unfold pcomp PM.bind pnoexc
  rw [e]; rfl
theorem PW.put4 {σ : PS} {a b c d : String} {u v w x : PV} {Q : Unit → PS → Prop} (h : Q () { σ with loc := lset d x (lset c w (lset b v (lset a u σ.loc))) }) : PW (passign [pput a, pput b, pput c, pput d] [u, v, w, x]) σ Q := PW.bind (PW.put (PW.bind (PW.put (PW.bind (PW.put (PW.bind (PW.put (PW.pure h))))))))
theorem Tab.setL {H : List PO} {i l a : Nat} {rows : Rows} {xs : List PV} {o : PO} (t : Tab H i l rows) (e : H[a]? = some (.list xs)) (ne : a ≠ l) : Tab (H.set a o) i l rows := by
  obtain ⟨k, e1, e2, e3⟩ := t.ex
  exact ⟨k, get_set e1 (fun z => by subst z; rw [e1] at e; cases e), get_set e2 (fun z => by subst z; rw [e2] at e; cases e), get_set e3 ne.symm⟩
theorem cs_at {cs : List Nat} {j : Nat} {p : PV} (h : (cs.map deedP)[j]? = some p) : p = deedP (cs.getD j 0) ∧ j < cs.length := by
  rw [List.getElem?_map] at h
  obtain ⟨c, e, rfl⟩ := Option.map_eq_some_iff.mp h
  exact ⟨by rw [List.getD_eq_getElem?_getD, e]; rfl, (List.getElem?_eq_some_iff.mp e).1⟩
noncomputable def partP : PV → PV
  | .str l => row (partRow l)
  | p => p
theorem set_app {H X : List PO} {l : Nat} {o : PO} (h : H.length ≤ l) : ∃ Y, (H ++ X).set l o = H ++ Y := ⟨_, List.set_append_right _ _ h⟩
section
variable {W : Wd} {P : Params} (hK : W.K = hd.heap_1 P) (hC : W.C = 201) (hCl : ClsOk W) (hP : PatsOk W PT)
include hK hC hCl hP
theorem m_way {sC sF sG sL : FSpec} (hcls : FHolds W 4 (.ref 201) sC) (lC : ClsLaw sC) (hstr0 : FHolds W 1 (.ref 177) sF) (lF : StrLaw sF) (hquo : FHolds W 1 (.ref 55) sG) (lG : QuoLaw sG) (hdone : FHolds W 5 (.ref 219) sL) (lL : DoneLaw sL) : ∃ sp, CHolds W 6 (.ref 224) sp ∧ WayLaw sp := by
  refine own_mk' (c_own (d := 5) (fd := ?fd) (body := ?body) (ns := ["deeds"]) (p := ?p) ?D (bind_pos ?B) (fun _ _ _ _ _ h => pb0_names h) fun L => ?S) ?law
  case D => (refine ⟨⟨?_, ?h1, ?h2⟩, ?h3, ?h4, ?h5, ?h6, ?h7, ?h8, ?h9, ?h10, ?h11, ?h12, ?h13⟩; (case h1 => rw [‹Wd.K _ = hd.heap_1 _›]; rfl); (case h2 => rfl); (case h3 => rfl); (case h4 => rw [‹Wd.K _ = hd.heap_1 _›]; rfl); (case h5 => rfl); (case h6 => rfl); (case h7 => rfl); (case h8 => rfl); (case h9 => rfl); (case h10 => rfl); (case h11 => exact names_ok (by decide +kernel)); (case h12 => decide +kernel); (case h13 => decide +kernel))
  case B => exact bp1 fun a => by with_unfolding_all rfl
  case S => 
    refine' sb_as ?hT ?hE
    case hT => exact (b_cons (st_swap2 rfl rfl (s_tuple (ss_cons (s_kcall (f_more hcls (by decide)) rfl (by rw [hK]; rfl) (by rw [hK]; rfl) (sa_pos (ss_cons (s_list ss_nil) ss_nil rfl) rfl) (by decide +kernel) (fun _ => rfl)) (ss_cons (s_list ss_nil) ss_nil rfl) rfl)) (.inl rfl) (.inl rfl)) (b_cons (st_for (100) (si_list (e_name (by decide +kernel) (by decide +kernel))) (a_tuple (.cons (a_name (.inl rfl)) (.cons (a_name (.inl rfl)) (.cons (a_name (.inl rfl)) (.cons (a_name (.inl rfl)) .nil)))) rfl) (b_cons (st_expr (ml_append (e_name (by decide +kernel) (by decide +kernel)) (ss_cons (s_kcall (f_more hdone (by decide)) rfl (by rw [hK]; rfl) (by rw [hK]; rfl) (sa_pos (ss_cons (e_name (by decide +kernel) (by decide +kernel)) (ss_cons (e_name (by decide +kernel) (by decide +kernel)) (ss_cons (e_name (by decide +kernel) (by decide +kernel)) (ss_cons (e_name (by decide +kernel) (by decide +kernel)) ss_nil rfl) rfl) rfl) rfl) rfl) (by decide +kernel) (fun _ => rfl)) ss_nil rfl) rfl (fun _ => rfl) rfl rfl) rfl rfl) (b_cons (st_assign (s_kcall (f_more hquo (by decide)) rfl (by rw [hK]; rfl) (by rw [hK]; rfl) (sa_pos (ss_cons (s_replace (b_strB rfl (by rw [hK]; rfl) (ss_cons (e_name (by decide +kernel) (by decide +kernel)) ss_nil rfl) rfl (by rw [hK, hC]; rfl) (by rw [hK]; rfl) (f_more hstr0 (by decide)) (by decide +kernel)) (ss_cname (by decide +kernel) (by decide +kernel)) rfl (fun _ => rfl) rfl rfl) ss_nil rfl) rfl) (by decide +kernel) (fun _ => rfl)) (a_name (.inl rfl)) rfl rfl rfl) (b_one (st_assign (s_kcall (f_more hcls (by decide)) rfl (by rw [hK]; rfl) (by rw [hK]; rfl) (sa_pos (ss_cons (s_comp0 (100) rfl (si_list (s_cut (m_split (e_name (by decide +kernel) (by decide +kernel)) (ss_cons e_str ss_nil rfl) rfl (fun _ => rfl) rfl rfl) sp_none (sp_some (s_neg e_int)) sp_none)) (a_name (.inl rfl)) tests_nil (s_cut (m_partition (e_name (by decide +kernel) (by decide +kernel)) (ss_cons e_str ss_nil rfl) rfl (fun _ => rfl) rfl rfl) sp_none sp_none (sp_some e_int)) (fun C => (a_name (.inl rfl))) (fun C => tests_nil) (fun C => (s_cut (m_partition (e_name (by decide +kernel) (by decide +kernel)) (ss_cons e_str ss_nil rfl) rfl (fun _ => rfl) rfl rfl) sp_none sp_none (sp_some e_int))) (fun _ => rfl) (by decide +kernel) rfl (by decide +kernel) ⟨.nil, by decide +kernel⟩) ss_nil rfl) rfl) (by decide +kernel) (fun _ => rfl)) (a_name (.inl rfl)) rfl rfl rfl)))) (fun _ => rfl)) (b_one (st_ret (s_tuple (ss_cons (e_name (by decide +kernel) (by decide +kernel)) (ss_cons (b_strB rfl (by rw [hK]; rfl) (ss_cons (e_name (by decide +kernel) (by decide +kernel)) ss_nil rfl) rfl (by rw [hK, hC]; rfl) (by rw [hK]; rfl) (f_more hstr0 (by decide)) (by decide +kernel)) ss_nil rfl) rfl))))))
    case hE => exact rfl
  case law =>
    intro H d cs hd hcs
    generalize hF : fspec _ _ [PV.ref d] [] H = F
    have key : ∃ v H', F = some (.ok v, H') ∧ ∃ X a, v = .tup [.ref a, .str (textOf (wayS cs cs.length).1)] ∧ H' = H ++ X ∧ (H ++ X)[a]? = some (.list ((wayS cs cs.length).2.map .str)) := by
      rw [← hF]
      refine PW.fspecE (l := [("deeds", .ref d)]) (H₁ := H) rfl ?_
      walk_at "p"
      refine PW.guard (by rw [sizeLine_eq]; decide) ?_
      walk_at "p"
      obtain ⟨X, hX, hT⟩ := lC (H ++ [.list []]) H.length [] (by rw [List.getElem?_append_right (Nat.le_refl _), Nat.sub_self]; rfl) (by decide) (fun r hr => by cases hr)
      refine PW.call hX ?_
      walk_at "p"
      refine PW.guard (by rw [sizeLine_eq]; decide) ?_
      walk_at "p"
      refine PW.guard ⟨by rw [sizeLine_eq]; simp, rfl⟩ ?_
      walk_at "p"
      refine PW.swap2 ?_
      walk_at "p"
      refine PW.nxL (get_app (get_app (get_app hd))) ?_
      have hA0 : H.length ≤ (H ++ [PO.list []] ++ X).length := by rw [List.length_append, List.length_append]; lia
      have hAl : (H ++ [PO.list []] ++ X).length ≠ H.length := by rw [List.length_append, List.length_append, List.length_singleton]; lia
      have hAg : (H ++ [PO.list []] ++ X ++ [PO.list []])[(H ++ [PO.list []] ++ X).length]? = some (.list []) := last_get _ _
      have hT0 := hT.app (X := [PO.list []])
      have hH0 : H ++ [PO.list []] ++ X ++ [PO.list []] = H ++ ([PO.list []] ++ X ++ [PO.list []]) := by simp only [List.append_assoc]
      generalize (H ++ [PO.list []]).length + 1 = tb0 at *
      generalize (H ++ [PO.list []] ++ X).length = A at *
      rw [hH0] at hAg hT0 ⊢
      generalize [PO.list []] ++ X ++ [PO.list []] = Y0 at *
      clear hX hT hH0 hF
      refine PW.forList (l := cs.map deedP) (fun j σ => ∃ tb li Y, σ.H = H ++ Y ∧ Tab σ.H tb li (wayS cs j).1 ∧ H.length ≤ li ∧ A ≠ li ∧ σ.loc.lookup "table" = some (.ref tb) ∧ σ.loc.lookup "answers" = some (.ref A) ∧ σ.H[A]? = some (.list ((wayS cs j).2.map .str))) ?hl ?step ?fin 100 0 _ ?hN (Nat.zero_le _) ⟨tb0, H.length, Y0, rfl, hT0, Nat.le_refl _, hAl, rfl, rfl, hAg⟩
      case hl => rintro j σ ⟨tb, li, Y, hH, _⟩; rw [hH]; exact get_app hd
      case hN => rw [List.length_map]; lia
      case step =>
        rintro j p σ hp ⟨tb, li, Y, hH, hT, hli, hAli, l1, l2, eA⟩
        obtain ⟨rfl, hj⟩ := cs_at hp
        obtain ⟨g0, g1⟩ := way_good cs j
        have hc4 := Nat.mod_lt (cs.getD j 0) (show 0 < 4 by decide)
        have hnl := name_len (cs.getD j 0)
        have hvl := (val_ok _ (val_mem (cs.getD j 0))).1
        obtain ⟨X1, hX1⟩ := lL σ.H tb li _ (cs.getD j 0 % 4) (dname (cs.getD j 0)) (dval (cs.getD j 0)) hT (g0.rowsS (by lia) (by lia)).ok (nameLen_of (by lia)) (by lia) (by lia) (hasN_lower (name_sml _)) hc4
        unfold deedP
        walk_at "p"
        refine PW.guard rfl ?_
        refine PW.put4 ?_
        walk_at "p"
        refine PW.plist eA ?_
        walk_at "p"
        refine PW.call hX1 ?_
        walk_at "p"
        have hr1 := hT.put X1 (wayD (wayS cs j) (cs.getD j 0)).2
        have eA1 : ((σ.H ++ X1).set li (.list ((wayD (wayS cs j) (cs.getD j 0)).2.map row)))[A]? = some (.list ((wayS cs j).2.map .str)) := get_set (get_app eA) hAli
        refine PW.append eA1 (by rw [List.length_map, way_ans, sizeLine_eq]; lia) ?_
        have hP : ∃ Y2, ((σ.H ++ X1).set li (.list ((wayD (wayS cs j) (cs.getD j 0)).2.map row))).set A (.list ((wayS cs j).2.map .str ++ [.str ((wayD (wayS cs j) (cs.getD j 0)).1.getD refS)])) = H ++ Y2 := by
          rw [hH, List.append_assoc]
          obtain ⟨Y1, e⟩ := set_app (X := Y ++ X1) (o := .list ((wayD (wayS cs j) (cs.getD j 0)).2.map row)) hli
          rw [e]
          exact set_app hA0
        have hT2 := hr1.setL (o := .list ((wayS cs j).2.map .str ++ [.str ((wayD (wayS cs j) (cs.getD j 0)).1.getD refS)])) eA1 hAli
        have eA2 : (((σ.H ++ X1).set li (.list ((wayD (wayS cs j) (cs.getD j 0)).2.map row))).set A (.list ((wayS cs j).2.map .str ++ [.str ((wayD (wayS cs j) (cs.getD j 0)).1.getD refS)])))[A]? = some (.list ((wayS cs (j + 1)).2.map .str)) := by
          rw [List.getElem?_set_self (lt_of_get eA1)]
          show _ = some (PO.list (List.map PV.str ((wayS cs j).2 ++ [_])))
          rw [List.map_append]; rfl
        obtain ⟨Y2, hY2⟩ := hP
        show PW (PM.pure PF.next) { loc := _, H := ((σ.H ++ X1).set li (.list ((wayD (wayS cs j) (cs.getD j 0)).2.map row))).set A (.list ((wayS cs j).2.map .str ++ [.str ((wayD (wayS cs j) (cs.getD j 0)).1.getD refS)])) } _
        generalize ((σ.H ++ X1).set li (.list ((wayD (wayS cs j) (cs.getD j 0)).2.map row))).set A (.list ((wayS cs j).2.map .str ++ [.str ((wayD (wayS cs j) (cs.getD j 0)).1.getD refS)])) = H2 at *
        have rS := g1.rowsS (by lia) (by lia)
        have hE := end_ok (cs.getD j 0)
        have hrs := rows_sent rS hE
        obtain ⟨q1, q2, q3, q4, q5, q6, q7, q8, q9⟩ := sent_okk rS hE
        have g2 := sent_good g1
        generalize hw : (wayD (wayS cs j) (cs.getD j 0)).2 = rows1 at *
        have hnext : (wayS cs (j + 1)).1 = rows1.map sentRow := by rw [← hw]; rfl
        clear hX1 eA1 hr1 eA hT hH hli hAli
        walk_at "p"
        refine PW.strTabL lF hT2 rS fun X2 => ?_
        walk_at "p"
        refine PW.lit lset_self ?_
        refine PW.replace q1 ?_
        walk_at "p"
        refine PW.call (lG _ _ q2 q3) ?_
        walk_at "p"
        refine PW.compPre ?_
        walk_at "p"
        show PW (mSplit (sentTxt (textOf rows1) (dend (cs.getD j 0))) [PV.str crlf]) { loc := lset "sent" (.str (sentTxt (textOf rows1) (dend (cs.getD j 0)))) _, H := H2 ++ X2 } _
        refine PW.split rfl q4 q5 ?_
        walk_at "p"
        refine ⟨.int (-2), _, rfl, ?_⟩
        walk_at "p"
        refine PW.cutL (last_get _ _) (by rw [List.length_map]; exact q6) (by rw [List.length_map]; exact q7) ?_
        walk_at "p"
        rw [List.length_map, ← List.map_take]
        refine PW.nxL (last_get _ _) ?_
        show PW (pcomp [] (PM.pure (nxList (H2 ++ X2 ++ [_]).length)) _ _ _ 100) { loc := _, H := H2 ++ X2 ++ [_] ++ [.list ((sentCut (textOf rows1) (dend (cs.getD j 0))).map .str)] } _
        have hcut := last_get (H2 ++ X2 ++ [PO.list ((Txt.split (sentTxt (textOf rows1) (dend (cs.getD j 0))) crlf).map PV.str)]) (.list ((sentCut (textOf rows1) (dend (cs.getD j 0))).map .str))
        generalize hH3 : H2 ++ X2 ++ [PO.list ((Txt.split (sentTxt (textOf rows1) (dend (cs.getD j 0))) crlf).map PV.str)] ++ [.list ((sentCut (textOf rows1) (dend (cs.getD j 0))).map .str)] = H3 at *
        generalize (H2 ++ X2 ++ [PO.list ((Txt.split (sentTxt (textOf rows1) (dend (cs.getD j 0))) crlf).map PV.str)]).length = ci at *
        obtain ⟨Y3, hY3⟩ : ∃ Y3, H3 = H ++ Y3 := ⟨_, by rw [← hH3, hY2, List.append_assoc, List.append_assoc, List.append_assoc]⟩
        have eA3 : H3[A]? = some (.list ((wayS cs (j + 1)).2.map .str)) := by rw [← hH3]; exact get_app (get_app (get_app eA2))
        clear hH3 hY2 eA2 hT2
        refine PW.mapL (l := (sentCut (textOf rows1) (dend (cs.getD j 0))).map .str) partP (fun _ => True) ⟨_, _, rfl, rfl, rfl⟩ hcut (by rw [List.length_map]; lia) trivial ?_ fun loc' _ => ⟨_, rfl, ?_⟩
        · rintro x τ hx _ ⟨L, hL⟩
          obtain ⟨y, hy, rfl⟩ := List.mem_map.mp hx
          walk_at "p"
          refine PW.partition rfl (q9 _ hy) ?_
          walk_at "p"
          refine PW.cutT ⟨rfl, trivial, rfl⟩
        · walk_at "p"
          have hl3 : (H3 ++ [PO.list (((sentCut (textOf rows1) (dend (cs.getD j 0))).map PV.str).map partP)])[H3.length]? = some (.list ((rows1.map sentRow).map row)) := by
            rw [last_get, ← hrs, List.map_map, List.map_map]; rfl
          obtain ⟨X4, hX4, hT4⟩ := lC _ H3.length _ hl3 (g2.rowsS (by lia) (by lia)).ok fun r hr => ⟨(g2.all r hr).2.2.1, (g2.all r hr).2.2.2.1⟩
          refine PW.call hX4 ?_
          walk_at "p"
          refine ⟨_, _, Y3 ++ ([PO.list (((sentCut (textOf rows1) (dend (cs.getD j 0))).map PV.str).map partP)] ++ X4), ?_, by rw [hnext]; exact hT4, ?_, ?_, lset_self, ?_, get_app (get_app eA3)⟩
          · rw [hY3]; simp only [List.append_assoc]
          · rw [hY3, List.length_append]; lia
          · have := lt_of_get eA3; lia
          · exact lset_ne (by decide) (lset_ne (by decide) (lset_ne (by decide) (lset_ne (by decide) (lset_ne (by decide) (lset_ne (by decide) l2)))))
      case fin =>
        rintro σ ⟨tb, li, Y, hH, hT, hli, hAli, l1, l2, eA⟩
        rw [List.length_map] at hT eA
        obtain ⟨g0, _⟩ := way_good cs cs.length
        walk_at "p"
        refine PW.strTabL lF hT (g0.rowsS (by lia) (by lia)) fun X2 => ?_
        walk_at "p"
        refine PW.guard ⟨by rw [sizeLine_eq]; simp, rfl⟩ ?_
        walk_at "p"
        exact ⟨_, rfl, Y ++ X2, A, rfl, by rw [hH, List.append_assoc], by rw [← List.append_assoc, ← hH]; exact get_app eA⟩
    obtain ⟨v, H', e, X, a, rfl, rfl, h⟩ := key
    exact ⟨X, a, e, h⟩
end
end

section
open PySem PySem.W PyProof.Rows PySem.Spec PySem.SeqAt PySem.Calls
set_option autoImplicit false
set_option linter.unusedVariables false
set_option linter.unusedSectionVars false
set_option maxRecDepth 100000
set_option maxHeartbeats 4000000
set_option tactic.hygienic false
noncomputable def EndLaw (sp : FSpec) : Prop := ∀ (H : List PO) (d : Nat) (cs : List Nat), H[d]? = some (.list (cs.map deedP)) → cs.length ≤ 7 →
  ∃ X a, sp [.ref d] [] H = some (.ok (.tup [.ref a, .str (textOf (eS cs.length cs cs.length).1)]), H ++ X) ∧ (H ++ X)[a]? = some (.list ((eS cs.length cs cs.length).2.map .str))
theorem PW.put3 {σ : PS} {a b c : String} {u v w : PV} {Q : Unit → PS → Prop} (h : Q () { σ with loc := lset c w (lset b v (lset a u σ.loc)) }) : PW (passign [pput a, pput b, pput c] [u, v, w]) σ Q := PW.bind (PW.put (PW.bind (PW.put (PW.bind (PW.put (PW.pure h))))))
theorem PW.cutT3 {σ : PS} {a b c d : PV} {Q : PV → PS → Prop} (h : Q (.tup [a, b, c]) σ) : PW (pcut (.tup [a, b, c, d]) .none (.int 3) .none) σ Q := by
  have e : tpick [a, b, c, d] none (some 3) none = [a, b, c] := by
    show (List.range (Builtin.Slice.slicePlaces (Builtin.Slice.sliceAdjust none (some 3) 1 4).1 (Builtin.Slice.sliceAdjust none (some 3) 1 4).2 1)).filterMap (fun (k : Nat) => [a, b, c, d][((Builtin.Slice.sliceAdjust none (some 3) 1 4).1 + (k : Int) * 1).toNat]?) = [a, b, c]
    rw [show Builtin.Slice.slicePlaces (Builtin.Slice.sliceAdjust none (some 3) 1 4).1 (Builtin.Slice.sliceAdjust none (some 3) 1 4).2 1 = 3 by decide +kernel, show (Builtin.Slice.sliceAdjust none (some 3) 1 4).1 = 0 by decide +kernel]
    rfl
  show PW (pguard ((none : Option Int) ≠ some 0) (pguard ((tpick [a, b, c, d] none (some 3) none).length ≤ sizeLine) (PM.pure (.tup (tpick [a, b, c, d] none (some 3) none))))) σ Q
  rw [e]
  exact PW.guard (by decide) (PW.guard (by rw [sizeLine_eq]; exact Nat.le_of_ble_eq_true rfl) (PW.pure h))
section
variable {W : Wd} {P : Params} (hK : W.K = hd.heap_1 P) (hC : W.C = 201) (hCl : ClsOk W) (hP : PatsOk W PT)
include hK hC hCl hP
theorem m_end {sC sF sG sL : FSpec} (hcls : FHolds W 4 (.ref 201) sC) (lC : ClsLaw sC) (hstr0 : FHolds W 1 (.ref 177) sF) (lF : StrLaw sF) (hquo : FHolds W 1 (.ref 55) sG) (lG : QuoLaw sG) (hdone : FHolds W 5 (.ref 219) sL) (lL : DoneLaw sL) : ∃ sp, CHolds W 6 (.ref 231) sp ∧ EndLaw sp := by
  refine own_mk' (c_own (d := 5) (fd := ?fd) (body := ?body) (ns := ["deeds"]) (p := ?p) ?D (bind_pos ?B) (fun _ _ _ _ _ h => pb0_names h) fun L => ?S) ?law
  case D => (refine ⟨⟨?_, ?h1, ?h2⟩, ?h3, ?h4, ?h5, ?h6, ?h7, ?h8, ?h9, ?h10, ?h11, ?h12, ?h13⟩; (case h1 => rw [‹Wd.K _ = hd.heap_1 _›]; rfl); (case h2 => rfl); (case h3 => rfl); (case h4 => rw [‹Wd.K _ = hd.heap_1 _›]; rfl); (case h5 => rfl); (case h6 => rfl); (case h7 => rfl); (case h8 => rfl); (case h9 => rfl); (case h10 => rfl); (case h11 => exact names_ok (by decide +kernel)); (case h12 => decide +kernel); (case h13 => decide +kernel))
  case B => exact bp1 fun a => by with_unfolding_all rfl
  case S => 
    refine' sb_as ?hT ?hE
    case hT => exact (b_cons (st_swap2 rfl rfl (s_tuple (ss_cons (s_kcall (f_more hcls (by decide)) rfl (by rw [hK]; rfl) (by rw [hK]; rfl) (sa_pos (ss_cons (s_list ss_nil) ss_nil rfl) rfl) (by decide +kernel) (fun _ => rfl)) (ss_cons (s_list ss_nil) ss_nil rfl) rfl)) (.inl rfl) (.inl rfl)) (b_cons (st_for (100) (si_range rfl (by rw [hK]; rfl) (ss_cons (b_len rfl (by rw [hK]; rfl) (ss_cons (e_name (by decide +kernel) (by decide +kernel)) ss_nil rfl) rfl) ss_nil rfl) rfl) (a_name (.inl rfl)) (b_cons (st_assign (s_cut (s_item (e_name (by decide +kernel) (by decide +kernel)) (e_name (by decide +kernel) (by decide +kernel)) (fun _ => (fun _ => rfl))) sp_none (sp_some e_int) sp_none) (a_tuple (.cons (a_name (.inl rfl)) (.cons (a_name (.inl rfl)) (.cons (a_name (.inl rfl)) .nil))) rfl) rfl rfl rfl) (b_cons (st_for (100) (si_range rfl (by rw [hK]; rfl) (ss_cons (s_sub (b_len rfl (by rw [hK]; rfl) (ss_cons (e_name (by decide +kernel) (by decide +kernel)) ss_nil rfl) rfl) (e_name (by decide +kernel) (by decide +kernel))) ss_nil rfl) rfl) (a_name (.inl rfl)) (b_one (st_assign (s_kcall (f_more hquo (by decide)) rfl (by rw [hK]; rfl) (by rw [hK]; rfl) (sa_pos (ss_cons (e_name (by decide +kernel) (by decide +kernel)) ss_nil rfl) rfl) (by decide +kernel) (fun _ => rfl)) (a_name (.inl rfl)) rfl rfl rfl)) (fun _ => rfl)) (b_one (st_expr (ml_append (e_name (by decide +kernel) (by decide +kernel)) (ss_cons (s_kcall (f_more hdone (by decide)) rfl (by rw [hK]; rfl) (by rw [hK]; rfl) (sa_pos (ss_cons (e_name (by decide +kernel) (by decide +kernel)) (ss_cons (e_name (by decide +kernel) (by decide +kernel)) (ss_cons (e_name (by decide +kernel) (by decide +kernel)) (ss_cons (e_name (by decide +kernel) (by decide +kernel)) ss_nil rfl) rfl) rfl) rfl) rfl) (by decide +kernel) (fun _ => rfl)) ss_nil rfl) rfl (fun _ => rfl) rfl rfl) rfl rfl)))) (fun _ => rfl)) (b_one (st_ret (s_tuple (ss_cons (e_name (by decide +kernel) (by decide +kernel)) (ss_cons (b_strB rfl (by rw [hK]; rfl) (ss_cons (e_name (by decide +kernel) (by decide +kernel)) ss_nil rfl) rfl (by rw [hK, hC]; rfl) (by rw [hK]; rfl) (f_more hstr0 (by decide)) (by decide +kernel)) ss_nil rfl) rfl))))))
    case hE => exact rfl
  case law =>
    intro H d cs hd hcs
    generalize hF : fspec _ _ [PV.ref d] [] H = F
    have key : ∃ v H', F = some (.ok v, H') ∧ ∃ X a, v = .tup [.ref a, .str (textOf (eS cs.length cs cs.length).1)] ∧ H' = H ++ X ∧ (H ++ X)[a]? = some (.list ((eS cs.length cs cs.length).2.map .str)) := by
      rw [← hF]
      refine PW.fspecE (l := [("deeds", .ref d)]) (H₁ := H) rfl ?_
      walk_at "p"
      refine PW.guard (by rw [sizeLine_eq]; decide) ?_
      walk_at "p"
      obtain ⟨X, hX, hT⟩ := lC (H ++ [.list []]) H.length [] (by rw [List.getElem?_append_right (Nat.le_refl _), Nat.sub_self]; rfl) (by decide) (fun r hr => by cases hr)
      refine PW.call hX ?_
      walk_at "p"
      refine PW.guard (by rw [sizeLine_eq]; decide) ?_
      walk_at "p"
      refine PW.guard ⟨by rw [sizeLine_eq]; simp, rfl⟩ ?_
      walk_at "p"
      refine PW.swap2 ?_
      walk_at "p"
      refine PW.lenL (get_app (get_app (get_app hd))) (by rw [List.length_map, sizeLine_eq]; lia) ?_
      rw [List.length_map]
      walk_at "p"
      have hA0 : H.length ≤ (H ++ [PO.list []] ++ X).length := by rw [List.length_append, List.length_append]; lia
      have hAl : (H ++ [PO.list []] ++ X).length ≠ H.length := by rw [List.length_append, List.length_append, List.length_singleton]; lia
      have hAg : (H ++ [PO.list []] ++ X ++ [PO.list []])[(H ++ [PO.list []] ++ X).length]? = some (.list []) := last_get _ _
      have hT0 := hT.app (X := [PO.list []])
      have hH0 : H ++ [PO.list []] ++ X ++ [PO.list []] = H ++ ([PO.list []] ++ X ++ [PO.list []]) := by simp only [List.append_assoc]
      generalize (H ++ [PO.list []]).length + 1 = tb0 at *
      generalize (H ++ [PO.list []] ++ X).length = A at *
      rw [hH0] at hAg hT0 ⊢
      generalize [PO.list []] ++ X ++ [PO.list []] = Y0 at *
      clear hX hT hH0 hF
      refine PW.nxR (n := (cs.length : Int)) (by lia) ?_
      refine PW.forRange (a := 0) (n := (cs.length : Int)) (fun j σ => ∃ tb li Y, σ.H = H ++ Y ∧ Tab σ.H tb li (eS cs.length cs j).1 ∧ H.length ≤ li ∧ A ≠ li ∧ σ.loc.lookup "table" = some (.ref tb) ∧ σ.loc.lookup "answers" = some (.ref A) ∧ σ.loc.lookup "deeds" = some (.ref d) ∧ σ.H[A]? = some (.list ((eS cs.length cs j).2.map .str)) ∧ j ≤ cs.length) ?step ?fin 100 0 _ (by decide) (by lia) ⟨tb0, H.length, Y0, rfl, hT0, Nat.le_refl _, hAl, rfl, rfl, rfl, hAg, Nat.zero_le _⟩
      case step =>
        rintro j σ hj ⟨tb, li, Y, hH, hT, hli, hAli, l1, l2, l3, eA, _⟩
        have hj : j < cs.length := by lia
        rw [Int.zero_add]
        obtain ⟨g0, g1⟩ := eS_ok (cs := cs) (j := j) (by lia) (by lia)
        obtain ⟨n1, n2, n3, _⟩ := qdT_ok (cs.getD j 0) (cs.length - j) (by lia)
        have hc4 := Nat.mod_lt (cs.getD j 0) (show 0 < 4 by decide)
        have hvl := (val_ok _ (val_mem (cs.getD j 0))).1
        have hdj : σ.H[d]? = some (.list (cs.map deedP)) := by rw [hH]; exact get_app hd
        obtain ⟨X1, hX1⟩ := lL σ.H tb li _ (cs.getD j 0 % 4) (qdT (cs.length - j) (dname (cs.getD j 0))) (dval (cs.getD j 0)) hT g1 (nameLen_of (by lia)) (by lia) (by lia) (hasN_lower n1) hc4
        show PW (pput "place" (natP j)) _ _
        walk_at "p"
        refine PW.itemN hdj (get_getD (f := deedP) (d := 0) hj) (by lia) ?_
        unfold deedP
        walk_at "p"
        refine PW.cutT3 ?_
        walk_at "p"
        refine PW.guard rfl ?_
        refine PW.put3 ?_
        walk_at "p"
        refine PW.lenL hdj (by rw [List.length_map, sizeLine_eq]; lia) ?_
        rw [List.length_map]
        walk_at "p"
        refine PW.subN (by lia) ?_
        walk_at "p"
        refine PW.nxR (n := ((cs.length - j : Nat) : Int)) (by lia) ?_
        refine PW.forRange (a := 0) (n := ((cs.length - j : Nat) : Int)) (fun t τ => τ.H = σ.H ∧ τ.loc.lookup "name" = some (.str (qdT t (dname (cs.getD j 0)))) ∧ τ.loc.lookup "kind" = some (natP (cs.getD j 0 % 4)) ∧ τ.loc.lookup "value" = some (.str (dval (cs.getD j 0))) ∧ τ.loc.lookup "table" = some (.ref tb) ∧ τ.loc.lookup "answers" = some (.ref A) ∧ τ.loc.lookup "deeds" = some (.ref d) ∧ t ≤ cs.length - j) ?step2 ?fin2 100 0 _ (by decide) (by lia) ?h02
        case h02 => exact ⟨rfl, lset_ne (by decide) lset_self, lset_ne (by decide) (lset_ne (by decide) lset_self), lset_self, lset_ne (by decide) (lset_ne (by decide) (lset_ne (by decide) (lset_ne (by decide) l1))), lset_ne (by decide) (lset_ne (by decide) (lset_ne (by decide) (lset_ne (by decide) l2))), lset_ne (by decide) (lset_ne (by decide) (lset_ne (by decide) (lset_ne (by decide) l3))), Nat.zero_le _⟩
        case step2 =>
          rintro t τ ht ⟨k0, k1, k2, k3, k4, k5, k6, _⟩
          obtain ⟨_, m2, _, _⟩ := qdT_ok (cs.getD j 0) t (by lia)
          have m3 := norm_le (qdT t (dname (cs.getD j 0)))
          walk_at "p"
          refine PW.call (lG _ _ (by lia) (by lia)) ?_
          walk_at "p"
          exact ⟨k0, lset_self, lset_ne (by decide) (lset_ne (by decide) k2), lset_ne (by decide) (lset_ne (by decide) k3), lset_ne (by decide) (lset_ne (by decide) k4), lset_ne (by decide) (lset_ne (by decide) k5), lset_ne (by decide) (lset_ne (by decide) k6), by lia⟩
        case fin2 =>
          rintro t τ ht ⟨k0, k1, k2, k3, k4, k5, k6, hle⟩
          have ht : t = cs.length - j := by lia
          subst ht
          walk_at "p"
          refine PW.plist (by rw [k0]; exact eA) ?_
          walk_at "p"
          refine PW.call (by rw [k0]; exact hX1) ?_
          walk_at "p"
          have hr1 := hT.put X1 (deedR (cs.getD j 0 % 4) (qdT (cs.length - j) (dname (cs.getD j 0))) (dval (cs.getD j 0)) (eS cs.length cs j).1).2
          have eA1 : ((σ.H ++ X1).set li (.list ((deedR (cs.getD j 0 % 4) (qdT (cs.length - j) (dname (cs.getD j 0))) (dval (cs.getD j 0)) (eS cs.length cs j).1).2.map row)))[A]? = some (.list ((eS cs.length cs j).2.map .str)) := get_set (get_app eA) hAli
          refine PW.append eA1 (by rw [List.length_map, eS_ans, sizeLine_eq]; lia) ?_
          walk_at "p"
          refine ⟨tb, li, ?_⟩
          obtain ⟨Y1, e1⟩ := set_app (X := Y ++ X1) (o := .list ((deedR (cs.getD j 0 % 4) (qdT (cs.length - j) (dname (cs.getD j 0))) (dval (cs.getD j 0)) (eS cs.length cs j).1).2.map row)) hli
          obtain ⟨Y2, e2⟩ := set_app (X := Y1) (o := .list ((eS cs.length cs j).2.map PV.str ++ [.str ((deedR (cs.getD j 0 % 4) (qdT (cs.length - j) (dname (cs.getD j 0))) (dval (cs.getD j 0)) (eS cs.length cs j).1).1.getD refS)])) hA0
          refine ⟨Y2, ?_, hr1.setL eA1 hAli, hli, hAli, k4, k5, k6, ?_, by lia⟩
          · rw [← e2, ← e1, hH, List.append_assoc]
          · show (List.set _ A _)[A]? = _
            rw [List.getElem?_set_self (lt_of_get eA1)]
            show _ = some (PO.list (List.map PV.str ((eS cs.length cs j).2 ++ [_])))
            rw [List.map_append]; rfl
      case fin =>
        rintro j σ hj ⟨tb, li, Y, hH, hT, hli, hAli, l1, l2, l3, eA, hle⟩
        have hj : j = cs.length := by lia
        subst hj
        rw [eS_end (by lia)] at hT eA ⊢
        obtain ⟨g0, _⟩ := way_good cs cs.length
        walk_at "p"
        refine PW.strTabL lF hT (g0.rowsS (by lia) (by lia)) fun X2 => ?_
        walk_at "p"
        refine PW.guard ⟨by rw [sizeLine_eq]; simp, rfl⟩ ?_
        walk_at "p"
        exact ⟨_, rfl, Y ++ X2, A, rfl, by rw [hH, List.append_assoc], by rw [← List.append_assoc, ← hH]; exact get_app eA⟩
    obtain ⟨v, H', e, X, a, rfl, rfl, h⟩ := key
    exact ⟨X, a, e, h⟩
end
end

section
open PySem PySem.W PyProof.Rows PySem.Spec PySem.SeqAt PySem.Calls
set_option autoImplicit false
set_option linter.unusedVariables false
set_option linter.unusedSectionVars false
set_option maxRecDepth 100000
set_option tactic.hygienic false
theorem PW.filtG {σ : PS} {capt : List String} {p : PM NX} {asg : PV → PM Unit} {test : PM Bool} {elt : PM PV} {Q : PV → PS → Prop} (len : Nat) (src : Nat → PV) (f : Nat → Bool) (J : List (String × PV) → Prop)
    (hp : PW p σ fun nx τ => τ = σ ∧ ∀ j L, nx j (σ.H ++ [.list L]) = some (if j < len then some (src j) else none)) (hlen : len ≤ 99) (h0 : J (pinner capt σ).loc)
    (step : ∀ j τ, j < len → J τ.loc → (∃ L, τ.H = σ.H ++ [.list L]) → PW (asg (src j)) τ fun _ τ₁ => PW test τ₁ fun b τ₂ => b = f j ∧ τ₂.H = τ.H ∧ J τ₂.loc ∧ PW elt τ₂ fun v τ₃ => v = src j ∧ J τ₃.loc ∧ τ₃.H = τ.H)
    (fin : ∀ loc', J loc' → ∃ loc, pback capt loc' σ.loc = some loc ∧ Q (.ref σ.H.length) ⟨loc, σ.H ++ [.list (((List.range len).filter f).map src)]⟩) : PW (pcomp capt p asg test elt 100) σ Q := by
  refine PW.comp (hp.mono fun nx τ h => ?_)
  obtain ⟨rfl, hnx⟩ := h
  refine PW.compL (fun j o τ' => τ'.H = τ.H ++ [.list o] ∧ J τ'.loc ∧ o = ((List.range j).filter f).map src) len src ?_ ?_ ?_ ?_ (by lia) ?_ 100 0 [] _ (by lia) (Nat.zero_le _) ⟨rfl, h0, rfl⟩
  · rintro j o τ' ⟨hH, _⟩; rw [hH]; exact hnx j o
  · rintro j o τ' ⟨hH, _⟩; rw [hH]; exact last_get _ _
  · rintro j o τ' hj ⟨hH, hJ, ho⟩
    refine (step j τ' hj hJ ⟨o, hH⟩).mono fun _ τ₁ h₁ => h₁.mono fun b τ₂ ⟨hb, hH2, hJ2, h2⟩ => ?_
    subst hb
    cases hf : f j with
    | true =>
      rw [if_pos rfl]
      refine h2.mono fun v τ₃ ⟨hv, hJ3, hH3⟩ => ?_
      rw [hH] at hH3
      refine ⟨by rw [hH3]; exact last_get _ _, ?_, hJ3, ?_⟩
      · show τ₃.H.set τ.H.length _ = _
        rw [hH3, List.set_append_right _ _ (Nat.le_refl _)]; simp
      · rw [List.range_succ, List.filter_append, List.map_append, ho, hv]; simp [hf]
    | false =>
      rw [if_neg (by decide)]
      exact ⟨by rw [hH2, hH], hJ2, by rw [List.range_succ, List.filter_append, List.map_append, ho]; simp [hf]⟩
  · rintro j o τ' ⟨_, _, rfl⟩; rw [List.length_map]; exact Nat.le_trans (List.length_filter_le _ _) (by rw [List.length_range]; exact Nat.le_refl _)
  · rintro o τ' ⟨hH, hJ, rfl⟩
    obtain ⟨loc, e, q⟩ := fin _ hJ
    exact ⟨loc, e, by rw [hH]; exact q⟩
theorem filt_get {α β : Type} (l : List α) (d : α) (g : α → β) (f : α → Bool) : ((List.range l.length).filter fun j => f (l.getD j d)).map (fun j => g (l.getD j d)) = (l.filter f).map g := by
  have := congrArg (fun x => (x.filter f).map g) (range_map_get l d)
  rw [List.filter_map, List.map_map] at this
  exact this
theorem mem_getD' {α : Type} {l : List α} {d : α} {j : Nat} (h : j < l.length) : l.getD j d ∈ l := by
  rw [List.getD_eq_getElem?_getD, List.getElem?_eq_getElem h]
  exact List.getElem_mem h
theorem PW.filtR {σ : PS} {capt : List String} {p : PM NX} {asg : PV → PM Unit} {test : PM Bool} {elt : PM PV} {Q : PV → PS → Prop} {i : Nat} {rows : Rows} (f : Str × Str → Bool) (J : List (String × PV) → Prop)
    (hp : PW p σ fun nx τ => τ = σ ∧ nx = nxList i) (hl : σ.H[i]? = some (.list (rows.map row))) (hlen : rows.length ≤ 99) (h0 : J (pinner capt σ).loc)
    (step : ∀ r τ, r ∈ rows → J τ.loc → (∃ L, τ.H = σ.H ++ [.list L]) → PW (asg (row r)) τ fun _ τ₁ => PW test τ₁ fun b τ₂ => b = f r ∧ τ₂.H = τ.H ∧ J τ₂.loc ∧ PW elt τ₂ fun v τ₃ => v = row r ∧ J τ₃.loc ∧ τ₃.H = τ.H)
    (fin : ∀ loc', J loc' → ∃ loc, pback capt loc' σ.loc = some loc ∧ Q (.ref σ.H.length) ⟨loc, σ.H ++ [.list ((rows.filter f).map row)]⟩) : PW (pcomp capt p asg test elt 100) σ Q := by
  refine PW.filtG rows.length (fun j => row (rows.getD j default)) (fun j => f (rows.getD j default)) J (hp.mono fun nx τ ⟨h1, h2⟩ => ⟨h1, fun j L => ?_⟩) hlen h0 (fun j τ hj hJ hH => step _ τ (mem_getD' hj) hJ hH) ?_
  · subst h2; exact nx_rows (get_app hl) j
  · rw [filt_get]; exact fin
theorem PW.mapRw {σ : PS} {capt : List String} {p : PM NX} {asg : PV → PM Unit} {elt : PM PV} {Q : PV → PS → Prop} {i : Nat} {rows : Rows} (g : Str × Str → Str) (J : List (String × PV) → Prop)
    (hp : PW p σ fun nx τ => τ = σ ∧ nx = nxList i) (hl : σ.H[i]? = some (.list (rows.map row))) (hlen : rows.length ≤ 99) (h0 : J (pinner capt σ).loc)
    (step : ∀ r τ, r ∈ rows → J τ.loc → PW (asg (row r)) τ fun _ τ₁ => PW elt τ₁ fun v τ₂ => v = .str (g r) ∧ J τ₂.loc ∧ τ₂.H = τ.H)
    (fin : ∀ loc', J loc' → ∃ loc, pback capt loc' σ.loc = some loc ∧ Q (.ref σ.H.length) ⟨loc, σ.H ++ [.list ((rows.map g).map .str)]⟩) : PW (pcomp capt p asg (PM.pure true) elt 100) σ Q := by
  refine PW.mapG rows.length (fun j => row (rows.getD j default)) (fun j => .str (g (rows.getD j default))) J (hp.mono fun nx τ ⟨h1, h2⟩ => ⟨h1, fun j L => ?_⟩) hlen h0 (fun j τ hj hJ _ => step _ τ (mem_getD' hj) hJ) ?_
  · subst h2; exact nx_rows (get_app hl) j
  · have := congrArg (fun x => (x.map g).map PV.str) (range_map_get rows default)
    rw [List.map_map, List.map_map] at this
    rw [show (List.range rows.length).map (fun j => PV.str (g (rows.getD j default))) = (rows.map g).map .str from this]
    exact fin
theorem take_sign (x : Str) (n : Nat) (h : n ≤ x.length) : (List.range n).filterMap (x.cps[·]?) = (cp x).take n := by
  have : (List.range n).filterMap (x.cps[·]?) = (List.range n).filterMap ((cp x)[·]?) := by
    congr 1
    funext k
    exact (Array.getElem?_toList).symm
  rw [this]
  exact range_take _ _ (by rw [cp_len]; exact h)
set_option tactic.hygienic true in
theorem pick_one (x : Str) : xpick x none (some 1) none = ofl ((cp x).take 1) := by
  have e : Builtin.Str.strSliceIndices none (some 1) 1 x.length = List.range (min 1 x.length) := by
    unfold Builtin.Str.strSliceIndices
    dsimp only
    rw [if_pos (by decide), if_pos (by decide), if_neg (by decide), show max (0 : Int) (min 1 (x.length : Int)) = ((min 1 x.length : Nat) : Int) by lia]
    exact sliceRange_one _
  unfold xpick
  rw [Option.getD_none, e]
  split
  · rename_i h
    rw [Bool.and_eq_true] at h
    have h := h.2
    rw [beq_iff_eq, List.length_range] at h
    rw [List.take_of_length_le (by rw [cp_len]; lia), ofl_cp]
  · rw [take_sign x _ (by lia)]
    refine str_ext ?_
    rw [cp_ofl]
    show (cp x).take (min 1 x.length) = _
    by_cases h : 1 ≤ x.length
    · rw [Nat.min_eq_left h]
    · rw [List.take_of_length_le (by rw [cp_len]; lia), List.take_of_length_le (by rw [cp_len]; lia)]
theorem PW.cut1 {σ : PS} {x : Str} {Q : PV → PS → Prop} (hx : x.length ≤ sizeLine) (h : Q (.str (ofl ((cp x).take 1))) σ) : PW (pcut (.str x) .none (.int 1) .none) σ Q := by
  show PW (pguard ((none : Option Int) ≠ some 0) (pguard (x.length ≤ sizeLine) (PM.pure (.str (xpick x none (some 1) none))))) σ Q
  refine PW.guard (by decide) (PW.guard hx ?_)
  rw [pick_one]
  exact PW.pure h
theorem dot_one : Str.ofString "." = ofl [46] := by decide +kernel
theorem dot_head (x : Str) : (ofl ((cp x).take 1) == Str.ofString ".") = decide ((cp x).head? = some 46) := by
  rw [dot_one]
  cases cp x with
  | nil => rfl
  | cons c l =>
    rw [Bool.eq_iff_iff, beq_iff_eq, decide_eq_true_eq]
    show ofl [c] = ofl [46] ↔ some c = some 46
    refine ⟨fun h => ?_, fun h => by cases h; rfl⟩
    have : cp (ofl [c]) = cp (ofl [46]) := by rw [h]
    rw [cp_ofl, cp_ofl] at this
    cases this; rfl
theorem phi_head {m : Nat} {x : Str} (h : (cp x).head? = some 46) : dotsN m ++ x = phi m x := by
  refine str_ext ?_
  rw [cp_app, cp_phi]
  unfold phiL
  rw [if_pos h]; rfl
theorem phi_none {m : Nat} {x : Str} (h : ¬ (cp x).head? = some 46) : x = phi m x := by
  refine str_ext ?_
  rw [cp_phi]
  unfold phiL
  rw [if_neg h]
theorem nx_text (x : Str) (j : Nat) (H : List PO) : nxText x j H = some (if j < x.length then some (.str ⟨#[(cp x).getD j 0]⟩) else none) := by
  unfold nxText
  by_cases h : j < x.length
  · have h2 : j < x.cps.size := h
    rw [if_pos h, Array.getElem?_eq_getElem h2]
    simp [cp, List.getD, h2]
  · have h2 : x.cps.size ≤ j := Nat.not_lt.mp h
    rw [if_neg h, Array.getElem?_eq_none h2]; rfl
theorem lt_blank (c : Nat) : decide ((⟨#[c]⟩ : Str).cps.toList < (Str.ofString " ").cps.toList) = decide (c ≤ 31) := by
  have e : (Str.ofString " ").cps.toList = [32] := by decide +kernel
  rw [e]
  show decide ([c] < [32]) = _
  refine decide_eq_decide.2 ?_
  rw [List.cons_lt_cons_iff]
  simp
  lia
theorem eq_del (c : Nat) : ((⟨#[c]⟩ : Str) == Str.ofString "\x7f") = (c == 127) := by
  have e : Str.ofString "\x7f" = ofl [127] := by decide +kernel
  rw [e, Bool.eq_iff_iff, beq_iff_eq, beq_iff_eq]
  refine ⟨fun h => ?_, fun h => by rw [h]; rfl⟩
  have : cp (ofl [c]) = cp (ofl [127]) := congrArg cp h
  rw [cp_ofl, cp_ofl] at this
  cases this; rfl
theorem signs_any (x : Str) (src : Nat → PV) : ((!(((List.range x.length).filter fun j => PN ((cp x).getD j 0)).map src).isEmpty) : Bool) = hasN x := by
  have h : ∀ l : List Nat, ((!(((List.range l.length).filter fun j => PN (l.getD j 0)).map src).isEmpty) : Bool) = l.any PN := by
    intro l
    have e := filt_get l 0 (fun c => c) PN
    cases hz : l.any PN with
    | true =>
      have : (List.range l.length).filter (fun j => PN (l.getD j 0)) ≠ [] := by
        intro z
        rw [z] at e
        obtain ⟨c, hc, hp⟩ := List.any_eq_true.mp hz
        have : c ∈ (l.filter PN).map fun c => c := by rw [List.map_id']; exact List.mem_filter.mpr ⟨hc, hp⟩
        rw [← e] at this
        cases this
      cases hq : (List.range l.length).filter (fun j => PN (l.getD j 0)) with
      | nil => exact absurd hq this
      | cons a b => rfl
    | false =>
      have : l.filter PN = [] := by
        rw [List.filter_eq_nil_iff]
        intro c hc hp
        rw [List.any_eq_false] at hz
        exact hz c hc hp
      rw [this] at e
      rw [List.map_eq_nil_iff.mp e]; rfl
  have := h (cp x)
  rw [cp_len] at this
  exact this
theorem sml_ok {x : Str} (h : Sml (cp x)) : PyData.strOk x = true := by
  unfold PyData.strOk
  rw [← Array.all_toList, List.all_eq_true]
  intro c hc
  have := h c hc
  exact decide_eq_true (by lia)
noncomputable def rowD (r : Str × Str) : PyData := .tuple [.str r.1, .str r.2]
theorem rowD_lay {r : Str × Str} (h : Sml (cp r.1) ∧ Sml (cp r.2)) : (rowD r).canLay0 = true := by
  show (PyData.strOk r.1 && (PyData.strOk r.2 && true)) = true
  rw [sml_ok h.1, sml_ok h.2]; rfl
theorem rows_lay : ∀ rows : Rows, (∀ q ∈ rows, Sml (cp q.1) ∧ Sml (cp q.2)) → PyData.canLayAll0 (rows.map rowD) = true
  | [], _ => rfl
  | r :: rows, h => by
    show ((rowD r).canLay0 && PyData.canLayAll0 (rows.map rowD)) = true
    rw [rowD_lay (h r List.mem_cons_self), rows_lay rows fun q m => h q (List.mem_cons_of_mem _ m)]; rfl
theorem pall_rows (H : List PO) (k : Nat) : ∀ rows : Rows, pall (pdata H (k + 1)) (rows.map row) = some (rows.map rowD)
  | [] => rfl
  | r :: rows => by
    have e : pdata H (k + 1) (row r) = some (rowD r) := by cases k <;> rfl
    show (match pdata H (k + 1) (row r), pall (pdata H (k + 1)) (rows.map row) with
      | some d, some ds => some (d :: ds)
      | _, _ => none) = _
    rw [e, pall_rows H k rows]; rfl
theorem any_rows (r : Str × Str) : ∀ rows : Rows, ((rows.map rowD).any fun e => PyData.eqv e (rowD r)) = decide (r ∈ rows)
  | [] => rfl
  | q :: rows => by
    rw [List.map_cons, List.any_cons, any_rows r rows]
    have e : PyData.eqv (rowD q) (rowD r) = decide (q = r) := by
      show ((q.1 == r.1) && ((q.2 == r.2) && true)) = _
      rw [Bool.and_true, Bool.eq_iff_iff, Bool.and_eq_true, beq_iff_eq, beq_iff_eq, decide_eq_true_eq]
      exact ⟨fun ⟨a, b⟩ => Prod.ext a b, fun h => by rw [h]; exact ⟨rfl, rfl⟩⟩
    rw [e, Bool.eq_iff_iff, Bool.or_eq_true, decide_eq_true_eq, decide_eq_true_eq, decide_eq_true_eq, List.mem_cons]
    exact ⟨fun h => h.elim (fun h => .inl h.symm) .inr, fun h => h.elim (fun h => .inl h.symm) .inr⟩
theorem PW.notinR {σ : PS} {r : Str × Str} {i : Nat} {rows : Rows} {Q : PV → PS → Prop} (e : σ.H[i]? = some (.list (rows.map row))) (h1 : Sml (cp r.1) ∧ Sml (cp r.2)) (h2 : ∀ q ∈ rows, Sml (cp q.1) ∧ Sml (cp q.2)) (h : Q (.bool (!decide (r ∈ rows))) σ) : PW (pNotIn (row r) (.ref i)) σ Q := by
  have d : pdata σ.H 4 (.ref i) = some (.list (rows.map rowD)) := by
    show (match σ.H[i]? with | some (.list l) => (pall (pdata σ.H 3) l).map PyData.list | _ => none) = _
    rw [e]
    dsimp only
    rw [pall_rows]; rfl
  have s : shaped (rowD r) = true := by
    unfold shaped
    rw [rowD_lay h1]; rfl
  refine ⟨.bool (!decide (r ∈ rows)), σ, ?_, h⟩
  show pdat2 (row r) (.ref i) (fun x y => match y with
    | .list xs => pguard (shaped x = true ∧ PyData.canLayAll0 xs = true) (PM.pure (.bool (!(xs.any fun e => PyData.eqv e x))))
    | _ => pfail) σ = _
  unfold pdat2
  rw [d, show pdata σ.H 4 (row r) = some (rowD r) from rfl]
  dsimp only
  unfold pguard
  rw [if_pos ⟨s, rows_lay rows h2⟩, any_rows]
  rfl
theorem strs_lay' : ∀ l : List Str, (∀ x ∈ l, Sml (cp x)) → PyData.canLayAll0 (l.map PyData.str) = true
  | [], _ => rfl
  | x :: l, h => by
    show (PyData.strOk x && PyData.canLayAll0 (l.map PyData.str)) = true
    rw [sml_ok (h x List.mem_cons_self), strs_lay' l fun y m => h y (List.mem_cons_of_mem _ m)]; rfl
theorem PW.eqPair {σ : PS} {i j : Nat} {xs : List Str} {x : Str} {Q : PV → PS → Prop} (e1 : σ.H[i]? = some (.list (xs.map PV.str))) (e2 : σ.H[j]? = some (.list (xs.map PV.str))) (hx : Sml (cp x)) (hs : ∀ y ∈ xs, Sml (cp y)) (h : Q (.bool true) σ) : PW (pEq (.tup [.ref i, .str x]) (.tup [.ref j, .str x])) σ Q := by
  have d : ∀ i, σ.H[i]? = some (.list (xs.map PV.str)) → pdata σ.H 4 (.tup [.ref i, .str x]) = some (.tuple [.list (xs.map PyData.str), .str x]) := by
    intro i e
    have e3 : pdata σ.H 3 (.ref i) = some (.list (xs.map PyData.str)) := by
      show (match σ.H[i]? with | some (.list l) => (pall (pdata σ.H 2) l).map PyData.list | _ => none) = _
      rw [e]
      dsimp only
      rw [pall_strs]; rfl
    show ((match pdata σ.H 3 (.ref i), pall (pdata σ.H 3) [.str x] with
      | some d, some ds => some (d :: ds)
      | _, _ => none) : Option (List PyData)).map PyData.tuple = _
    rw [e3]; rfl
  have hl : (PyData.tuple [.list (xs.map PyData.str), .str x]).canLay0 = true := by
    show (PyData.canLayAll0 (xs.map PyData.str) && (PyData.strOk x && true)) = true
    rw [strs_lay' xs hs, sml_ok hx]; rfl
  have s : shaped (.tuple [.list (xs.map PyData.str), .str x]) = true := by
    unfold shaped
    rw [hl, Bool.true_and]
    refine decide_eq_true ?_
    simp only [PyData.depth, PyData.depthAll, strs_depth]
    decide
  refine ⟨.bool true, σ, ?_, h⟩
  show pdat2 (.tup [.ref i, .str x]) (.tup [.ref j, .str x]) (fun x y => pguard (shaped x = true ∧ shaped y = true) (PM.pure (.bool (PyData.eqv x y)))) σ = _
  unfold pdat2
  rw [d i e1, d j e2]
  dsimp only
  unfold pguard
  rw [if_pos ⟨s, s⟩, eqv_refl _ hl]
  rfl
end

section
open PySem PySem.W PyProof.Rows PySem.Spec PySem.SeqAt PySem.Calls
set_option autoImplicit false
set_option linter.unusedVariables false
set_option linter.unusedSectionVars false
set_option maxRecDepth 100000
set_option tactic.hygienic false
noncomputable def SmlV (rows : Rows) : Prop := ∀ r ∈ rows, Sml (cp r.2)
theorem vals_sml : ∀ v ∈ vals, ((cp v).all fun y => decide (y < 256)) = true ∧ ((cp (v ++ suf)).all fun y => decide (y < 256)) = true := by
  intro v h
  unfold vals at h
  simp only [List.mem_cons, List.not_mem_nil, or_false] at h
  rcases h with rfl | rfl | rfl | rfl | rfl | rfl <;> decide +kernel
theorem all_sml {l : List Nat} (h : (l.all fun y => decide (y < 256)) = true) : Sml l := fun y hy => of_decide_eq_true (List.all_eq_true.mp h y hy)
theorem deed_smlV {k : Nat} {n v : Str} {rows : Rows} (hr : SmlV rows) (hv : v ∈ vals) : SmlV (deedR k n v rows).2 ∧ Sml (cp ((deedR k n v rows).1.getD refS)) := by
  have hR : Sml (cp refS) := all_sml (by decide +kernel)
  have hD : Sml (cp doneS) := all_sml (by decide +kernel)
  have hv1 : Sml (cp v) := all_sml (vals_sml v hv).1
  have hv2 : Sml (cp (v ++ suf)) := all_sml (vals_sml v hv).2
  have hk : SmlV (kept rows n) := fun r m => hr r (kept_sub.1 r m)
  have add : ∀ {rs : Rows} {w : Str}, SmlV rs → Sml (cp w) → SmlV (rs ++ [(n, w)]) := fun h1 h2 r m => by
    rcases List.mem_append.mp m with m | m
    · exact h1 r m
    · rw [List.mem_singleton.mp m]; exact h2
  cases hN : hasN n with
  | true => rw [deed_bad hN]; exact ⟨hr, hR⟩
  | false =>
    match k with
    | 0 =>
      rw [deed0 hN]
      cases hasV v with
      | true => exact ⟨hk, hR⟩
      | false => exact ⟨add hk hv1, hD⟩
    | 1 =>
      rw [deed1 hN]
      cases hf : findRow rows n with
      | some r => exact ⟨hr, hr r (List.mem_of_find?_eq_some hf)⟩
      | none =>
        cases hasV v with
        | true => exact ⟨hr, hR⟩
        | false => exact ⟨add hr hv1, hv1⟩
    | 2 =>
      rw [deed2 hN]
      cases hasV v with
      | true => exact ⟨hr, hR⟩
      | false => exact ⟨add hr hv2, hD⟩
    | k + 3 => rw [deed3 hN]; exact ⟨hk, hD⟩
theorem tS_small (N : Nat) (cs : List Nat) : ∀ j, SmlV (tS N cs j).1 ∧ ∀ x ∈ (tS N cs j).2, Sml (cp x)
  | 0 => ⟨(fun r m => by cases m), (fun x m => by cases m)⟩
  | j + 1 => by
    obtain ⟨h1, h2⟩ := tS_small N cs j
    obtain ⟨h3, h4⟩ := deed_smlV (k := cs.getD j 0 % 4) (n := phi (N - j) (dname (cs.getD j 0))) h1 (val_mem (cs.getD j 0))
    refine ⟨h3, fun x m => ?_⟩
    rcases List.mem_append.mp m with m | m
    · exact h2 x m
    · rw [List.mem_singleton.mp m]; exact h4
theorem tS_ans (N : Nat) (cs : List Nat) : ∀ j, (tS N cs j).2.length = j
  | 0 => rfl
  | j + 1 => by
    show ((tS N cs j).2 ++ [_]).length = _
    rw [List.length_append, tS_ans N cs j]; rfl
theorem text_sml {rows : Rows} (h1 : SmlR rows) (h2 : SmlV rows) : Sml (cp (textOf rows)) := by
  rw [cp_textF]
  refine sml_app ?_ (by intro y hy; simp at hy; lia)
  intro y hy
  obtain ⟨l, hl, hy⟩ := List.mem_flatten.mp hy
  obtain ⟨r, hr, rfl⟩ := List.mem_map.mp hl
  rw [lineL_eq] at hy
  refine sml_app (sml_app (sml_app (h1 r hr) ?_) (h2 r hr)) ?_ y hy <;> (intro y hy; simp at hy; lia)
noncomputable def alike (rows : Rows) (n : Str) : Rows := rows.filter fun r => Txt.lower r.1 == Txt.lower n
theorem alike_head (rows : Rows) (n : Str) : (alike rows n).head? = findRow rows n := List.head?_filter
theorem alike_not {rows : Rows} {n : Str} {r : Str × Str} (h : r ∈ rows) : (!decide (r ∈ alike rows n)) = (Txt.lower r.1 != Txt.lower n) := by
  have : decide (r ∈ alike rows n) = (Txt.lower r.1 == Txt.lower n) := by
    rw [Bool.eq_iff_iff, decide_eq_true_eq]
    unfold alike
    rw [List.mem_filter]
    exact ⟨fun h => h.2, fun z => ⟨h, z⟩⟩
  rw [this]; rfl
theorem val_feed : ∀ v ∈ vals, (!(Builtin.Str.occurrences v (Str.ofString "\n") 0 v.length 1).isEmpty) = hasV v := by
  intro v h
  unfold vals at h
  simp only [List.mem_cons, List.not_mem_nil, or_false] at h
  rcases h with rfl | rfl | rfl | rfl | rfl | rfl <;> decide +kernel
noncomputable def lnS (r : Str × Str) : Str := r.1 ++ Str.ofString ": " ++ r.2 ++ Str.ofString "\x0d\n"
theorem cp_lnS (r : Str × Str) : cp (lnS r) = lineL r := by
  unfold lnS
  rw [lineL_eq, cp_app, cp_app, cp_app, cN, cC]
theorem cat_nil : ∀ l : List (List Nat), cat [] l = l.flatten
  | [] => rfl
  | [p] => by show p = _; simp
  | p :: q :: r => by rw [cat_cons, cat_nil (q :: r)]; simp
theorem told_text (rows : Rows) : Txt.join (Str.ofString "") (rows.map lnS) ++ Str.ofString "\x0d\n" = textOf rows := by
  refine str_ext ?_
  rw [cp_app, cN, cp_textF]
  unfold Txt.join
  rw [StrLaws.glued_eq_join, cp_join, empty_cp, cat_nil, List.map_map]
  congr 2
  exact List.map_congr_left fun r _ => cp_lnS r
theorem lnS_len {r : Str × Str} (h1 : r.1.length ≤ 40) (h2 : r.2.length ≤ 20) : (lnS r).length ≤ 64 := by
  unfold lnS
  rw [len_app, len_app, len_app, lC, lN]; lia
theorem told_ok {rows : Rows} (h : rows.length ≤ 7) (h2 : ∀ r ∈ rows, r.1.length ≤ 40 ∧ r.2.length ≤ 20) : JoinOk (Str.ofString "") (rows.map lnS) = true ∧ (Txt.join (Str.ofString "") (rows.map lnS)).length ≤ 448 := by
  have e0 : (Str.ofString "").length = 0 := by decide +kernel
  have hs : ((rows.map lnS).map fun x => x.length + (Str.ofString "").length).sum ≤ 7 * 64 := by
    refine Nat.le_trans (sum_le (b := 64) ?_) ?_
    · intro x hx
      obtain ⟨t, ht, rfl⟩ := List.mem_map.mp hx
      obtain ⟨r, hr, rfl⟩ := List.mem_map.mp ht
      rw [e0]
      exact lnS_len (h2 r hr).1 (h2 r hr).2
    · refine Nat.mul_le_mul_right _ ?_
      rw [List.length_map, List.length_map]; exact h
  constructor
  · unfold JoinOk
    rw [List.foldl_toArray]
    have h1 := foldl_len (Str.ofString "").length (rows.map lnS) 0
    have hsl := sizeLine_eq
    unfold Builtin.Str.tooLong
    rw [Bool.not_eq_true', decide_eq_false_iff_not]
    lia
  · unfold Txt.join
    rw [StrLaws.glued_eq_join]
    have := StrLaws.join_length_le (Str.ofString "") (rows.map lnS)
    have e1 : ((rows.map lnS).map fun x => x.length + (Str.ofString "").length) = (rows.map lnS).map (·.length) := List.map_congr_left fun x _ => by rw [e0]; rfl
    rw [e1] at hs
    rw [e0, Nat.mul_zero] at this
    lia
noncomputable def toldR (k : Nat) (n v : Str) (rows : Rows) : Option Str × Rows :=
  if k < 3 then if hasV v = true then (none, if k % 3 = 0 then kept rows n else rows) else (some (if k = 1 then v else doneS), (if k % 3 = 0 then kept rows n else rows) ++ [(n, if k = 2 then v ++ suf else v)]) else (some doneS, if k % 3 = 0 then kept rows n else rows)
theorem told_deed {k : Nat} {n v : Str} {rows : Rows} (hN : hasN n = false) (hk : k < 4) (h : ¬ (k = 1 ∧ ∃ r, findRow rows n = some r)) : deedR k n v rows = toldR k n v rows := by
  match k, hk with
  | 0, _ => rw [deed0 hN]; rfl
  | 1, _ =>
    rw [deed1 hN]
    cases hf : findRow rows n with
    | some r => exact absurd ⟨rfl, r, hf⟩ h
    | none => rfl
  | 2, _ => rw [deed2 hN]; rfl
  | 3, _ => rw [deed3 hN]; rfl
theorem alike_nil {rows : Rows} {n : Str} (h : ¬ ∃ r, findRow rows n = some r) : alike rows n = [] := by
  have e := alike_head rows n
  cases ha : alike rows n with
  | nil => rfl
  | cons a l => rw [ha] at e; exact absurd ⟨a, e.symm⟩ h
theorem alike_cons {rows : Rows} {n : Str} {r : Str × Str} (h : findRow rows n = some r) : ∃ l, alike rows n = r :: l := by
  have e := alike_head rows n
  rw [h] at e
  cases ha : alike rows n with
  | nil => rw [ha] at e; cases e
  | cons a l => rw [ha] at e; cases e; exact ⟨l, rfl⟩
theorem inner1 {σ : PS} {n : String} {p : PV} (h : σ.loc.lookup n = some p) : (pinner [n] σ).loc.lookup n = some p := by
  unfold pinner
  simp [List.filterMap_cons, h]
theorem back1 {n : String} {p : PV} {i o : List (String × PV)} (h : i.lookup n = some p) : pback [n] i o = some (lset n p o) := by
  unfold pback
  rw [h]; rfl
theorem PW.stage {α : Type} {p : PM α} {σ : PS} {Q Q' : α → PS → Prop} (K : PS → Prop) (hk : K σ) (h : ∀ τ, K τ → PW p τ Q') (rest : ∀ a τ, Q' a τ → Q a τ) : PW p σ Q := (h σ hk).mono rest
theorem PW.inStr {σ : PS} {x y : Str} {Q : PV → PS → Prop} (h : Q (.bool (!(Builtin.Str.occurrences x y 0 x.length 1).isEmpty)) σ) : PW (pIn (.str y) (.str x)) σ Q := PW.pure h
theorem PW.ltS {σ : PS} {x y : Str} {Q : PV → PS → Prop} (h : Q (.bool (decide (x.cps.toList < y.cps.toList))) σ) : PW (pLt (.str x) (.str y)) σ Q := PW.pure h
theorem PW.truthL {σ : PS} {i : Nat} {l : List PV} {Q : Bool → PS → Prop} (e : σ.H[i]? = some (.list l)) (hl : l.length ≤ sizeLine) (h : Q (!l.isEmpty) σ) : PW (ptruthy (.ref i)) σ Q := PW.plist e (PW.guard hl (PW.pure h))
end

section
open PySem PySem.W PyProof.Rows PySem.Spec PySem.SeqAt PySem.Calls
set_option autoImplicit false
set_option linter.unusedVariables false
set_option linter.unusedSectionVars false
set_option maxRecDepth 100000
set_option maxHeartbeats 4000000
set_option tactic.hygienic false
noncomputable def ToldLaw (sp : FSpec) : Prop := ∀ (H : List PO) (d : Nat) (cs : List Nat), H[d]? = some (.list (cs.map deedP)) → cs.length ≤ 7 →
  ∃ X a, sp [.ref d] [] H = some (.ok (.tup [.ref a, .str (textOf (tS cs.length cs cs.length).1)]), H ++ X) ∧ (H ++ X)[a]? = some (.list ((tS cs.length cs cs.length).2.map .str))
structure TK (H : List PO) (d A al k : Nat) (ans : List Str) (sm : Rows) (n v : Str) (rows : Rows) (σ : PS) : Prop where
  ex : ∃ R, σ.loc.lookup "rows" = some (.ref R) ∧ σ.H[R]? = some (.list (rows.map row)) ∧ H.length ≤ R ∧ A ≠ R
  hp : ∃ Y, σ.H = H ++ Y
  ld : σ.loc.lookup "deeds" = some (.ref d)
  la : σ.loc.lookup "answers" = some (.ref A)
  lk : σ.loc.lookup "kind" = some (natP k)
  ln : σ.loc.lookup "name" = some (.str n)
  lv : σ.loc.lookup "value" = some (.str v)
  ll : σ.loc.lookup "alike" = some (.ref al)
  lw : σ.loc.lookup "answer" = some (.str doneS)
  eA : σ.H[A]? = some (.list (ans.map .str))
  el : σ.H[al]? = some (.list (sm.map row))
noncomputable def TP (H : List PO) (d A : Nat) (ans : List Str) (res : Option Str × Rows) (σ : PS) : Prop := ∃ R Y, σ.H = H ++ Y ∧ σ.H[R]? = some (.list (res.2.map row)) ∧ H.length ≤ R ∧ A ≠ R ∧ σ.loc.lookup "rows" = some (.ref R) ∧ σ.loc.lookup "answers" = some (.ref A) ∧ σ.loc.lookup "deeds" = some (.ref d) ∧ σ.H[A]? = some (.list (ans.map .str)) ∧ σ.loc.lookup "answer" = some (.str (res.1.getD refS))
section
variable {W : Wd} {P : Params} (hK : W.K = hd.heap_1 P) (hC : W.C = 201) (hCl : ClsOk W) (hP : PatsOk W PT)
include hK hC hCl hP
theorem m_told : ∃ sp, CHolds W 1 (.ref 236) sp ∧ ToldLaw sp := by
  refine own_mk' (c_own (d := 0) (fd := ?fd) (body := ?body) (ns := ["deeds"]) (p := ?p) ?D (bind_pos ?B) (fun _ _ _ _ _ h => pb0_names h) fun L => ?S) ?law
  case D => (refine ⟨⟨?_, ?h1, ?h2⟩, ?h3, ?h4, ?h5, ?h6, ?h7, ?h8, ?h9, ?h10, ?h11, ?h12, ?h13⟩; (case h1 => rw [‹Wd.K _ = hd.heap_1 _›]; rfl); (case h2 => rfl); (case h3 => rfl); (case h4 => rw [‹Wd.K _ = hd.heap_1 _›]; rfl); (case h5 => rfl); (case h6 => rfl); (case h7 => rfl); (case h8 => rfl); (case h9 => rfl); (case h10 => rfl); (case h11 => exact names_ok (by decide +kernel)); (case h12 => decide +kernel); (case h13 => decide +kernel))
  case B => exact bp1 fun a => by with_unfolding_all rfl
  case S => 
    refine' sb_as ?hT ?hE
    case hT => exact (b_cons (st_swap2 rfl rfl (s_tuple (ss_cons (s_list ss_nil) (ss_cons (s_list ss_nil) ss_nil rfl) rfl)) (.inl rfl) (.inl rfl)) (b_cons (st_for (100) (si_range rfl (by rw [hK]; rfl) (ss_cons (b_len rfl (by rw [hK]; rfl) (ss_cons (e_name (by decide +kernel) (by decide +kernel)) ss_nil rfl) rfl) ss_nil rfl) rfl) (a_name (.inl rfl)) (b_cons (st_assign (s_cut (s_item (e_name (by decide +kernel) (by decide +kernel)) (e_name (by decide +kernel) (by decide +kernel)) (fun _ => (fun _ => rfl))) sp_none (sp_some e_int) sp_none) (a_tuple (.cons (a_name (.inl rfl)) (.cons (a_name (.inr ⟨rfl, _, rfl⟩)) (.cons (a_name (.inl rfl)) .nil))) rfl) rfl rfl rfl) (b_cons (st_if (t_eq (s_cut (e_name (by decide +kernel) (by decide +kernel)) sp_none (sp_some e_int) sp_none) e_str rfl) (b_one (st_assign (s_add (s_mul e_str (s_sub (b_len rfl (by rw [hK]; rfl) (ss_cons (e_name (by decide +kernel) (by decide +kernel)) ss_nil rfl) rfl) (e_name (by decide +kernel) (by decide +kernel)))) (e_name (by decide +kernel) (by decide +kernel))) (a_name (.inr ⟨rfl, _, rfl⟩)) rfl rfl rfl)) b_nil) (b_cons (st_assign (s_comp0 (100) rfl (si_list (e_name (by decide +kernel) (by decide +kernel))) (a_name (.inl rfl)) (tests_one (t_eq (m_lower (s_item (e_name (by decide +kernel) (by decide +kernel)) e_int (fun _ => (fun _ => rfl))) ss_nil rfl (fun _ => rfl) rfl rfl) (m_lower (e_name (by decide +kernel) (by decide +kernel)) ss_nil rfl (fun _ => rfl) rfl rfl) rfl)) (e_name (by decide +kernel) (by decide +kernel)) (fun C => (a_name (.inl rfl))) (fun C => (tests_one (t_eq (m_lower (s_item (e_name (by decide +kernel) (by decide +kernel)) e_int (fun _ => (fun _ => rfl))) ss_nil rfl (fun _ => rfl) rfl rfl) (m_lower (e_name (by decide +kernel) (by decide +kernel)) ss_nil rfl (fun _ => rfl) rfl rfl) rfl))) (fun C => (e_name (by decide +kernel) (by decide +kernel))) (fun _ => rfl) (by decide +kernel) rfl (by decide +kernel) ⟨(.cons ⟨rfl, rfl, rfl, .inl rfl⟩ .nil), by decide +kernel⟩) (a_name (.inr ⟨rfl, _, rfl⟩)) rfl rfl rfl) (b_cons (st_assign e_str (a_name (.inl rfl)) rfl rfl rfl) (b_cons (st_if (t_plain (s_comp0 (100) rfl (si_text (e_name (by decide +kernel) (by decide +kernel))) (a_name (.inl rfl)) (tests_one (t_or2 (t_lt (e_name (by decide +kernel) (by decide +kernel)) e_str rfl) (t_eq (e_name (by decide +kernel) (by decide +kernel)) e_str rfl))) (e_name (by decide +kernel) (by decide +kernel)) (fun C => (a_name (.inl rfl))) (fun C => (tests_one (t_or2 (t_lt (e_name (by decide +kernel) (by decide +kernel)) e_str rfl) (t_eq (e_name (by decide +kernel) (by decide +kernel)) e_str rfl)))) (fun C => (e_name (by decide +kernel) (by decide +kernel))) (fun _ => rfl) (by decide +kernel) rfl (by decide +kernel) ⟨.nil, by decide +kernel⟩) rfl) (b_one (st_assign e_str (a_name (.inl rfl)) rfl rfl rfl)) (b_one (st_if (t_and2 (t_eq (e_name (by decide +kernel) (by decide +kernel)) e_int rfl) (t_plain (e_name (by decide +kernel) (by decide +kernel)) rfl)) (b_one (st_assign (s_item (s_item (e_name (by decide +kernel) (by decide +kernel)) e_int (fun _ => (fun _ => rfl))) e_int (fun _ => (fun _ => rfl))) (a_name (.inl rfl)) rfl rfl rfl)) (b_cons (st_if (t_eq (s_mod (e_name (by decide +kernel) (by decide +kernel)) e_int) e_int rfl) (b_one (st_compS (100) rfl rfl (si_list (e_name (by decide +kernel) (by decide +kernel))) (a_name (.inl rfl)) (tests_one (t_notin (e_name (by decide +kernel) (by decide +kernel)) (e_name (by decide +kernel) (by decide +kernel)) rfl)) (e_name (by decide +kernel) (by decide +kernel)) (fun C => (a_name (.inl rfl))) (fun C => (tests_one (t_notin (e_name (by decide +kernel) (by decide +kernel)) (e_name (by decide +kernel) (by decide +kernel)) rfl))) (fun C => (e_name (by decide +kernel) (by decide +kernel))) (fun _ => rfl) (by decide +kernel) rfl (by decide +kernel) ⟨(.cons ⟨rfl, rfl, rfl, .inl rfl⟩ .nil), by decide +kernel⟩ (.inl rfl))) b_nil) (b_one (st_if (t_and2 (t_lt (e_name (by decide +kernel) (by decide +kernel)) e_int rfl) (t_in e_str (e_name (by decide +kernel) (by decide +kernel)) rfl)) (b_one (st_assign e_str (a_name (.inl rfl)) rfl rfl rfl)) (b_one (st_if (t_lt (e_name (by decide +kernel) (by decide +kernel)) e_int rfl) (b_cons (st_expr (ml_append (e_name (by decide +kernel) (by decide +kernel)) (ss_cons (s_tuple (ss_cons (e_name (by decide +kernel) (by decide +kernel)) (ss_cons (s_if (t_eq (e_name (by decide +kernel) (by decide +kernel)) e_int rfl) (s_add (e_name (by decide +kernel) (by decide +kernel)) e_str) (e_name (by decide +kernel) (by decide +kernel))) ss_nil rfl) rfl)) ss_nil rfl) rfl (fun _ => rfl) rfl rfl) rfl rfl) (b_one (st_assign (s_if (t_eq (e_name (by decide +kernel) (by decide +kernel)) e_int rfl) (e_name (by decide +kernel) (by decide +kernel)) e_str) (a_name (.inl rfl)) rfl rfl rfl))) b_nil)))))))) (b_one (st_expr (ml_append (e_name (by decide +kernel) (by decide +kernel)) (ss_cons (e_name (by decide +kernel) (by decide +kernel)) ss_nil rfl) rfl (fun _ => rfl) rfl rfl) rfl rfl))))))) (fun _ => rfl)) (b_one (st_ret (s_tuple (ss_cons (e_name (by decide +kernel) (by decide +kernel)) (ss_cons (s_add (m_join e_str (ss_cons (s_comp0 (100) rfl (si_list (e_name (by decide +kernel) (by decide +kernel))) (a_tuple (.cons (a_name (.inl rfl)) (.cons (a_name (.inl rfl)) .nil)) rfl) tests_nil (s_add (s_add (s_add (e_name (by decide +kernel) (by decide +kernel)) e_str) (e_name (by decide +kernel) (by decide +kernel))) e_str) (fun C => (a_tuple (.cons (a_name (.inl rfl)) (.cons (a_name (.inl rfl)) .nil)) rfl)) (fun C => tests_nil) (fun C => (s_add (s_add (s_add (e_name (by decide +kernel) (by decide +kernel)) e_str) (e_name (by decide +kernel) (by decide +kernel))) e_str)) (fun _ => rfl) (by decide +kernel) rfl (by decide +kernel) ⟨.nil, by decide +kernel⟩) ss_nil rfl) rfl (fun _ => rfl) rfl rfl) e_str) ss_nil rfl) rfl))))))
    case hE => exact rfl
  case law =>
    clear hP hCl hC hK
    intro H d cs hd hcs
    generalize hF : fspec _ _ [PV.ref d] [] H = F
    have key : ∃ v H', F = some (.ok v, H') ∧ ∃ X a, v = .tup [.ref a, .str (textOf (tS cs.length cs cs.length).1)] ∧ H' = H ++ X ∧ (H ++ X)[a]? = some (.list ((tS cs.length cs cs.length).2.map .str)) := by
      rw [← hF]
      clear hF
      have hsl := sizeLine_eq
      refine PW.fspecE (l := [("deeds", .ref d)]) (H₁ := H) rfl ?_
      walk_at "p"
      refine PW.guard (by rw [sizeLine_eq]; decide) ?_
      walk_at "p"
      refine PW.guard (by rw [sizeLine_eq]; decide) ?_
      walk_at "p"
      refine PW.guard ⟨by rw [sizeLine_eq]; simp, rfl⟩ ?_
      walk_at "p"
      refine PW.swap2 ?_
      walk_at "p"
      refine PW.lenL (get_app (get_app hd)) (by rw [List.length_map, sizeLine_eq]; lia) ?_
      rw [List.length_map]
      walk_at "p"
      refine PW.nxR (n := (cs.length : Int)) (by lia) ?_
      have hA : (H ++ [PO.list []]).length = H.length + 1 := by rw [List.length_append]; rfl
      rw [hA]
      refine PW.forRange (a := 0) (n := (cs.length : Int)) (fun j σ => ∃ R Y, σ.H = H ++ Y ∧ σ.H[R]? = some (.list ((tS cs.length cs j).1.map row)) ∧ H.length ≤ R ∧ H.length + 1 ≠ R ∧ σ.loc.lookup "rows" = some (.ref R) ∧ σ.loc.lookup "answers" = some (.ref (H.length + 1)) ∧ σ.loc.lookup "deeds" = some (.ref d) ∧ σ.H[H.length + 1]? = some (.list ((tS cs.length cs j).2.map .str)) ∧ j ≤ cs.length) ?step ?fin 100 0 _ (by decide) (by lia) ⟨H.length, [.list [], .list []], List.append_assoc _ _ _, get_app (last_get _ _), Nat.le_refl _, by lia, rfl, rfl, rfl, by rw [← hA]; exact last_get _ _, Nat.zero_le _⟩
      case step =>
        rintro j σ hj ⟨R, Y, hH, eR, gR, ne, lr, la, ld, eA, _⟩
        have hj : j < cs.length := by lia
        rw [Int.zero_add]
        obtain ⟨g1, g2⟩ := tS_ok (N := cs.length) (cs := cs) (j := j) (by lia) (by lia)
        have hdj : σ.H[d]? = some (.list (cs.map deedP)) := by rw [hH]; exact get_app hd
        have hvm := val_mem (cs.getD j 0)
        have hk4 := Nat.mod_lt (cs.getD j 0) (show 0 < 4 by decide)
        have hvl := (val_ok _ hvm).1
        have hnl := name_len (cs.getD j 0)
        have hns := name_sml (cs.getD j 0)
        have hsm : ∀ q ∈ (tS cs.length cs j).1, Sml (cp q.1) ∧ Sml (cp q.2) := fun q m => ⟨(g2 q m).2.2.2, (tS_small cs.length cs j).1 q m⟩
        have hans := tS_ans cs.length cs j
        have hnext : tS cs.length cs (j + 1) = ((deedR (cs.getD j 0 % 4) (phi (cs.length - j) (dname (cs.getD j 0))) (dval (cs.getD j 0)) (tS cs.length cs j).1).2, (tS cs.length cs j).2 ++ [(deedR (cs.getD j 0 % 4) (phi (cs.length - j) (dname (cs.getD j 0))) (dval (cs.getD j 0)) (tS cs.length cs j).1).1.getD refS]) := rfl
        have hm : cs.length - j ≤ 7 := by lia
        show PW (pput "place" (natP j)) _ _
        walk_at "p"
        refine PW.itemN hdj (get_getD (f := deedP) (d := 0) hj) (by lia) ?_
        unfold deedP
        walk_at "p"
        refine PW.cutT3 ?_
        walk_at "p"
        refine PW.guard rfl ?_
        refine PW.put3 ?_
        rw [hnext]
        clear hnext
        have hlen : (cs.map deedP).length ≤ sizeLine := by rw [List.length_map, hsl]; lia
        generalize hc : cs.getD j 0 = c at *
        generalize dval c = v at *
        generalize hx : dname c = x at *
        generalize c % 4 = k at *
        generalize hmm : cs.length - j = m at *
        generalize hrs : tS cs.length cs j = rs at *
        have hpl : (phi m x).length ≤ 13 := by
          have h1 := len_phi m (cp x)
          rw [← cp_len, cp_phi]
          rw [cp_len] at h1
          lia
        have hps : Sml (cp (phi m x)) := by rw [cp_phi]; exact sml_phi hns
        walk_at "p"
        refine PW.cut1 (by lia) ?_
        walk_at "p"
        rw [dot_head]
        refine PW.mono (Q := fun f τ => f = PF.next ∧ τ.H = σ.H ∧ τ.loc.lookup "deeds" = some (.ref d) ∧ τ.loc.lookup "answers" = some (.ref (H.length + 1)) ∧ τ.loc.lookup "rows" = some (.ref R) ∧ τ.loc.lookup "kind" = some (natP k) ∧ τ.loc.lookup "name" = some (.str (phi m x)) ∧ τ.loc.lookup "value" = some (.str v)) ?i1 ?i2
        case i1 =>
          by_cases hh : (cp x).head? = some 46
          · refine PW.ifT (decide_eq_true hh) ?_
            walk_at "p"
            refine PW.lenL hdj hlen ?_
            rw [List.length_map]
            walk_at "p"
            refine PW.subN (by lia) ?_
            rw [hmm]
            walk_at "p"
            refine PW.mulD (by lia) ?_
            walk_at "p"
            refine PW.addS (by rw [dots_len, hsl]; lia) ?_
            rw [phi_head hh]
            walk_at "p"
            refine ⟨rfl, rfl, ?_, ?_, ?_, ?_, ?_, ?_⟩ <;> walk_at "lk"
          · refine PW.ifF (decide_eq_false hh) ?_
            rw [← phi_none hh]
            walk_at "p"
            refine ⟨rfl, rfl, ?_, ?_, ?_, ?_, ?_, ?_⟩ <;> walk_at "lk"
        case i2 =>
          rintro f τ ⟨rfl, hτ, l1, l2, l3, l4, l5, l6⟩
          dsimp only
          generalize phi m x = nm at *
          rw [← hτ] at eR eA hH
          have hd : τ.H[d]? = some (.list (cs.map deedP)) := by rw [hH]; exact get_app hd
          clear hj ld la lr
          have gA0 : H.length ≤ H.length + 1 := Nat.le_succ _
          generalize H.length + 1 = A at *
          have gA := lt_of_get eA
          walk_at "p"
          refine PW.filtR (rows := rs.1) (i := R) (fun r => Txt.lower r.1 == Txt.lower nm) (fun loc => loc.lookup "name" = some (.str nm)) ?c1 eR (by lia) (inner1 l5) ?c3 ?c4
          case c1 =>
            walk_at "p"
            exact PW.nxL eR ⟨rfl, rfl⟩
          case c3 =>
            rintro r τ' hr hJ _
            have hr1 := (g2 r hr).1
            unfold row
            walk_at "p"
            refine PW.itemT (p := .str r.1) rfl (by decide) ?_
            walk_at "p"
            refine PW.lower (by lia) ?_
            walk_at "p"
            refine PW.lower (by lia) ?_
            walk_at "p"
            refine ⟨rfl, rfl, lset_ne (by decide) hJ, ?_⟩
            walk_at "p"
            exact ⟨rfl, lset_ne (by decide) hJ, rfl⟩
          case c4 =>
            intro loc' hJ
            refine ⟨_, back1 hJ, ?_⟩
            walk_at "p"
            refine PW.filtG nm.length (fun i => .str ⟨#[(cp nm).getD i 0]⟩) (fun i => PN ((cp nm).getD i 0)) (fun _ => True) ?s1 (by lia) trivial ?s3 ?s4
            case s1 =>
              walk_at "p"
              refine PW.pure ⟨rfl, fun i L => nx_text nm i _⟩
            case s3 =>
              rintro i τ' hi _ _
              walk_at "p"
              refine PW.ltS ?_
              rw [lt_blank]
              walk_at "p"
              by_cases h31 : (cp nm).getD i 0 ≤ 31
              · refine PW.ifT (decide_eq_true h31) ?_
                walk_at "p"
                refine ⟨by unfold PN; rw [decide_eq_true h31]; rfl, rfl, trivial, ?_⟩
                walk_at "p"
                exact ⟨rfl, trivial, rfl⟩
              · refine PW.ifF (decide_eq_false h31) ?_
                walk_at "p"
                rw [eq_del]
                refine ⟨by unfold PN; rw [decide_eq_false h31]; rfl, rfl, trivial, ?_⟩
                walk_at "p"
                exact ⟨rfl, trivial, rfl⟩
            case s4 =>
              intro loc2 _
              refine ⟨_, rfl, ?_⟩
              refine PW.truthL (last_get _ _) (by rw [List.length_map]; have := List.length_filter_le (fun i => PN ((cp nm).getD i 0)) (List.range nm.length); rw [List.length_range] at this; lia) ?_
              rw [signs_any]
              refine PW.stage (TK H d A τ.H.length k rs.2 (alike rs.1 nm) nm v rs.1) ⟨⟨R, ?k1, get_app (get_app eR), gR, ne⟩, ?k2, ?k3, ?k4, ?k5, ?k6, ?k7, ?k8, ?k9, get_app (get_app eA), get_app (last_get _ _)⟩ (Q' := fun f τ => f = PF.next ∧ TP H d A rs.2 (deedR k nm v rs.1) τ) ?chain ?rest
              case k1 => walk_at "lk"
              case k2 => exact ⟨_, by rw [hH, List.append_assoc, List.append_assoc]⟩
              case k3 => walk_at "lk"
              case k4 => walk_at "lk"
              case k5 => walk_at "lk"
              case k6 => walk_at "lk"
              case k7 => walk_at "lk"
              case k8 => walk_at "lk"
              case k9 => walk_at "lk"
              case chain =>
                clear l1 l2 l3 l4 l5 l6 eR eA hH hτ hJ gR ne
                generalize τ.H.length = al
                clear hd gA
                generalize rs.1 = rows at *
                generalize rs.2 = ans at *
                rintro τ ⟨⟨R, lr, eR, gR, ne⟩, ⟨Y, hH⟩, ld, la, lk, ln, lv, ll, lw, eA, el⟩
                have gA := lt_of_get eA
                cases hN : hasN nm with
                | true =>
                  rw [deed_bad hN]
                  refine PW.ifT rfl ?_
                  walk_at "p"
                  exact ⟨rfl, R, Y, hH, eR, gR, ne, by walk_at "lk", by walk_at "lk", by walk_at "lk", eA, by walk_at "lk"⟩
                | false =>
                  refine PW.ifF rfl ?_
                  by_cases hc1 : k = 1 ∧ ∃ r, findRow rows nm = some r
                  · obtain ⟨rfl, r, hf⟩ := hc1
                    obtain ⟨l, hl⟩ := alike_cons hf
                    have hlk : (alike rows nm).length ≤ rows.length := List.length_filter_le _ _
                    rw [deed1 hN, hf]
                    rw [hl] at el hlk
                    walk_at "p"
                    refine PW.eqN (n := 1) (m := 1) ?_
                    walk_at "p"
                    refine PW.truthL el (by rw [List.length_map]; lia) ?_
                    walk_at "p"
                    refine PW.itemN (j := 0) el rfl (by decide) ?_
                    unfold row
                    walk_at "p"
                    refine PW.itemT (p := .str r.2) rfl (by decide) ?_
                    walk_at "p"
                    exact ⟨rfl, R, Y, hH, eR, gR, ne, by walk_at "lk", by walk_at "lk", by walk_at "lk", eA, by walk_at "lk"⟩
                  · rw [told_deed hN hk4 hc1]
                    unfold toldR
                    refine PW.ite (PW.val (v := false) ?cnd ?_)
                    case cnd =>
                      walk_at "p"
                      refine PW.eqN (n := k) (m := 1) ?_
                      walk_at "p"
                      by_cases h1 : k = 1
                      · refine PW.ifT (by rw [h1]; rfl) ?_
                        walk_at "p"
                        have hn := alike_nil fun z => hc1 ⟨h1, z⟩
                        rw [hn] at el
                        refine PW.truthL el (Nat.zero_le _) ⟨rfl, rfl⟩
                      · refine PW.ifF (by rw [beq_eq_false_iff_ne]; exact h1) ?_
                        exact PW.pure ⟨rfl, rfl⟩
                    refine PW.ifF rfl ?_
                    refine PW.seq (PW.mono (Q := fun f τ' => f = PF.next ∧ TK H d A al k ans (alike rows nm) nm v (if k % 3 = 0 then kept rows nm else rows) τ') ?x1 ?x2)
                    case x1 =>
                      walk_at "p"
                      refine PW.modN (n := k) (m := 3) (by decide) ?_
                      walk_at "p"
                      refine PW.eqN (n := k % 3) (m := 0) ?_
                      walk_at "p"
                      by_cases h3 : k % 3 = 0
                      · refine PW.ifT (by rw [h3]; rfl) ?_
                        rw [if_pos h3]
                        walk_at "p"
                        refine PW.filtR (rows := rows) (i := R) (fun r => Txt.lower r.1 != Txt.lower nm) (fun loc => loc.lookup "alike" = some (.ref al)) ?d1 eR (by lia) (inner1 ll) ?d3 ?d4
                        case d1 =>
                          walk_at "p"
                          exact PW.nxL eR ⟨rfl, rfl⟩
                        case d3 =>
                          rintro r τ' hr hJ ⟨L, hL⟩
                          walk_at "p"
                          refine PW.notinR (rows := alike rows nm) (by rw [hL]; exact get_app el) (hsm r hr) (fun q hq => hsm q (List.mem_filter.mp hq).1) ?_
                          rw [alike_not hr]
                          walk_at "p"
                          refine ⟨rfl, rfl, lset_ne (by decide) hJ, ?_⟩
                          walk_at "p"
                          exact ⟨rfl, lset_ne (by decide) hJ, rfl⟩
                        case d4 =>
                          intro loc' hJ
                          refine ⟨_, back1 hJ, ?_⟩
                          walk_at "p"
                          have gH : H.length ≤ τ.H.length := by rw [hH, List.length_append]; lia
                          exact ⟨rfl, ⟨⟨τ.H.length, by walk_at "lk", last_get _ _, gH, by lia⟩, ⟨Y ++ [_], by rw [hH, List.append_assoc]⟩, by walk_at "lk", by walk_at "lk", by walk_at "lk", by walk_at "lk", by walk_at "lk", by walk_at "lk", by walk_at "lk", get_app eA, get_app el⟩⟩
                      · refine PW.ifF (by rw [beq_eq_false_iff_ne]; exact h3) ?_
                        rw [if_neg h3]
                        exact PW.pure ⟨rfl, ⟨⟨R, lr, eR, gR, ne⟩, ⟨Y, hH⟩, ld, la, lk, ln, lv, ll, lw, eA, el⟩⟩
                    case x2 =>
                      clear lr eR gR ne hH ld la lk ln lv ll lw eA el gA
                      rintro f τ ⟨rfl, ⟨⟨R, lr, eR, gR, ne⟩, ⟨Y, hH⟩, ld, la, lk, ln, lv, ll, lw, eA, el⟩⟩
                      dsimp only
                      have hlr : (if k % 3 = 0 then kept rows nm else rows).length ≤ rows.length := by split; exact kept_sub.2; exact Nat.le_refl _
                      generalize (if k % 3 = 0 then kept rows nm else rows) = rs2 at *
                      walk_at "p"
                      refine PW.ltN (n := k) (m := 3) ?_
                      walk_at "p"
                      by_cases h3 : k < 3
                      · refine PW.ifT (decide_eq_true h3) ?_
                        rw [if_pos h3]
                        walk_at "p"
                        refine PW.inStr ?_
                        rw [val_feed v hvm]
                        walk_at "p"
                        cases hV : hasV v with
                        | true =>
                          refine PW.ifT rfl ?_
                          rw [if_pos (show true = true from rfl)]
                          walk_at "p"
                          exact ⟨rfl, R, Y, hH, eR, gR, ne, by walk_at "lk", by walk_at "lk", by walk_at "lk", eA, by walk_at "lk"⟩
                        | false =>
                          refine PW.ifF rfl ?_
                          rw [if_neg (show ¬ false = true by decide)]
                          walk_at "p"
                          refine PW.ltN (n := k) (m := 3) ?_
                          walk_at "p"
                          refine PW.ifT (decide_eq_true h3) ?_
                          walk_at "p"
                          refine PW.plist eR ?_
                          walk_at "p"
                          refine PW.eqN (n := k) (m := 2) ?_
                          walk_at "p"
                          refine PW.mono (Q := fun w τ' => w = .str (if k = 2 then v ++ suf else v) ∧ τ' = τ) ?v1 ?v2
                          case v1 =>
                            by_cases h2 : k = 2
                            · refine PW.ifT (by rw [h2]; rfl) ?_
                              rw [if_pos h2]
                              walk_at "p"
                              refine PW.addS (by rw [show (Str.ofString "; p-q=\".\"").length = 9 by decide +kernel]; lia) ?_
                              exact ⟨rfl, rfl⟩
                            · refine PW.ifF (by rw [beq_eq_false_iff_ne]; exact h2) ?_
                              rw [if_neg h2]
                              walk_at "p"
                              exact ⟨rfl, rfl⟩
                          case v2 =>
                            rintro w τ' ⟨rfl, rfl⟩
                            walk_at "p"
                            refine PW.guard ⟨by rw [hsl]; simp, rfl⟩ ?_
                            walk_at "p"
                            refine PW.append eR (by rw [List.length_map]; lia) ?_
                            walk_at "p"
                            refine PW.eqN (n := k) (m := 1) ?_
                            walk_at "p"
                            obtain ⟨Y1, e1⟩ := set_app (H := H) (X := Y) (o := .list (rs2.map row ++ [.tup [.str nm, .str (if k = 2 then v ++ suf else v)]])) gR
                            have eR2 : (τ'.H.set R (.list (rs2.map row ++ [.tup [.str nm, .str (if k = 2 then v ++ suf else v)]])))[R]? = some (.list ((rs2 ++ [(nm, if k = 2 then v ++ suf else v)]).map row)) := by
                              rw [List.getElem?_set_self (lt_of_get eR), List.map_append]; rfl
                            have eA2 : (τ'.H.set R (.list (rs2.map row ++ [.tup [.str nm, .str (if k = 2 then v ++ suf else v)]])))[A]? = some (.list (ans.map .str)) := get_set eA ne
                            rw [← hH] at e1
                            generalize τ'.H.set R (.list (rs2.map row ++ [.tup [.str nm, .str (if k = 2 then v ++ suf else v)]])) = H2 at *
                            by_cases h1 : k = 1
                            · refine PW.ifT (by rw [h1]; rfl) ?_
                              walk_at "p"
                              exact ⟨rfl, R, Y1, e1, eR2, gR, ne, by walk_at "lk", by walk_at "lk", by walk_at "lk", eA2, by rw [if_pos h1]; walk_at "lk"⟩
                            · refine PW.ifF (by rw [beq_eq_false_iff_ne]; exact h1) ?_
                              walk_at "p"
                              exact ⟨rfl, R, Y1, e1, eR2, gR, ne, by walk_at "lk", by walk_at "lk", by walk_at "lk", eA2, by rw [if_neg h1]; walk_at "lk"⟩
                      · refine PW.ifF (decide_eq_false h3) ?_
                        rw [if_neg h3]
                        walk_at "p"
                        refine PW.ltN (n := k) (m := 3) ?_
                        walk_at "p"
                        refine PW.ifF (decide_eq_false h3) ?_
                        walk_at "p"
                        exact ⟨rfl, R, Y, hH, eR, gR, ne, lr, la, ld, eA, lw⟩
              case rest =>
                clear l1 l2 l3 l4 l5 l6 eR eA hH hτ hJ gR ne hd gA
                rintro f τ ⟨rfl, R, Y, hH, eR, gR, ne, lr, la, ld, eA, lw⟩
                dsimp only
                generalize deedR k nm v rs.1 = res at *
                walk_at "p"
                refine PW.plist eA ?_
                walk_at "p"
                refine PW.append eA (by rw [List.length_map, hans]; lia) ?_
                walk_at "p"
                have gA' : H.length ≤ A := by assumption
                obtain ⟨Y1, e1⟩ := set_app (H := H) (X := Y) (o := .list (rs.2.map .str ++ [.str (res.1.getD refS)])) gA'
                refine ⟨R, Y1, by rw [← e1, ← hH], get_set eR ne.symm, gR, ne, lr, la, ld, ?_, by lia⟩
                show (List.set _ A _)[A]? = _
                rw [List.getElem?_set_self (lt_of_get eA), List.map_append]; rfl
      case fin =>
        rintro j σ hj ⟨R, Y, hH, eR, gR, ne, lr, la, ld, eA, hle⟩
        have hj : j = cs.length := by lia
        subst hj
        obtain ⟨g1, g2⟩ := tS_ok (N := cs.length) (cs := cs) (j := cs.length) (by lia) (Nat.le_refl _)
        obtain ⟨o1, o2⟩ := told_ok (rows := (tS cs.length cs cs.length).1) (by lia) fun r hr => ⟨(g2 r hr).1, (g2 r hr).2.1⟩
        walk_at "p"
        refine PW.mapRw (i := R) lnS (fun _ => True) ?e1 eR (by lia) trivial ?e3 ?e4
        case e1 =>
          walk_at "p"
          exact PW.nxL eR ⟨rfl, rfl⟩
        case e3 =>
          rintro r τ hr _
          have h1 := (g2 r hr).1
          have h2 := (g2 r hr).2.1
          unfold row
          walk_at "p"
          refine PW.guard rfl ?_
          walk_at "p"
          refine PW.addS (by rw [lC, hsl]; lia) ?_
          walk_at "p"
          refine PW.addS (by rw [len_app, lC, hsl]; lia) ?_
          walk_at "p"
          refine PW.addS (by rw [len_app, len_app, lC, lN, hsl]; lia) ?_
          exact ⟨rfl, trivial, rfl⟩
        case e4 =>
          intro loc' _
          refine ⟨_, rfl, ?_⟩
          walk_at "p"
          refine PW.join (last_get _ _) (pstrs_map _) o1 ?_
          walk_at "p"
          refine PW.addS (by rw [lN, hsl]; lia) ?_
          rw [told_text]
          walk_at "p"
          refine PW.guard ⟨by rw [hsl]; simp, rfl⟩ ?_
          walk_at "p"
          exact ⟨_, rfl, Y ++ [_], _, rfl, by rw [hH, List.append_assoc], by rw [← List.append_assoc, ← hH]; exact get_app eA⟩
    obtain ⟨v, H', e, X, a, rfl, rfl, h⟩ := key
    exact ⟨X, a, e, h⟩
end
end

section
open PySem PySem.W PyProof.Rows PySem.Spec PySem.SeqAt PySem.Calls
set_option autoImplicit false
set_option linter.unusedVariables false
set_option linter.unusedSectionVars false
set_option maxRecDepth 100000
set_option tactic.hygienic false
theorem ppick_min {α : Type} (l : List α) (n : Nat) : ppick l none (some (n : Int)) none = l.take n := by
  unfold ppick
  have e : sliceBounds none (some (n : Int)) none l.length = (0, ((min n l.length : Nat) : Int), 1) := by
    unfold sliceBounds
    simp only [Option.getD_none]
    rw [if_neg (show ¬ ((n : Int) < 0) by lia)]
    repeat rw [if_pos (show (1 : Int) > 0 by decide)]
    congr 2
    lia
  rw [e]
  dsimp only
  rw [sliceRange_one, range_take l _ (by lia)]
  by_cases h : n ≤ l.length
  · rw [Nat.min_eq_left h]
  · rw [Nat.min_eq_right (by lia), List.take_of_length_le (Nat.le_refl _), List.take_of_length_le (by lia)]
section
variable {σ : PS}
theorem PW.cutgN {ad : Addr} {l : List PV} {n : Nat} {Q : PV → PS → Prop} (hs : l.length ≤ sizeLine) (h : Q (.ref σ.H.length) { σ with H := σ.H ++ [.list (l.take n)] }) : PW (pcutg ad l (.glob ad) .none (natP n) .none) σ Q := by
  show PW (pguard (ad = ad) (pguard ((none : Option Int) ≠ some 0) (pguard (l.length ≤ sizeLine) (palloc (.list (ppick l none (some (n : Int)) none)))))) σ Q
  refine PW.guard rfl (PW.guard (by decide) (PW.guard hs ?_))
  rw [ppick_min l n]
  exact PW.alloc h
theorem PW.cutM {i n : Nat} {l : List PV} {Q : PV → PS → Prop} (e : σ.H[i]? = some (.list l)) (hs : l.length ≤ sizeLine) (h : Q (.ref σ.H.length) { σ with H := σ.H ++ [.list (l.take n)] }) : PW (pcut (.ref i) .none (natP n) .none) σ Q := by
  show PW (pguard ((none : Option Int) ≠ some 0) (Mine.plist i fun l => pguard (l.length ≤ sizeLine) (palloc (.list (ppick l none (some (n : Int)) none))))) σ Q
  refine PW.guard (by decide) (PW.plist e (PW.guard hs ?_))
  rw [ppick_min l n]
  exact PW.alloc h
theorem PW.mapA {capt : List String} {p : PM NX} {asg : PV → PM Unit} {elt : PM PV} {Q : PV → PS → Prop} (len : Nat) (src out : Nat → PV) (J : List (String × PV) → Prop)
    (hp : PW p σ fun nx τ => τ = σ ∧ ∀ j X, nx j (σ.H ++ X) = some (if j < len then some (src j) else none)) (hlen : len ≤ 99)
    (h0 : J (pinner capt σ).loc)
    (step : ∀ j τ, j < len → J τ.loc → (∃ X, τ.H = σ.H ++ X) → PW (asg (src j)) τ fun _ τ₁ => PW elt τ₁ fun v τ₂ => v = out j ∧ J τ₂.loc ∧ ∃ X, τ₂.H = τ.H ++ X)
    (fin : ∀ loc' X, J loc' → ∃ loc, pback capt loc' σ.loc = some loc ∧ Q (.ref σ.H.length) ⟨loc, σ.H ++ (.list ((List.range len).map out) :: X)⟩) : PW (pcomp capt p asg (PM.pure true) elt 100) σ Q := by
  refine PW.comp (hp.mono fun nx τ h => ?_)
  obtain ⟨rfl, hnx⟩ := h
  refine PW.compL (fun j o τ' => (∃ X, τ'.H = τ.H ++ (.list o :: X)) ∧ J τ'.loc ∧ o = (List.range j).map out) len src ?_ ?_ ?_ ?_ (by lia) ?_ 100 0 [] _ (by lia) (Nat.zero_le _) ⟨⟨[], rfl⟩, h0, rfl⟩
  · rintro j o τ' ⟨⟨X, hH⟩, _⟩; rw [hH]; exact hnx j _
  · rintro j o τ' ⟨⟨X, hH⟩, _⟩; rw [hH, List.getElem?_append_right (Nat.le_refl _)]; simp
  · rintro j o τ' hj ⟨⟨X, hH⟩, hJ, ho⟩
    refine (step j τ' hj hJ ⟨_, hH⟩).mono fun _ τ₁ h₁ => PW.pure ?_
    rw [if_pos rfl]
    refine h₁.mono fun v τ₂ ⟨hv, hJ₂, Y, hH₂⟩ => ?_
    rw [hH, List.append_assoc, List.cons_append] at hH₂
    refine ⟨by rw [hH₂, List.getElem?_append_right (Nat.le_refl _)]; simp, ⟨X ++ Y, ?_⟩, hJ₂, ?_⟩
    · show τ₂.H.set τ.H.length _ = _
      rw [hH₂, List.set_append_right _ _ (Nat.le_refl _)]; simp
    · rw [List.range_succ, List.map_append, ho, hv]; rfl
  · rintro j o τ' ⟨_, _, rfl⟩; rw [List.length_map, List.length_range]; exact Nat.le_refl _
  · rintro o τ' ⟨⟨X, hH⟩, hJ, rfl⟩
    obtain ⟨loc, e, q⟩ := fin _ X hJ
    refine ⟨loc, e, ?_⟩
    rw [hH]; exact q
end
theorem fz_lt (z : Int) : fz z < 1000000 := by
  unfold fz
  have := Int.fmod_eq_emod_of_nonneg z (b := 1000000) (by decide)
  lia
theorem PW.intI {σ : PS} {z : Int} {Q : PV → PS → Prop} (h : Q (.int z) σ) : PW (fInt [.int z]) σ Q := PW.pure h
noncomputable def cells7 : List Nat := [166, 1306, 1961, 652, 2277, 546, 1800]
noncomputable def cellsOf (zs : List Int) : List Nat := ((zs.take 7).map fz ++ cells7).take 7
theorem cells_len (zs : List Int) : (cellsOf zs).length = 7 := by
  unfold cellsOf cells7
  rw [List.length_take, List.length_append]; simp only [List.length_cons, List.length_nil]; lia
theorem cells_lt (zs : List Int) : ∀ c ∈ cellsOf zs, c < 10 ^ 6 := by
  intro c hc
  rcases List.mem_append.1 (List.mem_of_mem_take hc) with h | h
  · obtain ⟨z, _, rfl⟩ := List.mem_map.1 h
    exact fz_lt z
  · have : ∀ c ∈ cells7, c < 10 ^ 6 := by decide
    exact this c h
theorem deeds_list (cs : List Nat) : (List.range cs.length).map (fun j => deedP (cs.getD j 0)) = cs.map deedP := by
  have := congrArg (List.map deedP) (range_map_get cs 0)
  rw [List.map_map] at this
  exact this
theorem PW.boolT {σ : PS} {p q : PM PV} {Q : PV → PS → Prop} (h : PW p σ fun v τ => v = .bool true ∧ PW q τ Q) : PW (pboolAnd p q) σ Q := by
  refine PW.bind (h.mono ?_)
  rintro v τ ⟨rfl, k⟩
  exact k
end

section
open PySem PySem.W PyProof.Rows PySem.Spec PySem.SeqAt PySem.Calls
set_option autoImplicit false
set_option linter.unusedVariables false
set_option maxRecDepth 100000
set_option tactic.hygienic false
theorem c_top {W : Wd} {d : Nat} {fa : Addr} {fd : FuncData} {body : List Stmt} {n : String} {p : PM PF} (D : DefOk W fa fd body [n]) (hnc : ∀ x ∈ fd.scope.names, x.2 ≠ .cell) (hce : ∀ k, cellsFrom k fd.scope.names [] = []) (hloc : fd.scope.names.lookup (Str.ofString n) = some .local)
    (hbind : ∀ v : Value, bindArgs fd ⟨[v], []⟩ = pure [(Str.ofString n, v)]) (hbody : ∀ L, SB W d (fenv fd L fa) body p)
    {A : Around} (hdep : A.depth + 2 * (d + 1) + 2 < recursionLimit) (hun : A.units + 100 * (d + 1) + 100 < cLine) (hha : A.handled = none) (hfr : A.frames = some [])
    {s : Shared} (hs : s.heap = W.h₀) {a : Addr} {R : Result → Shared → Prop}
    (hrun : ∃ v H', fspec (pbOf (pb0 [n])) p [.glob a] [] [] = some (.ok v, H') ∧ v = .bool true)
    (h : ∀ h' tk, Keeps W.h₀ h' → R (.ok (.ret (.bool true))) { s with heap := h', toks := tk }) : codeAny (model W.prog W.w) A (.call (.ref fa) ⟨[.ref a], []⟩) R s := by
  obtain ⟨o, ho, hd⟩ := D.obj
  have hK : W.K.In s.heap := by rw [hs]; exact W.X
  have hof := hK _ _ ho
  have hlim : s.heap.NoLimit := by rw [hs]; exact W.nolimit
  refine codeAny_call_function (by lia) hof hd D.co D.gen D.body (codeRec_of hK D.code) ?_
  rw [hbind]
  refine wpAny_pure ?_
  rw [D.clo]
  refine wpAny_newFunctionEnv hnc (by intro x hx; rw [List.mem_singleton.mp hx]; exact hloc) (fun h₁ hns hsb => ?_) D.kind
  have hfresh : s.heap.get? s.heap.objs.size = none := fresh_none
  have hk₁ : Keeps s.heap h₁ := fun b o e => by
    have hb : b ≠ s.heap.objs.size := fun q => by rw [q, hfresh] at e; cases e
    rw [hsb.2 b hb]; exact Heap.get?_push_of_some _ e
  have hE : newEnv fd.scope s.heap.objs.size fd.globals [] (fd.qualname ++ ".<locals>.") (some fa) fd.code none fd.builtins = fenv fd s.heap.objs.size fa := by
    show _ = newEnv fd.scope s.heap.objs.size fd.globals (cellsFrom (s.heap.objs.size + 1) fd.scope.names []) _ _ _ _ _
    rw [hce]
  refine ⟨hlim.keeps hk₁, codeAny_func ?_⟩
  generalize henv : newEnv fd.scope s.heap.objs.size fd.globals [] (fd.qualname ++ ".<locals>.") (some fa) fd.code none fd.builtins = env at hE
  have hcl : env.cells = [] := by rw [← henv]; rfl
  have hlc : env.locals = s.heap.objs.size := by rw [← henv]; rfl
  have hkd : env.kindOf (Str.ofString n) = some .local := by rw [← henv]; exact hloc
  have hfp : fp env = [s.heap.objs.size] := by unfold fp; rw [hcl, hlc]; rfl
  have R1 : Rel W env h₁ ⟨[], 0⟩ ⟨[(n, .glob a)], []⟩ := by
    refine ⟨⟨by rw [← henv]; exact D.kind, by rw [← henv]; exact D.glob, by rw [← henv]; exact D.blt⟩, ⟨fun b o e => hk₁ b o (by rw [hs]; exact e), rfl, fun i x o e _ => by simp at e, fun i j x e _ => by simp at e, fun x hx => by cases hx⟩, ⟨_, by rw [hlc]; exact hns, fun m q e => ?_⟩, fun x hx => ?_, fun x hx => ?_, ?_, fun x hx => ?_⟩
    · rw [List.lookup_cons] at e
      by_cases hm : m = n
      · subst hm
        simp at e; subst e
        exact ⟨.ref a, rfl, .inl ⟨hkd, by simp⟩⟩
      · have : (m == n) = false := by simpa using hm
        rw [this] at e; cases e
    · rw [hfp] at hx
      rw [List.mem_singleton.mp hx, ← hs]
      exact ⟨hfresh, by simp⟩
    · rw [hcl] at hx; cases hx
    · rw [hcl]; exact .nil
    · rw [hcl] at hx; cases hx
  have hA : AOk W d (A.deeper env) { s with heap := h₁, toks := s.toks + 1 } ⟨[], 0⟩ := by
    refine ⟨by show A.depth + 1 + 2 * d + 2 < recursionLimit; lia, by show A.units + 3 + 100 * d + 100 < cLine; lia, hha, ⟨[env], Around.frames_deeper hfr, ⟨?_, fun _ _ q => by cases q⟩⟩, Nat.zero_le _, Nat.succ_pos _⟩
    exact Heap.FunFrames.cons (by rw [← henv]; show fd.scope.kind ≠ _; rw [D.kind]; decide) (L := env.locals) (by rw [← henv]; rfl) (by rw [hlc]; exact hns) (R1.fpn _ (.head _)).1 trivial
  have hbb : SB W d env body p := by rw [hE]; exact hbody _
  obtain ⟨v, H', hrun, rfl⟩ := hrun
  have hl : pbOf (pb0 [n]) [.glob a] [] [] = some ([(n, .glob a)], []) := rfl
  unfold fspec at hrun
  rw [hl] at hrun
  dsimp only at hrun
  refine hbb GG.tt (A.deeper env) { s with heap := h₁, toks := s.toks + 1 } ⟨[], 0⟩ ⟨[(n, .glob a)], []⟩ _ _ hA R1 trivial ?_
  generalize p ⟨[(n, .glob a)], []⟩ = r at hrun ⊢
  match r, hrun with
  | some (.ok (.ret v), σ), hrun =>
    cases hrun
    intro f h' ρ' tk r1 e1 lt q
    rcases RepF.inv q with ⟨_, q2⟩ | ⟨_, q2⟩ | ⟨_, q2⟩ | ⟨v', q', rfl, q2, rv⟩
    · cases q2
    · cases q2
    · cases q2
    · cases q2
      have : v' = .bool true := rv
      subst this
      exact h h' tk fun b o e => r1.cells.base b o e
end

section
open PySem PySem.W PyProof.Rows PySem.Spec PySem.SeqAt PySem.Calls
set_option autoImplicit false
set_option linter.unusedVariables false
set_option linter.unusedSectionVars false
set_option maxRecDepth 100000
set_option maxHeartbeats 4000000
set_option tactic.hygienic false
section
variable {W : Wd} {P : Params} (hK : W.K = hd.heap_1 P) (hC : W.C = 201) (hCl : ClsOk W) (hP : PatsOk W PT)
include hK hC hCl hP
theorem m_law {sA sB sC sD : FSpec} {ad : Addr} {zs : List Int} (hL : ListAt W ad (zs.map .int)) (hz : zs.length ≤ 1000) (hdeed : FHolds W 1 (.ref 212) sA) (lA : DeedLaw sA) (hway : FHolds W 6 (.ref 224) sB) (lB : WayLaw sB) (hend : FHolds W 6 (.ref 231) sC) (lC : EndLaw sC) (htold : FHolds W 1 (.ref 236) sD) (lD : ToldLaw sD)
    {A : Around} (hdep : A.depth + 2 * (8 + 1) + 2 < recursionLimit) (hun : A.units + 100 * (8 + 1) + 100 < cLine) (hha : A.handled = none) (hfr : A.frames = some [])
    {s : Shared} (hs : s.heap = W.h₀) {R : Result → Shared → Prop}
    (h : ∀ h' tk, Keeps W.h₀ h' → R (.ok (.ret (.bool true))) { s with heap := h', toks := tk }) : codeAny (model W.prog W.w) A (.call (.ref 241) ⟨[.ref ad], []⟩) R s := by
  refine' c_top (d := 8) (fd := ?fd) (body := ?body) (n := "script") (p := ?p) ?D ?nc ?ce ?loc ?B (fun L => ?S) hdep hun hha hfr hs ?hrun h
  case D => (refine ⟨⟨?_, ?h1, ?h2⟩, ?h3, ?h4, ?h5, ?h6, ?h7, ?h8, ?h9, ?h10, ?h11, ?h12, ?h13⟩; (case h1 => rw [‹Wd.K _ = hd.heap_1 _›]; rfl); (case h2 => rfl); (case h3 => rfl); (case h4 => rw [‹Wd.K _ = hd.heap_1 _›]; rfl); (case h5 => rfl); (case h6 => rfl); (case h7 => rfl); (case h8 => rfl); (case h9 => rfl); (case h10 => rfl); (case h11 => exact names_ok (by decide +kernel)); (case h12 => decide +kernel); (case h13 => decide +kernel))
  case nc => decide +kernel
  case ce => intro k; rfl
  case S => 
    refine' sb_as ?hT ?hE
    case hT => exact (b_cons (st_assign (s_cut (s_add (s_comp0 (100) rfl (si_list (s_cutg hL (e_name (by decide +kernel) (by decide +kernel)) sp_none (sp_some e_int) sp_none)) (a_name (.inl rfl)) tests_nil (s_mod (b_int rfl (by rw [hK]; rfl) (ss_cons (e_name (by decide +kernel) (by decide +kernel)) ss_nil rfl) rfl) (s_pow e_int e_int)) (fun C => (a_name (.inl rfl))) (fun C => tests_nil) (fun C => (s_mod (b_int rfl (by rw [hK]; rfl) (ss_cons (e_name (by decide +kernel) (by decide +kernel)) ss_nil rfl) rfl) (s_pow e_int e_int))) (fun _ => rfl) (by decide +kernel) rfl (by decide +kernel) ⟨.nil, by decide +kernel⟩) (s_list (ss_cons e_int (ss_cons e_int (ss_cons e_int (ss_cons e_int (ss_cons e_int (ss_cons e_int (ss_cons e_int ss_nil rfl) rfl) rfl) rfl) rfl) rfl) rfl))) sp_none (sp_some e_int) sp_none) (a_name (.inl rfl)) rfl rfl rfl) (b_cons (st_compS (100) rfl rfl (si_list (e_name (by decide +kernel) (by decide +kernel))) (a_name (.inl rfl)) tests_nil (s_kcall (f_more hdeed (by decide)) rfl (by rw [hK]; rfl) (by rw [hK]; rfl) (sa_pos (ss_cons (e_name (by decide +kernel) (by decide +kernel)) ss_nil rfl) rfl) (by decide +kernel) (fun _ => rfl)) (fun C => (a_name (.inl rfl))) (fun C => tests_nil) (fun C => (s_kcall (f_more hdeed (by decide)) rfl (by rw [hK]; rfl) (by rw [hK]; rfl) (sa_pos (ss_cons (e_name (by decide +kernel) (by decide +kernel)) ss_nil rfl) rfl) (by decide +kernel) (fun _ => rfl))) (fun _ => rfl) (by decide +kernel) rfl (by decide +kernel) ⟨.nil, by decide +kernel⟩ (.inl rfl)) (b_cons (st_assign (s_kcall (f_more hway (by decide)) rfl (by rw [hK]; rfl) (by rw [hK]; rfl) (sa_pos (ss_cons (e_name (by decide +kernel) (by decide +kernel)) ss_nil rfl) rfl) (by decide +kernel) (fun _ => rfl)) (a_name (.inl rfl)) rfl rfl rfl) (b_one (st_ret (s_and2 (s_eq (e_name (by decide +kernel) (by decide +kernel)) (s_kcall (f_more hend (by decide)) rfl (by rw [hK]; rfl) (by rw [hK]; rfl) (sa_pos (ss_cons (e_name (by decide +kernel) (by decide +kernel)) ss_nil rfl) rfl) (by decide +kernel) (fun _ => rfl)) rfl) (s_eq (e_name (by decide +kernel) (by decide +kernel)) (s_kcall (f_more htold (by decide)) rfl (by rw [hK]; rfl) (by rw [hK]; rfl) (sa_pos (ss_cons (e_name (by decide +kernel) (by decide +kernel)) ss_nil rfl) rfl) (by decide +kernel) (fun _ => rfl)) rfl)))))))
    case hE => exact rfl
  case loc => rfl
  case B => exact fun _ => by with_unfolding_all rfl
  case hrun =>
    clear h hs hfr hha hun hdep htold hend hway hdeed hL hP hCl hC hK
    have hsl := sizeLine_eq
    have hzl : (zs.map PV.int).length ≤ sizeLine := by rw [List.length_map, hsl]; exact Nat.le_trans hz (by decide)
    clear hz
    refine PW.fspecE (pb := pbOf (pb0 ["script"])) (l := [("script", .glob ad)]) (H₁ := []) (R := fun v _ => v = .bool true) rfl ?_
    refine PW.seq (PW.mono (Q := fun f σ' => f = .next ∧ ∃ c, σ'.loc.lookup "cells" = some (.ref c) ∧ σ'.H[c]? = some (.list ((cellsOf zs).map natP))) ?s1 ?s2)
    case s1 =>
      walk_at "p"
      refine PW.compPre (PW.bind (PW.noexc ?_))
      walk_at "p"
      refine PW.cutgN (n := 7) hzl ?_
      refine PW.plist (last_get _ _) (PW.pure ?_)
      rw [← List.map_take]
      refine PW.mapL (l := (zs.take 7).map PV.int) (fun p => match p with | .int z => natP (fz z) | p => p) (fun _ => True) (PW.pure ⟨rfl, rfl⟩) (by simp) (by rw [List.length_map, List.length_take]; lia) trivial ?wstep ?wfin
      case wstep =>
        intro x τ hx _ _
        obtain ⟨z, _, rfl⟩ := List.mem_map.1 hx
        walk_at "p"
        refine PW.intI ?_
        walk_at "p"
        refine PW.pow106 ?_
        refine PW.modZ ?_
        exact ⟨rfl, trivial, rfl⟩
      case wfin =>
        intro loc' _
        refine ⟨[("script", .glob ad)], rfl, ?_⟩
        walk_at "p"
        have eW : (List.map PV.int (zs.take 7)).map (fun p => match p with | PV.int z => natP (fz z) | p => p) = ((zs.take 7).map fz).map natP := by
          rw [List.map_map, List.map_map]; exact List.map_congr_left fun x _ => rfl
        rw [eW]
        refine PW.guard (by rw [hsl]; decide) ?_
        walk_at "p"
        refine PW.addL (l := ((zs.take 7).map fz).map natP) (k := cells7.map natP) (get_app (last_get _ _)) (last_get _ _) (by rw [hsl, List.length_map, List.length_map, List.length_map, List.length_take]; unfold cells7; simp only [List.length_cons, List.length_nil]; lia) ?_
        walk_at "p"
        refine PW.cutM (n := 7) (last_get _ _) (by rw [hsl, List.length_append, List.length_map, List.length_map, List.length_map, List.length_take]; unfold cells7; simp only [List.length_cons, List.length_nil]; lia) ?_
        walk_at "p"
        refine ⟨rfl, _, lset_self, ?_⟩
        rw [last_get, ← List.map_append, ← List.map_take]; rfl
    case s2 =>
      rintro f σ ⟨rfl, ci, l1, e1⟩
      dsimp only
      clear hzl
      have hc7 := cells_len zs
      have hcl := cells_lt zs
      generalize cellsOf zs = cs at *
      refine PW.seq (PW.mono (Q := fun f σ' => f = .next ∧ ∃ c, σ'.loc.lookup "deeds" = some (.ref c) ∧ σ'.H[c]? = some (.list (cs.map deedP))) ?t1 ?t2)
      case t1 =>
        walk_at "p"
        refine PW.mapA cs.length (fun j => natP (cs.getD j 0)) (fun j => deedP (cs.getD j 0)) (fun _ => True) ?gp (by lia) trivial ?gstep ?gfin
        case gp =>
          walk_at "p"
          refine PW.nxL e1 ⟨rfl, fun j X => ?_⟩
          unfold nxList
          rw [get_app e1]
          dsimp only
          by_cases hj : j < cs.length
          · rw [if_pos hj, get_getD (d := 0) hj]
          · rw [if_neg hj, List.getElem?_eq_none (by rw [List.length_map]; lia)]
        case gstep =>
          intro j τ hj _ _
          obtain ⟨X, hX⟩ := lA τ.H (cs.getD j 0) (hcl _ (mem_getD' hj))
          walk_at "p"
          exact PW.call hX ⟨rfl, trivial, X, rfl⟩
        case gfin =>
          intro loc' X _
          refine ⟨_, rfl, ?_⟩
          rw [deeds_list]
          walk_at "p"
          refine ⟨rfl, _, lset_self, ?_⟩
          show (σ.H ++ (PO.list (cs.map deedP) :: X))[σ.H.length]? = _
          rw [List.getElem?_append_right (Nat.le_refl _), Nat.sub_self]; rfl
      case t2 =>
        clear l1 e1
        rintro f σ ⟨rfl, d, l1, e1⟩
        dsimp only
        have eD := tS_end (N := cs.length) (cs := cs)
        have eE := eS_end (cs := cs) (by lia)
        obtain ⟨s1, s2⟩ := tS_small cs.length cs cs.length
        have g := (way_good cs cs.length).1.sml
        obtain ⟨X1, a1, h1, q1⟩ := lB σ.H d cs e1 (by lia)
        obtain ⟨X2, a2, h2, q2⟩ := lC (σ.H ++ X1) d cs (get_app e1) (by lia)
        obtain ⟨X3, a3, h3, q3⟩ := lD (σ.H ++ X1 ++ X2) d cs (get_app (get_app e1)) (by lia)
        rw [eD] at h3 q3 s1 s2
        rw [eE] at h2 q2
        have hx := text_sml g s1
        generalize wayS cs cs.length = ws at *
        walk_at "p"
        refine PW.call h1 ?_
        walk_at "p"
        refine PW.boolT ?_
        walk_at "p"
        refine PW.call h2 ?_
        walk_at "p"
        refine PW.eqPair (get_app q1) q2 hx s2 ?_
        refine ⟨rfl, ?_⟩
        walk_at "p"
        refine PW.call h3 ?_
        walk_at "p"
        refine PW.eqPair (get_app (get_app q1)) q3 hx s2 ?_
        walk_at "p"
        exact ⟨_, rfl, rfl⟩
end
end

section
open PySem PySem.W PyProof.Rows PySem.Spec PySem.SeqAt PySem.Calls
set_option autoImplicit false
set_option linter.unusedVariables false
set_option linter.unusedSectionVars false
set_option maxRecDepth 100000
set_option maxHeartbeats 4000000
set_option tactic.hygienic false
section
variable {W : Wd} {P : Params} (hK : W.K = hd.heap_1 P) (hC : W.C = 201) (hCl : ClsOk W) (hP : PatsOk W PT)
include hK hC hCl hP
theorem d_all {ad : Addr} {zs : List Int} (hz : zs.length ≤ 1000) (hL : ListAt W ad (zs.map PV.int))
    {A : Around} (hdep : A.depth + 2 * (8 + 1) + 2 < recursionLimit) (hun : A.units + 100 * (8 + 1) + 100 < cLine) (hha : A.handled = none) (hfr : A.frames = some [])
    {s : Shared} (hs : s.heap = W.h₀) {R : Result → Shared → Prop}
    (h : ∀ h' tk, Keeps W.h₀ h' → R (.ok (.ret (.bool true))) { s with heap := h', toks := tk }) : codeAny (model W.prog W.w) A (.call (.ref 241) ⟨[.ref ad], []⟩) R s := by
  obtain ⟨s1, c1, l1⟩ := m_conv hK hC hCl hP
  obtain ⟨s2, c2, l2⟩ := m_get hK hC hCl hP c1.f l1
  obtain ⟨s3, c3, l3⟩ := m_del hK hC hCl hP c1.f l1
  obtain ⟨s4, c4, l4⟩ := m_store hK hC hCl hP c1.f l1 c3.f l3
  obtain ⟨s5, c5, l5⟩ := m_setd hK hC hCl hP c1.f l1 c2.f l2
  obtain ⟨s6, c6, l6⟩ := m_fmt hK hC hCl hP
  obtain ⟨s7, c7, l7⟩ := m_addp hK hC hCl hP c1.f l1 c6.f l6
  obtain ⟨s8, c8, l8⟩ := m_str hK hC hCl hP
  obtain ⟨s9, c9, l9⟩ := m_quoted hK hC hCl hP
  obtain ⟨s10, c10, l10⟩ := m_init hK hC hCl hP c1.f l1
  have hcls : CHolds W 4 (.ref W.C) (clsSpec s10) := c_class hCl (by rw [hK, hC]; rfl) (by rw [hK]; rfl) c10
  rw [hC] at hcls
  have lcls := cls_law l10
  obtain ⟨s11, c11, l11⟩ := m_done hK hC hCl hP c4.f l4 c5.f l5 c7.f l7 c3.f l3
  obtain ⟨s12, c12, l12⟩ := m_deed hK hC hCl hP
  obtain ⟨s13, c13, l13⟩ := m_way hK hC hCl hP hcls.f lcls c8.f l8 c9.f l9 c11.f l11
  obtain ⟨s14, c14, l14⟩ := m_end hK hC hCl hP hcls.f lcls c8.f l8 c9.f l9 c11.f l11
  obtain ⟨s15, c15, l15⟩ := m_told hK hC hCl hP
  exact m_law hK hC hCl hP hL hz c12.f l12 c13.f l13 c14.f l14 c15.f l15 hdep hun hha hfr hs h
end
set_option tactic.hygienic true in
theorem ns_none_of {K : Frag} {h : Heap} {a : Addr} {mc : Str → Option Value} {n : Str} (X : K.In h) (G : h.Ns a mc) (e : nsIn K a n = some none) : mc n = none := by
  obtain ⟨o, es, ep, ho, hd, _, hf⟩ := G
  unfold nsIn at e
  split at e
  · rename_i c d es' n' sl q
    have h1 := X _ _ q
    rw [h1] at ho; cases ho; cases hd
    rw [← hf]
    unfold nsFind findBy
    split at e
    · cases e
    · rename_i hz
      rw [← Array.find?_toList, hz]; rfl
  · cases e
theorem k_pats {W : Wd} {P : Params} (hK : W.K = hd.heap_1 P) : PatsOk W PT := by
  have X := W.X
  rw [hK] at X
  exact ⟨⟨_, _, _, _, _, _, X 65 _ rfl, rfl, rfl, rfl, rfl, rfl, rfl, X _ _ rfl, rfl, by decide +kernel⟩, ⟨_, _, _, _, _, _, X 70 _ rfl, rfl, rfl, rfl, rfl, rfl, rfl, X _ _ rfl, rfl, by decide +kernel⟩, ⟨_, _, _, _, _, _, X 43 _ rfl, rfl, rfl, rfl, rfl, rfl, rfl, X _ _ rfl, rfl, by decide +kernel⟩, ⟨_, _, _, _, _, _, X 48 _ rfl, rfl, rfl, rfl, rfl, rfl, rfl, X _ _ rfl, rfl, by decide +kernel⟩⟩
theorem k_cls {W : Wd} {P : Params} (hK : W.K = hd.heap_1 P) (hC : W.C = 201) : ClsOk W := by
  refine ⟨?_, ?_, ?_, ?_, ?_⟩ <;> rw [hK, hC] <;> rfl
theorem k_ints {W : Wd} {a : Addr} {vs : List Value} {zs : List Int} (hL : W.h₀.IsList a vs.toArray) (hI : IntsAre vs zs) : ListAt W a (zs.map PV.int) := by
  refine ⟨vs, hL, ?_⟩
  clear hL
  induction hI with
  | nil => exact .nil
  | cons n t _ ih => exact .cons (fun _ _ => ⟨t, rfl⟩) ih
theorem join1 {prog : Program} {w : World} {mg mb : Str → Option Value} {s₁ : Shared} {a : Addr} {zs : List Int} {vs : List Value} (KX : (hd.heap_1 w.params).In s₁.heap) (g : s₁.heap.Ns mainGlobals mg) (b : s₁.heap.Ns builtinsNs mb)
    (bi : ∀ x : Str, x ≠ "__name__" → mb x = bootBuiltins x) (nl : s₁.heap.NoLimit) (nd : ∃ mc, s₁.heap.Ns cStatics mc ∧ mc "sys.int_max_str_digits" = none)
    (hL : s₁.heap.IsList a vs.toArray) (hI : IntsAre vs zs) (hz : zs.length ≤ 1000) {R : Result → Shared → Prop}
    (h : ∀ h' tk, Keeps s₁.heap h' → R (.ok (.ret (.bool true))) { s₁ with heap := h', toks := tk }) : codeAny (model prog w) callerA (.call (.ref 241) ⟨[.ref a], []⟩) R s₁ := by
  have nb : NoneBooked s₁.heap := by
    obtain ⟨mc, h1, _⟩ := nd
    exact ⟨mc, h1, ns_none_of KX h1 (by rfl)⟩
  let W : Wd := ⟨prog, w, hd.heap_1 w.params, s₁.heap, 201, mg, mb, KX, g, b, bi, nl, nd, nb, _, rfl, rfl, rfl, rfl⟩
  have hK : W.K = hd.heap_1 w.params := rfl
  have hC : W.C = 201 := rfl
  exact d_all (W := W) hK hC (k_cls hK hC) (k_pats hK) hz (k_ints hL hI) (by decide +kernel) (by decide +kernel) rfl rfl rfl h
end

end Mine
open PySem PySem.W PyProof.Rows
namespace Mine
set_option maxRecDepth 100000 in
set_option maxHeartbeats 8000000 in
theorem look (h : PySem.Challenge.rw_pe0180_01.row.wellSaid = true) : PySem.Challenge.rw_pe0180_01.wellSaid = true := by
  delta OpenLaw.wellSaid
  repeat' with_reducible refine look_both ?_ ?_
  · exact h
  all_goals decide +kernel
end Mine
set_option maxRecDepth 100000 in
set_option maxHeartbeats 8000000 in
theorem PySem.Challenge.cw_pe0180_01_holds : PySem.Challenge.rw_pe0180_01.Holds := by
  have H := hd (by
    k_fill
    intro w s₀ s₁ mg mb G Y fa o pm cd doc dV kV ho hd hcd hD hmg hg args vals as hpre hlay hrd hwl hlo
    have KX := kIn_of Y
    have X := (Ground.X G).1
    have V := (Ground.X G).2
    refine Ground.open G ?_
    intro T B D TE TW
    obtain ⟨_, _, M⟩ := bmod_of_top T
    have TA := at_of_top T
    wrow_args hpre hlay hrd hwl hlo
    all_goals (
      first | refine callC_kw (enter_call ?_) | refine enter_call ?_)
    have hfa : fa = 241 := by
      have e := mg_of KX (Top.g T) (n := "law") (v := .ref 241) (by rfl)
      have e2 : mg "law" = some (.ref fa) := hmg
      rw [e] at e2; cases e2; rfl
    subst hfa
    refine Mine.join1 KX (Top.g T) (Top.b T) (Top.builtins T) (Top.nolimit T) (Top.nodigits T) (by assumption) (by assumption) (by omega) fun h' tk k => ?_
    refine ⟨.inl ⟨_, .bool true, [], rfl, fun _ => rfl, .bool _, ?_, fun _ => ⟨List.nodup_nil, fun _ h => by cases h⟩⟩, .of_keep k, rfl, AllBare.of_eq hg⟩
    wrow_post)
  exact ⟨Mine.look H.1, H⟩
