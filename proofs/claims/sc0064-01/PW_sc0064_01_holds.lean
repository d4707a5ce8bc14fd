import PyProof.Rows.All
import Wide.All
import OpenK.AllK
import Wide.FinOn
import KE.KUnpack
import OpenK.KGet
import OpenK.KWalk
import PyProof.Rows.AttrNodeAny
import OpenK.KCls
import PyProof.GenQ
import PyProof.GenRules
import PyProof.EnumMake
import PyProof.WalksU
import KE.KItem
import OpenK.KMake
import PyProof.AssignAttr
import PyProof.Rows.LoopInv
import Lean
import PySem.Challenge.RW_sc0064_01
set_option Elab.async false
set_option maxRecDepth 100000
set_option autoImplicit false
set_option bootstrap.genMatcherCode false
set_option linter.all false
namespace Mine
open PySem PySem.W PyProof.Rows

/-- plain data; a text is the list of its codes (lit: a text whose object is older than a bound); a thing has its class's address and its fields by number -/
inductive Dv where
  | none
  | bool (b : Bool)
  | int (i : Int)
  | str (x : List Nat)
  | lit (x : List Nat)
  | tuple (ds : List Dv)
  | list (ds : List Dv)
  | obj (C : Addr) (fs : List (Nat × Dv))

/-- the fields' names -/
noncomputable def fname : Nat → Str
  | 0 => "raw"
  | 1 => "n"
  | 2 => "nt"
  | 3 => "norm"
  | _ => "is_simple"

/-- names of methods: no field bears them -/
noncomputable def mnames : List Str := ["equal", "indent_level"]

noncomputable def tupObj (vs : List Value) : Obj := { cls := .type "tuple", data := .seq vs.toArray }
noncomputable def lstObj (vs : List Value) (n : Nat) : Obj := { cls := .type "list", data := .seq vs.toArray n }

/-- addresses to keep off, and a bound of the texts' tokens -/
structure Bd where
  off : Addr → Prop
  tok : Nat

mutual
/-- the value bears the datum in the heap, off the addresses X -/
inductive Rep (h : Heap) (X : Bd) : Value → Dv → Prop
  | none : Rep h X .none .none
  | bool (b : Bool) : Rep h X (.bool b) (.bool b)
  | int (i : Int) (t : Tok) : Rep h X (.int i t) (.int i)
  | str (x : Str) (t : Tok) : Rep h X (.str x t) (.str x.cps.toList)
  | lit (x : Str) (t : Tok) : t ≠ 0 → t < X.tok → Rep h X (.str x t) (.lit x.cps.toList)
  | tuple {a : Addr} {vs : List Value} {n : Nat} {ds : List Dv} : h.get? a = some ({ cls := .type "tuple", data := .seq vs.toArray n } : Obj) → ¬ X.off a → Reps h X vs ds → Rep h X (.ref a) (.tuple ds)
  | list {a : Addr} {vs : List Value} {n : Nat} {ds : List Dv} : h.get? a = some (lstObj vs n) → ¬ X.off a → Reps h X vs ds → Rep h X (.ref a) (.list ds)
  | obj {a da : Addr} {C : Addr} {es : List DictEntry} {n : Nat} {fs : List (Nat × Dv)} :
      h.get? a = some (instObj C da) → ¬ X.off a → h.get? da = some (dictOf es n) → ¬ X.off da → RepF h X es fs → (∀ nm ∈ mnames, getL nm es = some none) → Rep h X (.ref a) (.obj C fs)
inductive Reps (h : Heap) (X : Bd) : List Value → List Dv → Prop
  | nil : Reps h X [] []
  | cons {v : Value} {vs : List Value} {d : Dv} {ds : List Dv} : Rep h X v d → Reps h X vs ds → Reps h X (v :: vs) (d :: ds)
inductive RepF (h : Heap) (X : Bd) : List DictEntry → List (Nat × Dv) → Prop
  | nil {es : List DictEntry} : RepF h X es []
  | cons {es : List DictEntry} {k : Nat} {v : Value} {d : Dv} {fs : List (Nat × Dv)} : getL (fname k) es = some (some v) → Rep h X v d → RepF h X es fs → RepF h X es ((k, d) :: fs)
end

theorem Rep.mono {h h' : Heap} {X X' : Bd} (hk : ∀ b o, ¬ X.off b → h.get? b = some o → h'.get? b = some o ∧ ¬ X'.off b) (ht : X.tok ≤ X'.tok) {v : Value} {d : Dv} (r : Rep h X v d) : Rep h' X' v d :=
  Rep.rec (motive_1 := fun v d _ => Rep h' X' v d) (motive_2 := fun vs ds _ => Reps h' X' vs ds) (motive_3 := fun es fs _ => RepF h' X' es fs)
    .none .bool .int .str (fun x t a b => .lit x t a (Nat.lt_of_lt_of_le b ht)) (fun e n _ ih => .tuple (hk _ _ n e).1 (hk _ _ n e).2 ih) (fun e n _ ih => .list (hk _ _ n e).1 (hk _ _ n e).2 ih)
    (fun e n e' n' _ q ih => .obj (hk _ _ n e).1 (hk _ _ n e).2 (hk _ _ n' e').1 (hk _ _ n' e').2 ih q) .nil (fun _ _ r q => .cons r q) .nil (fun g _ _ r q => .cons g r q) r
theorem Reps.mono {h h' : Heap} {X X' : Bd} (hk : ∀ b o, ¬ X.off b → h.get? b = some o → h'.get? b = some o ∧ ¬ X'.off b) (ht : X.tok ≤ X'.tok) {vs : List Value} {ds : List Dv} (r : Reps h X vs ds) : Reps h' X' vs ds :=
  Reps.rec (motive_1 := fun v d _ => Rep h' X' v d) (motive_2 := fun vs ds _ => Reps h' X' vs ds) (motive_3 := fun es fs _ => RepF h' X' es fs)
    .none .bool .int .str (fun x t a b => .lit x t a (Nat.lt_of_lt_of_le b ht)) (fun e n _ ih => .tuple (hk _ _ n e).1 (hk _ _ n e).2 ih) (fun e n _ ih => .list (hk _ _ n e).1 (hk _ _ n e).2 ih)
    (fun e n e' n' _ q ih => .obj (hk _ _ n e).1 (hk _ _ n e).2 (hk _ _ n' e').1 (hk _ _ n' e').2 ih q) .nil (fun _ _ r q => .cons r q) .nil (fun g _ _ r q => .cons g r q) r
theorem RepF.mono {h h' : Heap} {X X' : Bd} (hk : ∀ b o, ¬ X.off b → h.get? b = some o → h'.get? b = some o ∧ ¬ X'.off b) (ht : X.tok ≤ X'.tok) {es : List DictEntry} {fs : List (Nat × Dv)} (r : RepF h X es fs) : RepF h' X' es fs :=
  RepF.rec (motive_1 := fun v d _ => Rep h' X' v d) (motive_2 := fun vs ds _ => Reps h' X' vs ds) (motive_3 := fun es fs _ => RepF h' X' es fs)
    .none .bool .int .str (fun x t a b => .lit x t a (Nat.lt_of_lt_of_le b ht)) (fun e n _ ih => .tuple (hk _ _ n e).1 (hk _ _ n e).2 ih) (fun e n _ ih => .list (hk _ _ n e).1 (hk _ _ n e).2 ih)
    (fun e n e' n' _ q ih => .obj (hk _ _ n e).1 (hk _ _ n e).2 (hk _ _ n' e').1 (hk _ _ n' e').2 ih q) .nil (fun _ _ r q => .cons r q) .nil (fun g _ _ r q => .cons g r q) r

theorem Rep.keep {h h' : Heap} {X : Bd} (hk : ∀ b o, h.get? b = some o → h'.get? b = some o) {v : Value} {d : Dv} (r : Rep h X v d) : Rep h' X v d :=
  r.mono (fun b o n e => ⟨hk b o e, n⟩) (Nat.le_refl _)
theorem Reps.keep {h h' : Heap} {X : Bd} (hk : ∀ b o, h.get? b = some o → h'.get? b = some o) {v : List Value} {d : List Dv} (r : Reps h X v d) : Reps h' X v d :=
  r.mono (fun b o n e => ⟨hk b o e, n⟩) (Nat.le_refl _)
theorem Rep.sub {h : Heap} {X X' : Bd} (hx : ∀ b, X'.off b → X.off b) (ht : X.tok ≤ X'.tok) {v : Value} {d : Dv} (r : Rep h X v d) : Rep h X' v d :=
  r.mono (fun b _ n e => ⟨e, fun z => n (hx b z)⟩) ht
theorem Reps.sub {h : Heap} {X X' : Bd} (hx : ∀ b, X'.off b → X.off b) (ht : X.tok ≤ X'.tok) {v : List Value} {d : List Dv} (r : Reps h X v d) : Reps h X' v d :=
  r.mono (fun b _ n e => ⟨e, fun z => n (hx b z)⟩) ht

section
variable {h : Heap} {X : Bd} {vs ws : List Value} {ds es : List Dv}
theorem Reps.each {P : List Value → List Dv → Prop} (h0 : P [] []) (hc : ∀ {v : Value} {vs : List Value} {d : Dv} {ds : List Dv}, Rep h X v d → Reps h X vs ds → P vs ds → P (v :: vs) (d :: ds)) {vs : List Value} {ds : List Dv} (r : Reps h X vs ds) : P vs ds :=
  Reps.rec (motive_1 := fun _ _ _ => True) (motive_2 := fun vs ds _ => P vs ds) (motive_3 := fun _ _ _ => True) trivial (fun _ => trivial) (fun _ _ => trivial) (fun _ _ => trivial) (fun _ _ _ _ => trivial) (fun _ _ _ _ => trivial) (fun _ _ _ _ => trivial) (fun _ _ _ _ _ _ _ => trivial)
    h0 (fun r q _ ih => hc r q ih) trivial (fun _ _ _ _ _ => trivial) r
theorem Reps.length {vs : List Value} {ds : List Dv} (r : Reps h X vs ds) : vs.length = ds.length :=
  r.each (P := fun vs ds => vs.length = ds.length) rfl fun _ _ ih => congrArg (· + 1) ih
theorem Reps.append {vs : List Value} {ds : List Dv} (r : Reps h X vs ds) (k : Reps h X ws es) : Reps h X (vs ++ ws) (ds ++ es) :=
  r.each (P := fun vs ds => Reps h X (vs ++ ws) (ds ++ es)) k fun r _ ih => .cons r ih
theorem Reps.get {vs : List Value} {ds : List Dv} (r : Reps h X vs ds) : ∀ {i : Nat} {d : Dv}, ds[i]? = some d → ∃ v, vs[i]? = some v ∧ Rep h X v d := by
  refine r.each (P := fun vs ds => ∀ {i : Nat} {d : Dv}, ds[i]? = some d → ∃ v, vs[i]? = some v ∧ Rep h X v d) (fun e => nomatch e) fun {v _ _ _} r _ ih {i d} e => ?_
  cases i with
  | zero => cases e; exact ⟨_, rfl, r⟩
  | succ i => exact ih e
theorem Reps.get' {vs : List Value} {ds : List Dv} (r : Reps h X vs ds) : ∀ {i : Nat} {v : Value}, vs[i]? = some v → ∃ d, ds[i]? = some d ∧ Rep h X v d := by
  refine r.each (P := fun vs ds => ∀ {i : Nat} {v : Value}, vs[i]? = some v → ∃ d, ds[i]? = some d ∧ Rep h X v d) (fun e => nomatch e) fun {v _ _ _} r _ ih {i d} e => ?_
  cases i with
  | zero => cases e; exact ⟨_, rfl, r⟩
  | succ i => exact ih e
end

/-- the state an expression leaves: the heap is only grown -/
structure Ext (s s' : Shared) : Prop where
  heap : ∀ b o, s.heap.get? b = some o → s'.heap.get? b = some o
  gens : ∀ (i : Nat) (x : GenState), s.gens[i]? = some x → s'.gens[i]? = some x
  bare : AllBare s.gens → AllBare s'.gens
  os : s'.os = s.os
  toks : s.toks ≤ s'.toks

theorem Ext.refl (s : Shared) : Ext s s := ⟨fun _ _ e => e, fun _ _ e => e, id, rfl, Nat.le_refl _⟩
theorem Ext.trans {s s' s'' : Shared} (x : Ext s s') (y : Ext s' s'') : Ext s s'' :=
  ⟨fun b o e => y.heap b o (x.heap b o e), fun i z e => y.gens i z (x.gens i z e), fun b => y.bare (x.bare b), y.os.trans x.os, Nat.le_trans x.toks y.toks⟩
theorem Ext.tk (s : Shared) {t : Nat} (ht : s.toks ≤ t) : Ext s { s with toks := t } := ⟨fun _ _ e => e, fun _ _ e => e, id, rfl, ht⟩
theorem Ext.heap' {s : Shared} {h : Heap} {t : Nat} (hk : ∀ b o, s.heap.get? b = some o → h.get? b = some o) (ht : s.toks ≤ t) : Ext s { s with heap := h, toks := t } :=
  ⟨hk, fun _ _ e => e, id, rfl, ht⟩
theorem Ext.push (s : Shared) (o : Obj) {t : Nat} (ht : s.toks ≤ t) : Ext s { s with heap := s.heap.push o, toks := t } := .heap' (fun _ _ e => Heap.get?_push_of_some _ e) ht
theorem Rep.ext {s s' : Shared} {X : Bd} (x : Ext s s') {v : Value} {d : Dv} (r : Rep s.heap X v d) : Rep s'.heap X v d := r.keep x.heap
theorem Reps.ext {s s' : Shared} {X : Bd} (x : Ext s s') {v : List Value} {d : List Dv} (r : Reps s.heap X v d) : Reps s'.heap X v d := r.keep x.heap

/-- X: addresses that exist already, tokens that are drawn -/
structure Old (X : Bd) (s : Shared) : Prop where
  at_ : ∀ b, X.off b → (s.heap.get? b).isSome = true
  tok : X.tok ≤ s.toks
theorem Old.ext {X : Bd} {s s' : Shared} (o : Old X s) (x : Ext s s') : Old X s' := ⟨fun b hb => by
  obtain ⟨ob, e⟩ := Option.isSome_iff_exists.mp (o.at_ b hb)
  rw [x.heap b ob e]; rfl, Nat.le_trans o.tok x.toks⟩
theorem Old.off {X : Bd} {s : Shared} (o : Old X s) {b : Addr} (e : s.heap.get? b = none) : ¬ X.off b := fun hb => by
  have := o.at_ b hb
  rw [e] at this; cases this
theorem new_none (h : Heap) : h.get? h.objs.size = none := by
  cases e : h.get? h.objs.size with
  | none => rfl
  | some o => exact absurd (Heap.lt_size e) (Nat.lt_irrefl _)
theorem Old.new {X : Bd} {s : Shared} (o : Old X s) : ¬ X.off s.heap.objs.size := o.off (new_none _)

/-- room for k more calls -/
structure Rm (k : Nat) (A : Around) : Prop where
  handled : A.handled = none
  depth : A.depth + 10 * k ≤ 880
  units : A.units + 100 * k ≤ 9700
theorem Rm.le {k j : Nat} {A : Around} (r : Rm k A) (h : j ≤ k) : Rm j A := ⟨r.handled, by have := r.depth; omega, by have := r.units; omega⟩
theorem Rm.deeper {k : Nat} {A : Around} (r : Rm (k + 1) A) (env : Env) : Rm k (A.deeper env) :=
  ⟨r.handled, by have := r.depth; show A.depth + 1 + 10 * k ≤ 880; omega, by have := r.units; show A.units + 3 + 100 * k ≤ 9700; omega⟩
theorem Rm.room {k : Nat} {A : Around} (r : Rm k A) : A.depth < recursionLimit := by have := r.depth; show A.depth < 1000; omega
theorem Rm.fit {k : Nat} {A : Around} (r : Rm k A) : A.units + 150 < cLine := by have := r.units; show A.units + 150 < 9900; omega

/-- the heap that the call finds, a bound of the tokens -/
structure B0 where
  heap : Heap
  tok : Nat
/-- a state behind it -/
structure Bs (h₀ : B0) (s : Shared) : Prop where
  keep : ∀ b o, h₀.heap.get? b = some o → s.heap.get? b = some o
  tok : h₀.tok ≤ s.toks
theorem Bs.ext {h₀ : B0} {s s' : Shared} (b : Bs h₀ s) (x : Ext s s') : Bs h₀ s' := ⟨fun a o e => x.heap a o (b.keep a o e), Nat.le_trans b.tok x.toks⟩

end Mine

namespace Mine
open PySem PySem.W PyProof.Rows

/-- a tree hands on a value that bears the datum, the heap only grown -/
noncomputable def Gives (prog : Program) (w : World) (A : Around) (t : Sem Value) (X : Bd) (d : Dv) (s : Shared) : Prop :=
  wpAny (model prog w) A t (fun v s' => s.toks ≤ s'.toks → Ext s s' ∧ Rep s'.heap X v d) (fun _ _ => False) s

/-- the code points of a text -/
noncomputable def mkS (x : List Nat) : Str := ⟨x.toArray⟩
theorem Rep.str_inv {h : Heap} {X : Bd} {v : Value} {x : List Nat} (r : Rep h X v (.str x)) : ∃ t, v = .str (mkS x) t := by
  cases r with
  | str y t => exact ⟨t, by cases y; rfl⟩
theorem Rep.int_inv {h : Heap} {X : Bd} {v : Value} {i : Int} (r : Rep h X v (.int i)) : ∃ t, v = .int i t := by cases r with | int i t => exact ⟨t, rfl⟩
theorem Rep.bool_inv {h : Heap} {X : Bd} {v : Value} {b : Bool} (r : Rep h X v (.bool b)) : v = .bool b := by cases r; rfl
theorem Rep.none_inv {h : Heap} {X : Bd} {v : Value} (r : Rep h X v .none) : v = .none := by cases r; rfl
theorem Rep.list_inv {h : Heap} {X : Bd} {v : Value} {ds : List Dv} (r : Rep h X v (.list ds)) : ∃ a vs n, v = .ref a ∧ h.get? a = some (lstObj vs n) ∧ ¬ X.off a ∧ Reps h X vs ds := by
  cases r with | list e n r => exact ⟨_, _, _, rfl, e, n, r⟩
theorem Rep.tuple_inv {h : Heap} {X : Bd} {v : Value} {ds : List Dv} (r : Rep h X v (.tuple ds)) : ∃ a vs n, v = .ref a ∧ h.get? a = some ({ cls := .type "tuple", data := .seq vs.toArray n } : Obj) ∧ ¬ X.off a ∧ Reps h X vs ds := by
  cases r with | tuple e n r => exact ⟨_, _, _, rfl, e, n, r⟩
theorem Rep.str' {h : Heap} {X : Bd} (x : List Nat) (t : Tok) : Rep h X (.str (mkS x) t) (.str x) := by
  have := Rep.str (h := h) (X := X) (mkS x) t
  simpa [mkS] using this
theorem Rep.of_str {h : Heap} {X : Bd} {y : Str} {x : List Nat} (t : Tok) (e : y.cps.toList = x) : Rep h X (.str y t) (.str x) := e ▸ Rep.str y t
theorem Rep.unlit {h : Heap} {X : Bd} {v : Value} {x : List Nat} (r : Rep h X v (.lit x)) : Rep h X v (.str x) := by
  cases r with
  | lit y t _ _ => exact .str y t
theorem mkS_len (x : List Nat) : (mkS x).length = x.length := by simp [mkS, Str.length]
theorem mkS_app (x y : List Nat) : (mkS x ++ mkS y).cps.toList = x ++ y := by
  rw [Str.cps_append]; simp [mkS]

theorem isL {h : Heap} {a : Addr} {vs : List Value} {n : Nat} (e : h.get? a = some (lstObj vs n)) : h.IsList a vs.toArray := ⟨_, e, rfl, n, rfl⟩
theorem isT {h : Heap} {a : Addr} {vs : List Value} {n : Nat} (e : h.get? a = some ({ cls := .type "tuple", data := .seq vs.toArray n } : Obj)) : IsTup h a vs.toArray := ⟨_, e, rfl, n, rfl⟩

/-- a new list -/
theorem gives_newlist {s : Shared} {X : Bd} {vs : List Value} {ds : List Dv} (o : Old X s) (r : Reps s.heap X vs ds) {tk : Nat} (ht : s.toks ≤ tk) :
    Ext s { s with heap := s.heap.push (lstObj vs 0), toks := tk } ∧ Rep (s.heap.push (lstObj vs 0)) X (.ref s.heap.objs.size) (.list ds) :=
  ⟨.push s _ ht, .list (Heap.get?_push_size _ rfl) o.new (r.keep fun _ _ e => Heap.get?_push_of_some _ e)⟩
theorem gives_newtup {s : Shared} {X : Bd} {vs : List Value} {ds : List Dv} (o : Old X s) (r : Reps s.heap X vs ds) {tk : Nat} (ht : s.toks ≤ tk) :
    Ext s { s with heap := s.heap.push (tupObj vs), toks := tk } ∧ Rep (s.heap.push (tupObj vs)) X (.ref s.heap.objs.size) (.tuple ds) :=
  ⟨.push s _ ht, .tuple (Heap.get?_push_size _ rfl) o.new (r.keep fun _ _ e => Heap.get?_push_of_some _ e)⟩

inductive Bop | add | sub | mul | fdiv | mod | pow
noncomputable def Bop.tree : Bop → Operator
  | .add => .Add | .sub => .Sub | .mul => .Mult | .fdiv => .FloorDiv | .mod => .Mod | .pow => .Pow
noncomputable def small (i : Int) : Bool := decide (-(2 ^ 60) < i) && decide (i < 2 ^ 60)
noncomputable def repL {α : Type} (x : List α) (n : Int) : List α := (List.replicate n.toNat x).flatten
noncomputable def asInt : Dv → Option Int
  | .int i => some i
  | _ => none
noncomputable def asStr : Dv → Option (List Nat)
  | .str x => some x
  | _ => none
noncomputable def asList : Dv → Option (List Dv)
  | .list x => some x
  | _ => none
theorem asInt_is {d : Dv} {i : Int} (h : asInt d = some i) : d = .int i := by
  cases d with
  | int j => cases h; rfl
  | _ => cases h
theorem asStr_is {d : Dv} {i : List Nat} (h : asStr d = some i) : d = .str i := by
  cases d with
  | str j => cases h; rfl
  | _ => cases h
theorem asList_is {d : Dv} {i : List Dv} (h : asList d = some i) : d = .list i := by
  cases d with
  | list j => cases h; rfl
  | _ => cases h
noncomputable def ofInts (f : Int → Int → Option Dv) (a b : Dv) : Option Dv := (asInt a).bind fun i => (asInt b).bind fun j => f i j
theorem ofInts_is {f : Int → Int → Option Dv} {a b d : Dv} (h : ofInts f a b = some d) : ∃ i j, a = .int i ∧ b = .int j ∧ f i j = some d := by
  obtain ⟨i, hi, h⟩ := Option.bind_eq_some_iff.mp h
  obtain ⟨j, hj, h⟩ := Option.bind_eq_some_iff.mp h
  exact ⟨i, j, asInt_is hi, asInt_is hj, h⟩
theorem if_is {α : Type} {c : Prop} [Decidable c] {a b : α} (h : (if c then some a else none) = some b) : c ∧ a = b := by
  by_cases hc : c
  · rw [if_pos hc] at h; exact ⟨hc, Option.some.inj h⟩
  · rw [if_neg hc] at h; cases h
noncomputable def mulD (a : Dv) (n : Int) : Option Dv := match a with
  | .int i => if small n then some (.int (i * n)) else none
  | .str x => if x.length ≤ 1000 && decide (-1000 ≤ n) && decide (n ≤ 1000) then some (.str (repL x n)) else none
  | .list x => if x.length ≤ 1000 && decide (-1000 ≤ n) && decide (n ≤ 1000) then some (.list (repL x n)) else none
  | _ => none
noncomputable def addD (a b : Dv) : Option Dv := match a with
  | .int i => (asInt b).bind fun j => some (.int (i + j))
  | .str x => (asStr b).bind fun y => if x.length + y.length ≤ 1000000 then some (.str (x ++ y)) else none
  | .list x => (asList b).bind fun y => if x.length + y.length ≤ 1000000 then some (.list (x ++ y)) else none
  | _ => none
noncomputable def Bop.app : Bop → Dv → Dv → Option Dv
  | .add, a, b => addD a b
  | .sub, a, b => ofInts (fun a b => some (.int (a - b))) a b
  | .mul, a, b => (asInt b).bind (mulD a)
  | .fdiv, a, b => ofInts (fun a b => if b ≠ 0 && small b && b.natAbs < 1073741824 then some (.int (a.fdiv b)) else none) a b
  | .mod, a, b => ofInts (fun a b => if b ≠ 0 then some (.int (a.fmod b)) else none) a b
  | .pow, a, b => ofInts (fun a n => if small a && decide (0 ≤ n) && decide (n ≤ 1000) then some (.int (a ^ n.toNat)) else none) a b
theorem b_add_int (a b : Int) : Bop.add.app (.int a) (.int b) = some (.int (a + b)) := rfl
theorem b_add_str (x y : List Nat) : Bop.add.app (.str x) (.str y) = if x.length + y.length ≤ 1000000 then some (.str (x ++ y)) else none := rfl
theorem b_add_list (x y : List Dv) : Bop.add.app (.list x) (.list y) = if x.length + y.length ≤ 1000000 then some (.list (x ++ y)) else none := rfl
theorem b_mul_int (a b : Int) : Bop.mul.app (.int a) (.int b) = if small b then some (.int (a * b)) else none := rfl
theorem b_mul_str (x : List Nat) (n : Int) : Bop.mul.app (.str x) (.int n) = if x.length ≤ 1000 && decide (-1000 ≤ n) && decide (n ≤ 1000) then some (.str (repL x n)) else none := rfl
theorem b_mul_list (x : List Dv) (n : Int) : Bop.mul.app (.list x) (.int n) = if x.length ≤ 1000 && decide (-1000 ≤ n) && decide (n ≤ 1000) then some (.list (repL x n)) else none := rfl

theorem small_bits {i : Int} (h : small i = true) : Builtin.Int.intBits i ≤ 64 := by
  simp only [small, Bool.and_eq_true, decide_eq_true_eq] at h
  exact intBits_le_64 (by omega) (by omega)
theorem fold_app {α : Type} (l : List (List α)) : ∀ (a : Array α), ((l.map List.toArray).foldl (· ++ ·) a).toList = a.toList ++ l.flatten := by
  induction l with
  | nil => intro a; simp
  | cons x l ih => intro a; rw [List.map_cons, List.foldl_cons, ih]; simp
theorem repL_txt (x : List Nat) (n : Int) : (Txt.mul (mkS x) n).cps.toList = repL x n := by
  unfold Txt.mul repL
  by_cases h : n < 1
  · rw [if_pos h, show n.toNat = 0 by omega]; rfl
  · rw [if_neg h]
    split
    · rename_i h'
      simp only [Bool.or_eq_true, beq_iff_eq, mkS_len] at h'
      rcases h' with h' | h'
      · rw [h']; simp [mkS]
      · have : x = [] := List.length_eq_zero_iff.mp h'
        subst this
        simp [mkS]
    · have := fold_app (List.replicate n.toNat x) #[]
      simpa [mkS] using this

section
variable {prog : Program} {w : World} {A : Around} {s : Shared} {X : Bd}

theorem reps_flat {vs : List Value} {ds : List Dv} (r : Reps s.heap X vs ds) (n : Nat) : Reps s.heap X (List.replicate n vs).flatten (List.replicate n ds).flatten := by
  induction n with
  | zero => exact .nil
  | succ n ih => simp only [List.replicate_succ, List.flatten_cons]; exact r.append ih

theorem fold_rep (vs : List Value) (n : Int) : (List.foldl (fun x1 x2 => x1 ++ x2) #[] (List.replicate (if vs.toArray.isEmpty = true then 0 else n.toNat) vs.toArray)) = (repL vs n).toArray := by
  have := fold_app (List.replicate n.toNat vs) #[]
  simp only [List.map_replicate, List.nil_append] at this
  apply Array.ext'
  by_cases hv0 : vs = []
  · subst hv0; simp [repL]
  · have h0 : ¬ (vs.toArray.isEmpty = true) := by simpa using hv0
    rw [if_neg h0, this]; rfl
theorem mul_text (x : List Nat) (n : Int) (h1 : x.length ≤ 1000) (h2 : -1000 ≤ n) (h3 : n ≤ 1000) : Builtin.Str.tooLong (x.length * n.toNat) = false := by
  have : x.length * n.toNat ≤ 1000 * 1000 := Nat.mul_le_mul h1 (by omega)
  unfold Builtin.Str.tooLong
  exact decide_eq_false (Nat.not_lt.mpr (Nat.le_trans this (by decide)))
theorem bop_sound {o : Bop} {a b : Value} {da db d : Dv} (ho : Old X s) (ra : Rep s.heap X a da) (rb : Rep s.heap X b db) (h : o.app da db = some d) :
    Gives prog w A (binaryOp o.tree a b) X d s := by
  unfold Gives
  cases o with
  | add =>
    cases da with
    | int i =>
      obtain ⟨t, rfl⟩ := ra.int_inv
      obtain ⟨j, hj, h⟩ := Option.bind_eq_some_iff.mp h
      cases asInt_is hj
      obtain ⟨u, rfl⟩ := rb.int_inv
      cases h
      exact PyProof.Rows.add_int (fun ht => ⟨.tk s ht, .int _ _⟩)
    | str x =>
      obtain ⟨t, rfl⟩ := ra.str_inv
      obtain ⟨y, hy, h⟩ := Option.bind_eq_some_iff.mp h
      cases asStr_is hy
      obtain ⟨u, rfl⟩ := rb.str_inv
      obtain ⟨hl, rfl⟩ := if_is h
      exact PyProof.Rows.add_str (fun t' tk ht => ⟨.tk s ht, .of_str _ (mkS_app x y)⟩) (by rw [mkS_len, mkS_len]; exact Nat.le_trans hl (by decide))
    | list x =>
      obtain ⟨a, vs, n, rfl, ea, na, qa⟩ := ra.list_inv
      obtain ⟨y, hy, h⟩ := Option.bind_eq_some_iff.mp h
      cases asList_is hy
      obtain ⟨b, us, m, rfl, eb, nb, qb⟩ := rb.list_inv
      obtain ⟨hl, rfl⟩ := if_is h
      refine PySem.P.add_list ea eb ?_ (by simp only [List.size_toArray]; rw [qa.length, qb.length]; exact Nat.le_trans hl (by decide))
      rw [List.append_toArray]
      exact fun ht => gives_newlist ho (qa.append qb) ht
    | _ => cases h
  | sub =>
    obtain ⟨i, j, rfl, rfl, h⟩ := ofInts_is h
    obtain ⟨t, rfl⟩ := ra.int_inv
    obtain ⟨u, rfl⟩ := rb.int_inv
    cases h
    exact PyProof.Rows.sub_int (fun ht => ⟨.tk s ht, .int _ _⟩)
  | mul =>
    obtain ⟨n, hn, h⟩ := Option.bind_eq_some_iff.mp h
    cases asInt_is hn
    obtain ⟨u, rfl⟩ := rb.int_inv
    cases da with
    | int i =>
      obtain ⟨t, rfl⟩ := ra.int_inv
      obtain ⟨hs, rfl⟩ := if_is h
      exact PyProof.Rows.mul_int (fun ht => ⟨.tk s ht, .int _ _⟩) (.of_right (small_bits hs))
    | str x =>
      obtain ⟨t, rfl⟩ := ra.str_inv
      obtain ⟨hs, rfl⟩ := if_is h
      simp only [Bool.and_eq_true, decide_eq_true_eq] at hs
      refine PySem.SB.mul ⟨?_, ?_, ?_⟩ fun t' k ht => ⟨.tk s ht, .of_str _ (repL_txt x n)⟩
      · simp only [Bool.or_eq_false_iff, decide_eq_false_iff_not]; omega
      · intro h1 _ h3
        rw [mkS_len] at h3
        have h4 : (2 ^ 63 - 1 : Int) / 1000 ≤ (2 ^ 63 - 1) / n := by
          have e := Int.ediv_mul_le (2 ^ 63 - 1 : Int) (b := 1000) (by decide)
          refine Int.le_ediv_of_mul_le (by omega) ?_
          exact Int.le_trans (Int.mul_le_mul_of_nonneg_left hs.2 (by decide)) e
        have h5 : (1000 : Int) ≤ (2 ^ 63 - 1) / 1000 := by decide
        omega
      · intro h1 _
        rw [mkS_len]
        exact mul_text x n hs.1.1 hs.1.2 hs.2
    | list x =>
      obtain ⟨a, vs, k, rfl, ea, na, qa⟩ := ra.list_inv
      obtain ⟨hs, rfl⟩ := if_is h
      simp only [Bool.and_eq_true, decide_eq_true_eq] at hs
      have hv := qa.length
      have hmul : vs.length * n.toNat ≤ 1000 * 1000 := Nat.mul_le_mul (by rw [hv]; exact hs.1.1) (by omega)
      refine PySem.wpAny_binaryOp_repeat_ref (T := "list") (U := "int") (by decide) ⟨_, ea, rfl⟩ (fun s' => typeIs_int s' n u) PySem.noFill_list_mul F.fills_int_mul F.slot_int_rmul PySem.repeat_list F.slot_int_index.lookup
        (PySem.call_meets F.slot_int_rmul (typeIs_int s n u) F.entry_int_rmul (F.args_int_rmul_2 _ _) (PySem.int___rmul___int_list n u a vs.toArray k)
          ⟨ea, rfl, ⟨_, ea, rfl⟩, PySem.call_meets F.slot_list_mul ⟨_, ea, rfl⟩ F.entry_list_mul (F.args_list_mul_2 _ _)
            (AutoListH.list___mul___list_int_3 a vs.toArray k n u (by simp [Builtin.List.listFitsIndex]; omega) (by simp only [List.size_toArray]; omega) (by simp [Builtin.List.listTooLong, sizeLine]; omega))
            ⟨ea, ?_⟩⟩)
      rw [fold_rep]
      exact fun ht => gives_newlist ho (reps_flat qa _) ht
    | _ => cases h
  | fdiv =>
    obtain ⟨i, j, rfl, rfl, h⟩ := ofInts_is h
    obtain ⟨t, rfl⟩ := ra.int_inv
    obtain ⟨u, rfl⟩ := rb.int_inv
    obtain ⟨hs, rfl⟩ := if_is h
    simp only [Bool.and_eq_true, decide_eq_true_eq] at hs
    exact PyProof.Rows.floordiv_int hs.1.1 (fun ht => ⟨.tk s ht, .int _ _⟩) (.inl (PyProof.noPylong_small hs.2))
  | mod =>
    obtain ⟨i, j, rfl, rfl, h⟩ := ofInts_is h
    obtain ⟨t, rfl⟩ := ra.int_inv
    obtain ⟨u, rfl⟩ := rb.int_inv
    obtain ⟨hs, rfl⟩ := if_is h
    exact PyProof.Rows.mod_int' hs (fun ht => ⟨.tk s ht, .int _ _⟩)
  | pow =>
    obtain ⟨i, j, rfl, rfl, h⟩ := ofInts_is h
    obtain ⟨t, rfl⟩ := ra.int_inv
    obtain ⟨u, rfl⟩ := rb.int_inv
    obtain ⟨hs, rfl⟩ := if_is h
    simp only [Bool.and_eq_true, decide_eq_true_eq, small] at hs
    exact PyProof.Rows.pow_int_small hs.1.2 (by omega) (by omega) (fun ht => ⟨.tk s ht, .int _ _⟩)
end
end Mine

namespace Mine
open PySem PySem.W PyProof.Rows

mutual
noncomputable def Dv.toPy : Dv → PyData
  | .none => .none
  | .bool b => .bool b
  | .int i => .int i
  | .str x => .str (mkS x)
  | .lit x => .str (mkS x)
  | .tuple ds => .tuple (toPys ds)
  | .list ds => .list (toPys ds)
  | .obj _ _ => .none
noncomputable def toPys : List Dv → List PyData
  | [] => []
  | d :: ds => d.toPy :: toPys ds
end
mutual
/-- equality as Python has it -/
noncomputable def Dv.eqv : Dv → Dv → Bool
  | .none, .none => true
  | .bool a, .bool b => a == b
  | .bool a, .int j => (if a then 1 else 0) == j
  | .int i, .bool b => i == (if b then 1 else 0)
  | .int i, .int j => i == j
  | .str x, .str y => x == y
  | .tuple xs, .tuple ys => eqvs xs ys
  | .list xs, .list ys => eqvs xs ys
  | _, _ => false
noncomputable def eqvs : List Dv → List Dv → Bool
  | [], [] => true
  | x :: xs, y :: ys => x.eqv y && eqvs xs ys
  | _, _ => false
end
mutual
/-- plain, of a small depth, its texts of code points -/
noncomputable def Dv.lay : Nat → Dv → Bool
  | _, .none => true
  | _, .bool _ => true
  | _, .int _ => true
  | _, .str x => x.all fun c => decide (c < 1114112)
  | n + 1, .tuple ds => lays n ds
  | n + 1, .list ds => lays n ds
  | _, _ => false
noncomputable def lays : Nat → List Dv → Bool
  | _, [] => true
  | n, d :: ds => d.lay n && lays n ds
end
mutual
theorem lay_ok : ∀ (d : Dv) (n : Nat), d.lay n = true → d.toPy.canLay0 = true ∧ d.toPy.depth ≤ n
  | .none, n, _ => ⟨rfl, Nat.zero_le _⟩
  | .bool _, n, _ => ⟨rfl, Nat.zero_le _⟩
  | .int _, n, _ => ⟨rfl, Nat.zero_le _⟩
  | .str x, n, h => by
    have h' : (x.all fun c => decide (c < 1114112)) = true := by cases n <;> exact h
    refine ⟨?_, Nat.zero_le _⟩
    simpa [Dv.toPy, PyData.canLay0, PyData.strOk, mkS] using h'
  | .tuple ds, n, h => by
    cases n with
    | zero => cases h
    | succ n =>
      have := lays_ok ds n h
      exact ⟨this.1, Nat.succ_le_succ this.2⟩
  | .list ds, n, h => by
    cases n with
    | zero => cases h
    | succ n =>
      have := lays_ok ds n h
      exact ⟨this.1, Nat.succ_le_succ this.2⟩
  | .obj _ _, n, h => by cases n <;> cases h
  | .lit _, n, h => by cases n <;> cases h
theorem lays_ok : ∀ (ds : List Dv) (n : Nat), lays n ds = true → PyData.canLayAll0 (toPys ds) = true ∧ PyData.depthAll (toPys ds) ≤ n
  | [], n, _ => ⟨rfl, Nat.zero_le _⟩
  | d :: ds, n, h => by
    have h := (Bool.and_eq_true _ _).mp h
    have h1 := lay_ok d n h.1
    have h2 := lays_ok ds n h.2
    exact ⟨(Bool.and_eq_true _ _).mpr ⟨h1.1, h2.1⟩, Nat.max_le.mpr ⟨h1.2, h2.2⟩⟩
end
theorem mkS_beq (x y : List Nat) : (mkS x == mkS y) = (x == y) := by
  rw [← SeqAt.str_beq]; simp [mkS]
mutual
theorem eqv_ok : ∀ (d e : Dv) (n k : Nat), d.lay n = true → e.lay k = true → PyData.eqv d.toPy e.toPy = d.eqv e
  | .obj _ _, _, n, _, h, _ => by cases n <;> cases h
  | .lit _, _, n, _, h, _ => by cases n <;> cases h
  | .none, e, _, k, _, h => by cases e <;> first | rfl | (cases k <;> cases h)
  | .bool _, e, _, k, _, h => by cases e <;> first | rfl | (cases k <;> cases h)
  | .int _, e, _, k, _, h => by cases e <;> first | rfl | (cases k <;> cases h)
  | .str x, e, _, k, _, h => by
    cases e with
    | str y => exact mkS_beq x y
    | _ => first | rfl | (cases k <;> cases h)
  | .tuple ds, e, n, k, h, h' => by
    cases n with
    | zero => cases h
    | succ n =>
      cases e with
      | tuple es =>
        cases k with
        | zero => cases h'
        | succ k => exact eqvs_ok ds es n k h h'
      | _ => first | rfl | (cases k <;> cases h')
  | .list ds, e, n, k, h, h' => by
    cases n with
    | zero => cases h
    | succ n =>
      cases e with
      | list es =>
        cases k with
        | zero => cases h'
        | succ k => exact eqvs_ok ds es n k h h'
      | _ => first | rfl | (cases k <;> cases h')
theorem eqvs_ok : ∀ (ds es : List Dv) (n k : Nat), lays n ds = true → lays k es = true → PyData.eqvAll (toPys ds) (toPys es) = eqvs ds es
  | [], [], _, _, _, _ => rfl
  | [], _ :: _, _, _, _, _ => rfl
  | _ :: _, [], _, _, _, _ => rfl
  | d :: ds, e :: es, n, k, h, h' => by
    have h := (Bool.and_eq_true _ _).mp h
    have h' := (Bool.and_eq_true _ _).mp h'
    show (PyData.eqv d.toPy e.toPy && PyData.eqvAll (toPys ds) (toPys es)) = (d.eqv e && eqvs ds es)
    rw [eqv_ok d e n k h.1 h'.1, eqvs_ok ds es n k h.2 h'.2]
end
theorem rep_reads {h : Heap} {X : Bd} {v : Value} {d : Dv} (n : Nat) (r : Rep h X v d) (hl : d.lay n = true) : ∃ as, Reads h v d.toPy as := by
  refine Rep.rec (motive_1 := fun v d _ => ∀ n, d.lay n = true → ∃ as, Reads h v d.toPy as) (motive_2 := fun vs ds _ => ∀ n, lays n ds = true → ∃ as, ReadsAll h vs (toPys ds) as) (motive_3 := fun _ _ _ => True)
    (fun _ _ => ⟨_, .none⟩) (fun b _ _ => ⟨_, .bool b⟩) (fun i t _ _ => ⟨_, .int i t⟩) (fun x t _ _ => ⟨_, by rw [Dv.toPy, show mkS x.cps.toList = x by cases x; rfl]; exact .str x t⟩)
    (fun _ _ _ _ n hl => by cases n <;> exact nomatch hl) (fun e _ _ ih n hl => ?_) (fun e _ _ ih n hl => ?_) (fun _ _ _ _ _ _ _ n hl => by cases n <;> exact nomatch hl)
    (fun _ _ => ⟨_, .nil⟩) (fun _ _ ih1 ih2 n hl => ?_) trivial (fun _ _ _ _ _ => trivial) r n hl
  · cases n with
    | zero => exact nomatch hl
    | succ n =>
      obtain ⟨as, q⟩ := ih n hl
      exact ⟨as, by rw [Dv.toPy]; exact reads_tuple_at e rfl rfl (by simpa using q)⟩
  · cases n with
    | zero => exact nomatch hl
    | succ n =>
      obtain ⟨as, q⟩ := ih n hl
      exact ⟨_, by rw [Dv.toPy]; exact reads_list_at e rfl rfl (by simpa [lstObj] using q)⟩
  · rw [lays, Bool.and_eq_true] at hl
    obtain ⟨as, a⟩ := ih1 n hl.1
    obtain ⟨bs, b⟩ := ih2 n hl.2
    exact ⟨_, by rw [toPys]; exact .cons a b⟩

inductive Cop | eq | ne | lt | le | gt | ge | is | isnot | in_ | notin
noncomputable def Cop.tree : Cop → CmpOp
  | .eq => .Eq | .ne => .NotEq | .lt => .Lt | .le => .LtE | .gt => .Gt | .ge => .GtE | .is => .Is | .isnot => .IsNot | .in_ => .In | .notin => .NotIn
noncomputable def asBool : Dv → Option Bool
  | .bool b => some b
  | _ => none
theorem asBool_is {d : Dv} {i : Bool} (h : asBool d = some i) : d = .bool i := by
  cases d with
  | bool j => cases h; rfl
  | _ => cases h
noncomputable def isNone : Dv → Option Unit
  | .none => some ()
  | _ => none
theorem isNone_is {d : Dv} {u : Unit} (h : isNone d = some u) : d = .none := by
  cases d with
  | none => rfl
  | _ => cases h
noncomputable def oneOf (d : Dv) : Option Nat := (asStr d).bind fun l => match l with
  | [c] => some c
  | _ => none
theorem oneOf_is {d : Dv} {c : Nat} (h : oneOf d = some c) : d = .str [c] := by
  obtain ⟨l, hl, h⟩ := Option.bind_eq_some_iff.mp h
  rw [asStr_is hl]
  cases l with
  | nil => cases h
  | cons a l => cases l with
    | nil => cases h; rfl
    | cons _ _ => cases h
noncomputable def cmpI (f : Int → Int → Bool) (a b : Dv) : Option Bool := (asInt a).bind fun i => (asInt b).bind fun j => some (f i j)
theorem cmpI_is {f : Int → Int → Bool} {a b : Dv} {r : Bool} (h : cmpI f a b = some r) : ∃ i j, a = .int i ∧ b = .int j ∧ f i j = r := by
  obtain ⟨i, hi, h⟩ := Option.bind_eq_some_iff.mp h
  obtain ⟨j, hj, h⟩ := Option.bind_eq_some_iff.mp h
  exact ⟨i, j, asInt_is hi, asInt_is hj, Option.some.inj h⟩
noncomputable def isD (a b : Dv) : Option Bool := match a with
  | .bool x => (asBool b).bind fun y => some (x == y)
  | .none => (isNone b).bind fun _ => some true
  | .int _ => (isNone b).bind fun _ => some false
  | _ => none
noncomputable def inD (a b : Dv) : Option Bool := match b with
  | .str x => (oneOf a).bind fun c => some (x.contains c)
  | .list ds => if a.lay 6 && lays 6 ds then some (ds.any fun y => y.eqv a) else none
  | _ => none
noncomputable def Cop.app : Cop → Dv → Dv → Option Bool
  | .eq, a, b => if a.lay 6 && b.lay 6 then some (a.eqv b) else none
  | .ne, a, b => if a.lay 6 && b.lay 6 then some (!a.eqv b) else none
  | .lt, a, b => cmpI (fun a b => decide (a < b)) a b
  | .le, a, b => cmpI (fun a b => decide (a ≤ b)) a b
  | .gt, a, b => cmpI (fun a b => decide (a > b)) a b
  | .ge, a, b => cmpI (fun a b => decide (a ≥ b)) a b
  | .is, a, b => isD a b
  | .isnot, a, b => (asBool a).bind fun x => (asBool b).bind fun y => some (!(x == y))
  | .in_, a, b => inD a b
  | .notin, a, b => (asStr b).bind fun x => (oneOf a).bind fun c => some (!x.contains c)

theorem any_toPy (a : Dv) : ∀ (ds : List Dv), lays 6 ds = true → a.lay 6 = true → ((toPys ds).any fun y => PyData.eqv y a.toPy) = ds.any fun y => y.eqv a
  | [], _, _ => rfl
  | d :: ds, h, h' => by
    simp only [lays, Bool.and_eq_true] at h
    rw [toPys, List.any_cons, List.any_cons, any_toPy a ds h.2 h', eqv_ok d a 6 6 h.1 h']

section
variable {prog : Program} {w : World} {k : Nat} {A : Around} {s : Shared} {X : Bd}

theorem has_one (x : List Nat) (c : Nat) : Txt.contains (mkS x) (mkS [c]) = x.contains c := by
  have := StrLaws.found_one (mkS x) c
  unfold Txt.contains
  rw [show mkS [c] = (⟨#[c]⟩ : Str) from rfl, this, Bool.eq_iff_iff, decide_eq_true_eq]
  simp [mkS]
theorem cop_sound {o : Cop} {a b : Value} {da db : Dv} {r : Bool} {Q : Value → Shared → Prop} {E : Value → Shared → Prop} (hA : Rm k A) (ra : Rep s.heap X a da) (rb : Rep s.heap X b db) (h : o.app da db = some r)
    (hQ : Q (.bool r) s) : wpAny (model prog w) A (compareOp o.tree a b) Q E s := by
  have hu := hA.fit
  cases o with
  | eq =>
    obtain ⟨hl, rfl⟩ := if_is h
    rw [Bool.and_eq_true] at hl
    obtain ⟨as, qa⟩ := rep_reads 6 ra hl.1
    obtain ⟨bs, qb⟩ := rep_reads 6 rb hl.2
    have l1 := lay_ok _ _ hl.1
    have l2 := lay_ok _ _ hl.2
    exact SeqAt.compareEq_reads qa qb l1.1 l2.1 (by omega) (by rw [eqv_ok _ _ _ _ hl.1 hl.2]; exact hQ)
  | ne =>
    obtain ⟨hl, rfl⟩ := if_is h
    rw [Bool.and_eq_true] at hl
    obtain ⟨as, qa⟩ := rep_reads 6 ra hl.1
    obtain ⟨bs, qb⟩ := rep_reads 6 rb hl.2
    have l1 := lay_ok _ _ hl.1
    have l2 := lay_ok _ _ hl.2
    exact SeqAt.compareNe_reads qa qb l1.1 l2.1 (by omega) (by rw [eqv_ok _ _ _ _ hl.1 hl.2]; exact hQ)
  | lt =>
    obtain ⟨i, j, rfl, rfl, rfl⟩ := cmpI_is h
    obtain ⟨t, rfl⟩ := ra.int_inv
    obtain ⟨u, rfl⟩ := rb.int_inv
    exact PySem.P.lt_int hQ
  | le =>
    obtain ⟨i, j, rfl, rfl, rfl⟩ := cmpI_is h
    obtain ⟨t, rfl⟩ := ra.int_inv
    obtain ⟨u, rfl⟩ := rb.int_inv
    exact PySem.P.le_int hQ
  | gt =>
    obtain ⟨i, j, rfl, rfl, rfl⟩ := cmpI_is h
    obtain ⟨t, rfl⟩ := ra.int_inv
    obtain ⟨u, rfl⟩ := rb.int_inv
    exact PySem.P.gt_int hQ
  | ge =>
    obtain ⟨i, j, rfl, rfl, rfl⟩ := cmpI_is h
    obtain ⟨t, rfl⟩ := ra.int_inv
    obtain ⟨u, rfl⟩ := rb.int_inv
    exact PySem.P.ge_int hQ
  | is =>
    cases da with
    | bool x =>
      cases ra.bool_inv
      obtain ⟨y, hy, h⟩ := Option.bind_eq_some_iff.mp h
      cases asBool_is hy
      cases rb.bool_inv
      cases h
      exact PySem.wpAny_is_plain rfl (by cases x <;> cases y <;> exact hQ)
    | none =>
      cases ra.none_inv
      obtain ⟨y, hy, h⟩ := Option.bind_eq_some_iff.mp h
      cases isNone_is hy
      cases rb.none_inv
      cases h
      exact PySem.is_none hQ
    | int i =>
      obtain ⟨t, rfl⟩ := ra.int_inv
      obtain ⟨y, hy, h⟩ := Option.bind_eq_some_iff.mp h
      cases isNone_is hy
      cases rb.none_inv
      cases h
      exact PyProof.Rows.is_int_none hQ
    | _ => cases h
  | isnot =>
    obtain ⟨x, hx, h⟩ := Option.bind_eq_some_iff.mp h
    obtain ⟨y, hy, h⟩ := Option.bind_eq_some_iff.mp h
    cases asBool_is hx
    cases asBool_is hy
    cases ra.bool_inv
    cases rb.bool_inv
    cases h
    exact PySem.wpAny_isNot_plain rfl (by cases x <;> cases y <;> exact hQ)
  | in_ =>
    cases db with
    | str x =>
      obtain ⟨c, hc, h⟩ := Option.bind_eq_some_iff.mp h
      cases oneOf_is hc
      obtain ⟨t, rfl⟩ := ra.str_inv
      obtain ⟨u, rfl⟩ := rb.str_inv
      cases h
      refine PySem.SB.contains ?_
      rw [has_one]; exact hQ
    | list ds =>
      obtain ⟨hl, rfl⟩ := if_is h
      rw [Bool.and_eq_true] at hl
      obtain ⟨as, qa⟩ := rep_reads 6 ra hl.1
      obtain ⟨bs, qb⟩ := rep_reads 7 rb hl.2
      have l1 := lay_ok _ _ hl.1
      have l2 := lays_ok _ _ hl.2
      exact SeqAt.in_list_reads (by simpa [Dv.toPy] using qb) qa l2.1 l1.1 (by omega) (by rw [any_toPy _ _ hl.2 hl.1]; exact hQ)
    | _ => cases h
  | notin =>
    obtain ⟨x, hx, h⟩ := Option.bind_eq_some_iff.mp h
    obtain ⟨c, hc, h⟩ := Option.bind_eq_some_iff.mp h
    cases asStr_is hx
    cases oneOf_is hc
    obtain ⟨t, rfl⟩ := ra.str_inv
    obtain ⟨u, rfl⟩ := rb.str_inv
    cases h
    refine PySem.SB.notContains ?_
    rw [has_one]; exact hQ
end
end Mine

namespace Mine
local macro_rules | `(tactic| omega) => `(tactic| lia)
open PySem PySem.W PyProof.Rows

/-! items and slices -/
noncomputable def lpick {α : Type} (ds : List α) (lo hi st : Option Int) : List α :=
  (sliceRange (sliceBounds lo hi st ds.length).1 (sliceBounds lo hi st ds.length).2.1 (sliceBounds lo hi st ds.length).2.2).filterMap fun i => ds[i]?
noncomputable def fits (i : Int) : Bool := decide (-(2 ^ 62) < i) && decide (i < 2 ^ 62)
noncomputable def idxApp : Dv → Dv → Option Dv
  | .list ds, .int i => if decide (0 ≤ i) && fits i then ds[i.toNat]? else if fits i then (seqIndex? i ds.length).bind (ds[·]?) else none
  | .tuple ds, .int i => if fits i then (seqIndex? i ds.length).bind (ds[·]?) else none
  | .str x, .int i => if fits i then ((seqIndex? i x.length).bind (x[·]?)).map fun c => .str [c] else none
  | _, _ => none
noncomputable def partOf : Dv → Option (Option Int)
  | .none => some none
  | .int i => some (some i)
  | _ => none
noncomputable def slApp (a l u st : Dv) : Option Dv :=
  (partOf l).bind fun l => (partOf u).bind fun u => (partOf st).bind fun st =>
    if st = some 0 then none else match a with
    | .list ds => if ds.length ≤ 100000 then some (.list (lpick ds l u st)) else none
    | .str x => if x.length ≤ 100000 then some (.str (lpick x l u st)) else none
    | .tuple ds => if ds.length ≤ 100000 ∧ st = none then some (.tuple (lpick ds l u none)) else none
    | _ => none

section
variable {prog : Program} {w : World} {k : Nat} {A : Around} {s : Shared} {X : Bd}

theorem reps_pick {h : Heap} {vs : List Value} {ds : List Dv} (r : Reps h X vs ds) : ∀ l : List Nat, Reps h X (l.filterMap fun i => vs[i]?) (l.filterMap fun i => ds[i]?)
  | [] => .nil
  | i :: l => by
    have ih := reps_pick r l
    cases e : ds[i]? with
    | none =>
      have hv : vs[i]? = none := by
        rw [List.getElem?_eq_none_iff] at e ⊢
        have := r.length; omega
      simpa [List.filterMap_cons, e, hv] using ih
    | some d =>
      obtain ⟨v, hv, q⟩ := r.get e
      simpa [List.filterMap_cons, e, hv] using Reps.cons q ih

theorem subscripted_plain (o i : Value) (e : Expr) (h : ∀ a b c p, e ≠ .Slice a b c p) : subscripted e false o i = operate [o, i] (getItem o i) := by
  cases e <;> first | rfl | exact absurd rfl (h _ _ _ _)

theorem idx_raw {v slice : Expr} {a : Addr} {vs : List Value} {n : Nat} {ds : List Dv} {i : Value} {di d : Dv} {E : Value → Shared → Prop} {Q : Value → Shared → Prop} (ea : s.heap.get? a = some (lstObj vs n)) (qa : Reps s.heap X vs ds) (ri : Rep s.heap X i di) (h : idxApp (.list ds) di = some d)
    (hQ : ∀ r s', Ext s s' → Rep s'.heap X r d → Q r s') (hs : ∀ a b c p, slice ≠ .Slice a b c p) : wpAny (model prog w) A (subscriptTail v slice (.ref a) i) Q E s := by
  cases di with
  | int i =>
    obtain ⟨u, rfl⟩ := ri.int_inv
    dsimp only [idxApp] at h
    by_cases h1 : (decide (0 ≤ i) && fits i) = true
    · rw [if_pos h1] at h
      simp only [Bool.and_eq_true, decide_eq_true_eq, fits] at h1
      obtain ⟨v', hv, q⟩ := qa.get h
      exact tail_any (isL ea).typeIs slot_list_getitem.lookup (wpAny_getItem_list (isL ea) h1.1 (by omega) (by simpa using hv) (hQ _ _ (.refl s) q)) (subscripted_plain _ _ _ hs)
    · rw [if_neg h1] at h
      split at h
      · rename_i h2
        simp only [Bool.and_eq_true, decide_eq_true_eq, fits] at h1 h2
        obtain ⟨j, hj, hd⟩ := Option.bind_eq_some_iff.mp h
        obtain ⟨v', hv, q⟩ := qa.get hd
        rw [← qa.length] at hj
        have hneg : i < 0 := by omega
        have hj' : 0 ≤ i + vs.length ∧ j = (i + vs.length).toNat := by
          unfold seqIndex? at hj
          rw [if_pos hneg] at hj
          dsimp only at hj
          split at hj
          · rename_i h3
            simp only [Bool.and_eq_true, decide_eq_true_eq] at h3
            cases hj
            exact ⟨h3.1, rfl⟩
          · cases hj
        refine tail_any (isL ea).typeIs slot_list_getitem.lookup (wpAny_getItem_list_neg (isL ea) hneg (by simp only [List.size_toArray]; omega) (by omega) ?_ (hQ _ _ (.refl s) q)) (subscripted_plain _ _ _ hs)
        simp only [List.size_toArray, List.getElem?_toArray]
        rw [← hj'.2]; exact hv
      · cases h
  | _ => cases h

theorem idx_list {v slice : Expr} {a i : Value} {da di d : Dv} {E : Value → Shared → Prop} {Q : Value → Shared → Prop} (ra : Rep s.heap X a da) (ri : Rep s.heap X i di) (h : idxApp da di = some d)
    (hQ : ∀ r s', Ext s s' → Rep s'.heap X r d → Q r s') (hs : ∀ a b c p, slice ≠ .Slice a b c p) : wpAny (model prog w) A (subscriptTail v slice a i) Q E s := by
  have h' := h
  unfold idxApp at h
  split at h
  · obtain ⟨a, vs, n, rfl, ea, na, qa⟩ := ra.list_inv
    exact idx_raw ea qa ri h' hQ hs
  · rename_i ds i
    obtain ⟨u, rfl⟩ := ri.int_inv
    obtain ⟨a, vs, n, rfl, ea, na, qa⟩ := ra.tuple_inv
    split at h
    · rename_i h2
      simp only [Bool.and_eq_true, decide_eq_true_eq, fits] at h2
      obtain ⟨j, hj, hd⟩ := Option.bind_eq_some_iff.mp h
      obtain ⟨v', hv, q⟩ := qa.get hd
      rw [← qa.length] at hj
      exact tail_any (isT ea).typeIs slot_tuple_getitem.lookup (PyProof.Rows.getItem_tuple (isT ea) (by omega) (by omega) (by simpa using hj) (by simpa using hv) (hQ _ _ (.refl s) q)) (subscripted_plain _ _ _ hs)
    · cases h
  · rename_i x i
    obtain ⟨u, rfl⟩ := ri.int_inv
    obtain ⟨t, rfl⟩ := ra.str_inv
    split at h
    · rename_i h2
      simp only [Bool.and_eq_true, decide_eq_true_eq, fits] at h2
      simp only [Option.map_eq_some_iff] at h
      obtain ⟨c, hc, rfl⟩ := h
      refine tail_any (typeIs_str _ _ _) slot_str_getitem.lookup (PyProof.Rows.getItem_str (c := c) ?_ ?_ (hQ _ _ (.tk s (Nat.le_succ _)) (.of_str _ (by simp)))) (subscripted_plain _ _ _ hs)
      · simp only [Bool.or_eq_false_iff, decide_eq_false_iff_not]; omega
      · rw [mkS_len]; simpa [mkS] using hc
    · cases h
  · cases h

theorem part_of {h : Heap} {v : Value} {d : Dv} {o : Option Int} (r : Rep h X v d) (e : partOf d = some o) : IsPart v o ∧ ∃ q : Option (Int × Tok), v = partValue q ∧ q.map (·.1) = o := by
  unfold partOf at e
  split at e
  · cases r.none_inv
    cases e
    exact ⟨.none, none, rfl, rfl⟩
  · obtain ⟨t, rfl⟩ := r.int_inv
    cases e
    exact ⟨.int _ _, some (_, t), rfl, rfl⟩
  · cases e
theorem pick_str (x : List Nat) (l u st : Option Int) : (Builtin.Str.strSliceIndices l u (st.getD 1) (mkS x).length).filterMap ((mkS x).cps[·]?) = lpick x l u st := by
  rw [mkS_len]
  have e : Builtin.Str.strSliceIndices l u (st.getD 1) x.length = sliceRange (sliceBounds l u st x.length).1 (sliceBounds l u st x.length).2.1 (sliceBounds l u st x.length).2.2 := by
    cases l <;> cases u <;> rfl
  rw [e]
  unfold lpick
  congr 1
  funext i
  simp [mkS]
theorem bounds_ok (l u st : Option Int) (n : Nat) : ((sliceBounds l u st n).2.2 > 0 → 0 ≤ (sliceBounds l u st n).1 ∧ (sliceBounds l u st n).2.1 ≤ n) ∧
    (¬ (sliceBounds l u st n).2.2 > 0 → (sliceBounds l u st n).1 ≤ (n : Int) - 1 ∧ -1 ≤ (sliceBounds l u st n).2.1) := by
  unfold sliceBounds
  dsimp only
  constructor
  · intro h
    simp only [if_pos h]
    refine ⟨?_, ?_⟩
    · cases l with
      | none => simp
      | some i => dsimp only; split <;> omega
    · cases u with
      | none => simp
      | some i => dsimp only; split <;> omega
  · intro h
    simp only [if_neg h]
    refine ⟨?_, ?_⟩
    · cases l with
      | none => simp
      | some i => dsimp only; split <;> omega
    · cases u with
      | none => simp
      | some i => dsimp only; split <;> omega
theorem lpick_le {α : Type} (x : List α) (l u st : Option Int) : (lpick x l u st).length ≤ x.length := by
  have h := bounds_ok l u st x.length
  exact Nat.le_trans (List.length_filterMap_le _ _) (sliceRange_length_le _ _ _ _ h.1 h.2)
theorem getElems {α : Type} (x : List α) : ∀ (n : Nat), n ≤ x.length → (List.range n).filterMap (fun i => x[i]?) = x.take n := by
  intro n
  induction n with
  | zero => intro _; rfl
  | succ n ih =>
    intro h
    rw [List.range_succ, List.filterMap_append, ih (by omega), List.take_add_one]
    rw [List.getElem?_eq_getElem (by omega)]
    simp [List.getElem?_eq_getElem (show n < x.length by omega)]
theorem lpick_all {α : Type} (x : List α) (l u st : Option Int) (h1 : st.getD 1 = 1) (h : (sliceRange (sliceBounds l u st x.length).1 (sliceBounds l u st x.length).2.1 (sliceBounds l u st x.length).2.2).length = x.length) : lpick x l u st = x := by
  have hb := bounds_ok l u st x.length
  have hs : (sliceBounds l u st x.length).2.2 = 1 := h1
  rw [hs] at h hb
  obtain ⟨b1, b2⟩ := hb.1 (by decide)
  unfold lpick
  rw [hs]
  generalize (sliceBounds l u st x.length).1 = a at *
  generalize (sliceBounds l u st x.length).2.1 = b at *
  unfold sliceRange at h ⊢
  simp only [show (1 : Int) > 0 by decide, if_true, List.length_map, List.length_range] at h ⊢
  have e : (if a < b then (b - a + 1 - 1) / 1 else 0).toNat = x.length := h
  rw [e]
  by_cases hx : x.length = 0
  · have : x = [] := List.length_eq_zero_iff.mp hx
    subst this
    rfl
  · have ha : a = 0 := by
      split at e
      · rw [Int.ediv_one] at e; omega
      · simp at e; omega
    subst ha
    have := getElems x x.length (Nat.le_refl _)
    rw [List.take_length] at this
    rw [List.filterMap_map]
    refine Eq.trans ?_ this
    refine congrArg (fun f => List.filterMap f _) (funext fun i => ?_)
    simp
theorem pick_list (vs : List Value) (l u st : Option Int) : slicePick vs.toArray l u st = (lpick vs l u st).toArray := by
  unfold slicePick lpick
  simp

theorem tup_adjust (l u : Option Int) (n : Nat) : Builtin.Slice.sliceAdjust l u 1 (n : Int) = ((sliceBounds l u none n).1, (sliceBounds l u none n).2.1) := by
  unfold Builtin.Slice.sliceAdjust sliceBounds
  have h1 : ¬ ((1 : Int) < 0) := by omega
  have h2 : (1 : Int) > 0 := by omega
  simp only [h1, h2, if_false, if_true, Option.getD]
  congr 1
  · cases l with
    | none => rfl
    | some i => dsimp only; split <;> omega
  · cases u with
    | none => rfl
    | some i => dsimp only; split <;> omega
theorem tup_places (lo hi : Int) : Builtin.Slice.slicePlaces lo hi 1 = (sliceRange lo hi 1).length := by
  unfold Builtin.Slice.slicePlaces sliceRange
  have h2 : (1 : Int) > 0 := by omega
  simp only [h2, if_true, Int.ediv_one, List.length_map, List.length_range]
  split <;> omega
theorem part_is {prog : Program} {w : World} {A : Around} {E : Value → Shared → Prop} {s : Shared} {v : Value} {o : Option Int} {Q : Option Int → Shared → Prop} (p : IsPart v o) (h : Q o s) : wpAny (model prog w) A (Builtin.Slice.slicePartIndex v) Q E s := by
  cases p with
  | none => exact slicePart_none h
  | int i t => exact slicePart_int h
theorem applied_is {prog : Program} {w : World} {A : Around} {E : Value → Shared → Prop} {s : Shared} {sl : Addr} {vl vu : Value} {l u : Option Int} {n : Nat} {Q : Int × Int × Nat → Shared → Prop} (hs : s.heap.IsSliceOf sl vl vu .none) (pl : IsPart vl l) (pu : IsPart vu u)
    (h : Q ((sliceBounds l u none n).1, 1, (sliceRange (sliceBounds l u none n).1 (sliceBounds l u none n).2.1 1).length) s) : wpAny (model prog w) A (Builtin.Slice.sliceApplied (.ref sl) (pure (n : Int))) Q E s := by
  obtain ⟨os, hos, hcs, hds⟩ := id hs
  unfold Builtin.Slice.sliceApplied Builtin.Slice.sliceFields
  refine wpAny_bind (wpAny_bind (wpAny_field hos hds (x := vl) rfl (wpAny_bind (wpAny_field hos hds (x := vu) rfl (wpAny_bind (wpAny_field hos hds (x := .none) rfl (wpAny_pure ?_)))))))
  refine wpAny_bind (slicePart_none ?_)
  show wpAny _ _ (if ((1 : Int) == 0) = true then _ else _) _ _ s
  rw [if_neg (by decide)]
  refine wpAny_bind (part_is pl (wpAny_bind (part_is pu (wpAny_bind (wpAny_pure ?_)))))
  show wpAny _ _ (match Builtin.Slice.sliceAdjust l u 1 (n : Int) with | (lo, hi) => pure (lo, (1 : Int), Builtin.Slice.slicePlaces lo hi 1)) _ _ s
  rw [tup_adjust]
  show wpAny _ _ (pure ((sliceBounds l u none n).1, (1 : Int), Builtin.Slice.slicePlaces (sliceBounds l u none n).1 (sliceBounds l u none n).2.1 1)) _ _ s
  rw [tup_places]
  exact wpAny_pure h
theorem tup_pick (vs : List Value) (l u : Option Int) : ((List.range (sliceRange (sliceBounds l u none vs.length).1 (sliceBounds l u none vs.length).2.1 1).length).filterMap fun (k : Nat) => vs.toArray[((sliceBounds l u none vs.length).1 + (k : Int) * 1).toNat]?).toArray = (lpick vs l u none).toArray := by
  unfold lpick
  rw [show (sliceBounds l u none vs.length).2.2 = 1 from rfl]
  generalize (sliceBounds l u none vs.length).1 = a
  generalize (sliceBounds l u none vs.length).2.1 = b
  unfold sliceRange
  rw [List.length_map, List.length_range, List.filterMap_map]
  refine congrArg List.toArray (congrArg (fun f => List.filterMap f _) (funext fun k => ?_))
  simp
theorem getItem_tup {prog : Program} {w : World} {A : Around} {E : Value → Shared → Prop} {s : Shared} {t sl : Addr} {vs : List Value} {vl vu : Value} {l u : Option Int} {Q : Value → Shared → Prop} (ht : IsTup s.heap t vs.toArray) (hs : s.heap.IsSliceOf sl vl vu .none) (pl : IsPart vl l) (pu : IsPart vu u)
    (h1 : lpick vs l u none = vs → Q (.ref t) s) (h2 : Q (.ref s.heap.objs.size) { s with heap := s.heap.push (tupObj (lpick vs l u none)) }) (hsz : vs.length ≤ 100000) : wpAny (model prog w) A (getItem (.ref t) (.ref sl)) Q E s := by
  have hle : sizeOk (.seq (lpick vs l u none).toArray) := by
    show (lpick vs l u none).toArray.size ≤ sizeLine
    rw [List.size_toArray]
    have := lpick_le vs l u none
    show (lpick vs l u none).length ≤ 16777216
    omega
  obtain ⟨os, hos, hcs, hds⟩ := id hs
  have hTs : s.TypeIs (.ref sl) "slice" := ⟨os, hos, hcs⟩
  unfold getItem
  try with_reducible refine wpAny_holding ?_
  first | refine wpAny_bind (wpAny_pure ?_) | skip
  refine wpAny_bind (wpAny_sequenceKey ht.typeIs (by decide) ?_)
  refine wpAny_bind (wpAny_callSpecial?_slot (name := Str.ofString "__getitem__") ht.typeIs slot_tuple_getitem
    (wpAny_call_entry slot_tuple_getitem ht.typeIs entry_tuple_getitem ?_ (args_tuple_getitem _ _)))
  show wpAny _ _ (Builtin.Tuple.tupleItemsOf (.ref t) >>= _) _ _ s
  refine wpAny_bind (tupleItemsOf_ ht ?_)
  refine wpAny_bind (wpAny_typeOf hTs ?_)
  rw [if_pos (by decide)]
  refine wpAny_bind (applied_is (n := vs.toArray.size) hs pl pu ?_)
  rw [List.size_toArray]
  have hmade : wpAny (model prog w) A.in1 (Builtin.Tuple.tupleExact ((List.range (sliceRange (sliceBounds l u none vs.length).1 (sliceBounds l u none vs.length).2.1 1).length).filterMap fun (k : Nat) => vs.toArray[((sliceBounds l u none vs.length).1 + (k : Int) * 1).toNat]?).toArray) (fun v s' => v = .ref s.heap.objs.size ∧ s' = { s with heap := s.heap.push (tupObj (lpick vs l u none)) }) (fun _ _ => False) s := by
    rw [tup_pick]
    exact wpAny_newObj_type ⟨rfl, rfl⟩ hle
  by_cases hw : ((sliceBounds l u none vs.length).1 == 0 && (1 : Int) == 1 && (sliceRange (sliceBounds l u none vs.length).1 (sliceBounds l u none vs.length).2.1 1).length == vs.length) = true
  · have e : lpick vs l u none = vs := by
      simp only [Bool.and_eq_true, beq_iff_eq] at hw
      exact lpick_all vs l u none rfl hw.2
    show wpAny _ _ (if ((sliceBounds l u none vs.length).1 == 0 && (1 : Int) == 1 && (sliceRange (sliceBounds l u none vs.length).1 (sliceBounds l u none vs.length).2.1 1).length == vs.length) = true then _ else _) _ _ s
    rw [if_pos hw]
    refine wpAny_bind (m := Builtin.Tuple.tupleIsExact (.ref t)) (wpAny_bind (wpAny_typeOf ht.typeIs (wpAny_pure ?_)))
    rw [if_pos (by decide)]
    exact wpAny_bind (wpAny_rule (wpAny_pure ⟨_, rfl, wpAny_pure (h1 e)⟩))
  · show wpAny _ _ (if ((sliceBounds l u none vs.length).1 == 0 && (1 : Int) == 1 && (sliceRange (sliceBounds l u none vs.length).1 (sliceBounds l u none vs.length).2.1 1).length == vs.length) = true then _ else _) _ _ s
    rw [if_neg hw]
    first
      | exact wpAny_bind (m := Builtin.Tuple.tupleExact _) (wpAny_mono hmade (fun v s' ⟨e1, e2⟩ => by subst e1; subst e2; exact wpAny_pure ⟨_, rfl, wpAny_pure h2⟩) fun _ _ f => f.elim)
      | exact wpAny_bind (wpAny_bind (m := Builtin.Tuple.tupleExact _) (wpAny_mono hmade (fun v s' ⟨e1, e2⟩ => by subst e1; subst e2; exact wpAny_pure ⟨_, rfl, wpAny_pure h2⟩) fun _ _ f => f.elim))

theorem sl_sound {v slice : Expr} {ops : Value → Value → List Value} {a vl vu vs : Value} {da dl du dst d : Dv} {E : Value → Shared → Prop} {Q : Value → Shared → Prop} (ho : Old X s) (ra : Rep s.heap X a da) (rl : Rep s.heap X vl dl) (ru : Rep s.heap X vu du) (rs : Rep s.heap X vs dst)
    (h : slApp da dl du dst = some d) (hQ : ∀ r s', Ext s s' → Rep s'.heap X r d → Q r s') (hs : ∀ o i, subscripted slice false o i = operate (ops o i) (getItem o i)) :
    wpAny (model prog w) A (newFields "slice" [vl, vu, vs]) (fun i s₂ => wpAny (model prog w) A (subscriptTail v slice a i) Q E s₂) E s := by
  obtain ⟨l, hl, h⟩ := Option.bind_eq_some_iff.mp h
  obtain ⟨u, hu, h⟩ := Option.bind_eq_some_iff.mp h
  obtain ⟨st, hst, h⟩ := Option.bind_eq_some_iff.mp h
  obtain ⟨pl, ql, hql, el⟩ := part_of rl hl
  obtain ⟨pu, qu, hqu, eu⟩ := part_of ru hu
  obtain ⟨ps, qs, hqs, es⟩ := part_of rs hst
  have h0 : ¬ st = some 0 := fun e => by rw [if_pos e] at h; cases h
  rw [if_neg h0] at h
  have hx : Ext s { s with heap := s.heap.push { cls := .type "slice", data := .fields #[vl, vu, vs] } } := .push s _ (Nat.le_refl _)
  unfold newFields
  refine wpAny_newObj_type ?_ (by size_fits)
  cases da with
  | list xs =>
    obtain ⟨a, us, n, rfl, ea, na, qa⟩ := ra.list_inv
    · obtain ⟨hlen, rfl⟩ := if_is h
      have e := Heap.get?_push_of_some ({ cls := .type "slice", data := .fields #[vl, vu, vs] } : Obj) ea
      have hl' := qa.length
      refine tail_any (isL e).typeIs slot_list_getitem.lookup (wpAny_getItem_list_slice (isL e) (Heap.IsSliceOf.new s.heap vl vu vs) pl pu ps h0 ?_ (by simp only [List.size_toArray]; show us.length ≤ 16777216; omega)) (hs _ _)
      rw [pick_list]
      have g := gives_newlist (ho.ext hx) ((reps_pick (qa.ext hx) (sliceRange (sliceBounds l u st us.length).1 (sliceBounds l u st us.length).2.1 (sliceBounds l u st us.length).2.2))) (tk := s.toks) (Nat.le_refl _)
      have e2 : (sliceRange (sliceBounds l u st us.length).1 (sliceBounds l u st us.length).2.1 (sliceBounds l u st us.length).2.2) = (sliceRange (sliceBounds l u st xs.length).1 (sliceBounds l u st xs.length).2.1 (sliceBounds l u st xs.length).2.2) := by rw [hl']
      refine hQ _ _ (hx.trans g.1) ?_
      have := g.2
      unfold lpick
      rw [← e2]
      exact this
  | str x =>
    obtain ⟨t, rfl⟩ := ra.str_inv
    · obtain ⟨hlen, rfl⟩ := if_is h
      have hsl : (s.heap.push { cls := .type "slice", data := .fields #[vl, vu, vs] }).IsSlice s.heap.objs.size ql qu qs := ⟨_, Heap.get?_push_size _ rfl, rfl, by rw [hql, hqu, hqs]⟩
      refine tail_any (typeIs_str _ _ _) slot_str_getitem.lookup (wpAny_getItem_str_slice hsl ?_ ?_) (hs _ _)
      · rw [es]
        cases st with
        | none => rfl
        | some c =>
          have hc : ¬ c = 0 := fun e => h0 (by rw [e])
          simpa using hc
      · have key : ((slicePicked (mkS x) ql qu qs).filterMap ((mkS x).cps[·]?)) = lpick x l u st := by
          unfold slicePicked
          rw [el, eu, es]
          exact pick_str x l u st
        unfold sliceMade
        split
        · rename_i hc
          refine hQ _ _ hx (.of_str _ ?_)
          simp only [Bool.and_eq_true, beq_iff_eq] at hc
          rw [es] at hc
          have hlen2 : (slicePicked (mkS x) ql qu qs).length = x.length := hc.2.trans (mkS_len x)
          have e2 : slicePicked (mkS x) ql qu qs = sliceRange (sliceBounds l u st x.length).1 (sliceBounds l u st x.length).2.1 (sliceBounds l u st x.length).2.2 := by
            unfold slicePicked
            rw [el, eu, es, mkS_len]
            cases l <;> cases u <;> rfl
          rw [e2] at hlen2
          rw [lpick_all x l u st hc.1 hlen2]
          simp [mkS]
        · refine ⟨?_, hQ _ _ (hx.trans (.tk _ (Nat.le_succ _))) (.of_str _ ?_)⟩
          · rw [key]
            have := lpick_le x l u st
            show (lpick x l u st).length ≤ 16777216
            omega
          · rw [key]
  | tuple xs =>
    obtain ⟨a, us, n, rfl, ea, na, qa⟩ := ra.tuple_inv
    · obtain ⟨hlen, rfl⟩ := if_is h
      obtain ⟨hlen, rfl⟩ := hlen
      have e := Heap.get?_push_of_some ({ cls := .type "slice", data := .fields #[vl, vu, vs] } : Obj) ea
      have hl' := qa.length
      have hvs : vs = .none := by cases ps; rfl
      subst hvs
      have e2 : (sliceRange (sliceBounds l u none us.length).1 (sliceBounds l u none us.length).2.1 (sliceBounds l u none us.length).2.2) = (sliceRange (sliceBounds l u none xs.length).1 (sliceBounds l u none xs.length).2.1 (sliceBounds l u none xs.length).2.2) := by rw [hl']
      have rp : Reps (s.heap.push { cls := .type "slice", data := .fields #[vl, vu, .none] }) X (lpick us l u none) (lpick xs l u none) := by
        have := reps_pick (qa.ext hx) (sliceRange (sliceBounds l u none us.length).1 (sliceBounds l u none us.length).2.1 (sliceBounds l u none us.length).2.2)
        unfold lpick
        rw [← e2]
        exact this
      have it : IsTup (s.heap.push { cls := .type "slice", data := .fields #[vl, vu, .none] }) a us.toArray := ⟨_, e, rfl, n, rfl⟩
      refine tail_any it.typeIs slot_tuple_getitem.lookup (getItem_tup (s := { s with heap := s.heap.push { cls := .type "slice", data := .fields #[vl, vu, .none] } }) it (Heap.IsSliceOf.new s.heap vl vu .none) pl pu (fun hw => ?_) ?_ (by omega)) (hs _ _)
      · rw [hw] at rp
        exact hQ _ _ hx (.tuple e na rp)
      · have g := gives_newtup (ho.ext hx) rp (tk := s.toks) (Nat.le_refl _)
        exact hQ _ _ (hx.trans g.1) g.2
  | _ => cases h
end
end Mine

namespace Mine
open PySem PySem.W PyProof.Rows

/-! built-in functions -/
inductive Fop | len | sum | str | divmod | min | max | tuple
noncomputable def Fop.f : Fop → Value
  | .len => .builtin "len" | .sum => .builtin "sum" | .str => .type "str" | .divmod => .builtin "divmod" | .min => .builtin "min" | .max => .builtin "max" | .tuple => .type "tuple"
noncomputable def intsOf : List Dv → Option (List Int)
  | [] => some []
  | .int i :: r => (intsOf r).map (i :: ·)
  | _ :: _ => none
noncomputable def oneD : List Dv → Option Dv
  | [d] => some d
  | _ => none
noncomputable def twoD : List Dv → Option (Dv × Dv)
  | [a, b] => some (a, b)
  | _ => none
theorem oneD_is {ds : List Dv} {d : Dv} (h : oneD ds = some d) : ds = [d] := by
  cases ds with
  | nil => cases h
  | cons a l => cases l with
    | nil => cases h; rfl
    | cons _ _ => cases h
theorem twoD_is {ds : List Dv} {d : Dv × Dv} (h : twoD ds = some d) : ds = [d.1, d.2] := by
  cases ds with
  | nil => cases h
  | cons a l => cases l with
    | nil => cases h
    | cons b l => cases l with
      | nil => cases h; rfl
      | cons _ _ => cases h
noncomputable def lenD : Dv → Option Dv
  | .list ds => if ds.length ≤ 100000 then some (.int ds.length) else none
  | .tuple ds => if ds.length ≤ 100000 then some (.int ds.length) else none
  | .str x => if x.length ≤ 100000 then some (.int x.length) else none
  | _ => none
noncomputable def Fop.app : Fop → List Dv → Option Dv
  | .len, ds => (oneD ds).bind lenD
  | .sum, ds => (oneD ds).bind fun d => (asList d).bind fun l => (intsOf l).map fun ns => .int ns.sum
  | .str, ds => (oneD ds).bind fun d => (asBool d).bind fun b => some (.str (if b then [84, 114, 117, 101] else [70, 97, 108, 115, 101]))
  | .divmod, ds => (twoD ds).bind fun p => ofInts (fun a b => if b ≠ 0 && b.natAbs < 1073741824 then some (.tuple [.int (a.fdiv b), .int (a.fmod b)]) else none) p.1 p.2
  | .min, ds => (twoD ds).bind fun p => ofInts (fun a b => some (.int (if b < a then b else a))) p.1 p.2
  | .max, ds => (twoD ds).bind fun p => ofInts (fun a b => some (.int (if b > a then b else a))) p.1 p.2
  | .tuple, ds => (oneD ds).bind fun d => (asList d).bind fun l => if l.length ≤ 100000 then some (.tuple l) else none

section
variable {prog : Program} {w : World} {k : Nat} {A : Around} {s : Shared} {X : Bd}

theorem ints_are {h : Heap} {vs : List Value} {ds : List Dv} {ns : List Int} (r : Reps h X vs ds) (e : intsOf ds = some ns) : ∀ (i : Nat) (v : Value), vs[i]? = some v → ∃ t, v = .int (ns.getD i 0) t := by
  refine r.each (P := fun vs ds => ∀ ns, intsOf ds = some ns → ∀ (i : Nat) (v : Value), vs[i]? = some v → ∃ t, v = .int (ns.getD i 0) t) (fun _ _ _ _ e => nomatch e) (fun {_ _ d _} r _ ih ns e i v hv => ?_) ns e
  cases d with
  | int n =>
    obtain ⟨ms, e1, rfl⟩ := Option.map_eq_some_iff.mp e
    obtain ⟨t, rfl⟩ := r.int_inv
    cases i with
    | zero => cases hv; exact ⟨t, rfl⟩
    | succ i => exact ih ms e1 i v hv
  | _ => cases e
theorem preSum_getD (ns : List Int) : ∀ k, k ≤ ns.length → preSum (fun i => ns.getD i 0) k = (ns.take k).sum := by
  intro k
  induction k with
  | zero => intro _; rfl
  | succ k ih =>
    intro h
    have e : ns.take (k + 1) = ns.take k ++ [ns[k]'(by omega)] := by simp
    rw [preSum, ih (by omega), e, List.sum_append, List.getD_eq_getElem?_getD, List.getElem?_eq_getElem (by omega)]
    simp
theorem intsOf_len : ∀ {ds : List Dv} {ns : List Int}, intsOf ds = some ns → ns.length = ds.length
  | [], _, e => by cases e; rfl
  | d :: ds, ns, e => by
    cases d with
    | int n =>
      simp only [intsOf, Option.map_eq_some_iff] at e
      obtain ⟨ms, e, rfl⟩ := e
      simp [intsOf_len e]
    | _ => simp [intsOf] at e

theorem reps_one {h : Heap} {X : Bd} {vs : List Value} {d : Dv} (r : Reps h X vs [d]) : ∃ v, vs = [v] ∧ Rep h X v d := by
  cases r with | cons r q => cases q with | nil => exact ⟨_, rfl, r⟩
theorem reps_two {h : Heap} {X : Bd} {vs : List Value} {a b : Dv} (r : Reps h X vs [a, b]) : ∃ u v, vs = [u, v] ∧ Rep h X u a ∧ Rep h X v b := by
  cases r with | cons r q => obtain ⟨v, rfl, q1⟩ := reps_one q; exact ⟨_, _, rfl, r, q1⟩
theorem call_sum_ok {a : Addr} {us : List Value} {n : Nat} {ds : List Dv} {ns : List Int} (hA : Rm k A) (ea : s.heap.get? a = some (lstObj us n)) (qa : Reps s.heap X us ds) (hn : intsOf ds = some ns) :
    Gives prog w A (call (.builtin "sum") [.ref a]) X (.int ns.sum) s := by
  unfold Gives
  have hh := hA.handled
  have hlt : a < s.heap.objs.size := Heap.lt_size ea
  refine call_sum_walkG (wpAny_pyIter_list (isL ea) ?_)
  have hne : a ≠ s.heap.objs.size := Nat.ne_of_lt hlt
  refine ⟨_, _, _, _, _, _, fun i => ns.getD i 0, rfl, Walks.list (A := A.in1) hh _ a hne us.toArray, ⟨⟨_, Heap.get?_push_size _ rfl, rfl, rfl⟩, (isL ea).push _⟩, ?_, ?_, ?_⟩
  · intro b hb
    show b < (s.heap.push _).objs.size
    rw [Heap.size_push]
    simp only [List.mem_cons, List.not_mem_nil, or_false] at hb
    rcases hb with rfl | rfl
    · exact Nat.lt_succ_self _
    · exact Nat.lt_succ_of_lt hlt
  · intro i v hv
    exact ints_are qa hn i v (by simpa using hv)
  · intro h' tk t' hk ht
    refine ⟨.heap' (fun b o e => hk b o (by simp only [List.mem_cons, List.not_mem_nil, or_false]; exact Nat.ne_of_lt (Heap.lt_size e)) (Heap.get?_push_of_some _ e)) ht, ?_⟩
    have e : preSum (fun i => ns.getD i 0) us.toArray.size = ns.sum := by
      have h1 := intsOf_len hn
      have h2 := qa.length
      rw [preSum_getD ns _ (by simp; omega), List.size_toArray, List.take_of_length_le (by omega)]
    rw [e]; exact .int _ _
theorem fop_sound {o : Fop} {vs : List Value} {ds : List Dv} {d : Dv} (hA : Rm k A) (ho : Old X s) (r : Reps s.heap X vs ds) (h : o.app ds = some d) :
    Gives prog w A (call o.f vs) X d s := by
  have hh := hA.handled
  cases o with
  | len =>
    obtain ⟨e, he, h⟩ := Option.bind_eq_some_iff.mp h
    rw [oneD_is he] at r
    obtain ⟨v, rfl, r1⟩ := reps_one r
    unfold Gives
    cases e with
    | list l =>
      obtain ⟨a, us, n, rfl, ea, na, qa⟩ := r1.list_inv
      obtain ⟨hl, rfl⟩ := if_is h
      have hl' := qa.length
      refine Calls.call_len_list (isL ea) (by rw [List.size_toArray, hl']; omega) fun ht => ⟨.tk s ht, ?_⟩
      rw [List.size_toArray, hl']; exact .int _ _
    | tuple l =>
      obtain ⟨a, us, n, rfl, ea, na, qa⟩ := r1.tuple_inv
      obtain ⟨hl, rfl⟩ := if_is h
      have hl' := qa.length
      refine PyProof.Rows.len_tuple (isT ea) (by rw [List.size_toArray, hl']; omega) fun ht => ⟨.tk s ht, ?_⟩
      rw [List.size_toArray, hl']; exact .int _ _
    | str x =>
      obtain ⟨t, rfl⟩ := r1.str_inv
      obtain ⟨hl, rfl⟩ := if_is h
      refine PySem.P.len_str (by rw [mkS_len]; omega) fun ht => ⟨.tk s ht, ?_⟩
      rw [mkS_len]; exact .int _ _
    | _ => cases h
  | sum =>
    obtain ⟨e, he, h⟩ := Option.bind_eq_some_iff.mp h
    rw [oneD_is he] at r
    obtain ⟨v, rfl, r1⟩ := reps_one r
    obtain ⟨l, hl, h⟩ := Option.bind_eq_some_iff.mp h
    rw [asList_is hl] at r1
    obtain ⟨a, us, n, rfl, ea, na, qa⟩ := r1.list_inv
    obtain ⟨ns, hn, rfl⟩ := Option.map_eq_some_iff.mp h
    exact call_sum_ok hA ea qa hn
  | str =>
    obtain ⟨e, he, h⟩ := Option.bind_eq_some_iff.mp h
    rw [oneD_is he] at r
    obtain ⟨v, rfl, r1⟩ := reps_one r
    obtain ⟨b, hb, h⟩ := Option.bind_eq_some_iff.mp h
    rw [asBool_is hb] at r1
    cases r1.bool_inv
    cases h
    refine PySem.P.str_of_bool fun ht => ⟨.tk s ht, .of_str _ ?_⟩
    cases b <;> decide +kernel
  | divmod =>
    obtain ⟨p, hp, h⟩ := Option.bind_eq_some_iff.mp h
    rw [twoD_is hp] at r
    obtain ⟨u, v, rfl, ra, rb⟩ := reps_two r
    obtain ⟨i, j, e1, e2, h⟩ := ofInts_is h
    rw [e1] at ra
    rw [e2] at rb
    obtain ⟨t, rfl⟩ := ra.int_inv
    obtain ⟨u, rfl⟩ := rb.int_inv
    obtain ⟨hs, rfl⟩ := if_is h
    simp only [Bool.and_eq_true, decide_eq_true_eq] at hs
    exact PyProof.Rows.divmod_int hs.1 (fun ht => gives_newtup ho (.cons (.int _ _) (.cons (.int _ _) .nil)) ht) (.inl (PyProof.noPylong_small hs.2))
  | min =>
    obtain ⟨p, hp, h⟩ := Option.bind_eq_some_iff.mp h
    rw [twoD_is hp] at r
    obtain ⟨u, v, rfl, ra, rb⟩ := reps_two r
    obtain ⟨i, j, e1, e2, h⟩ := ofInts_is h
    rw [e1] at ra
    rw [e2] at rb
    obtain ⟨t, rfl⟩ := ra.int_inv
    obtain ⟨u, rfl⟩ := rb.int_inv
    cases h
    refine min_two_ints hh fun h' tk hk ht => ⟨.heap' hk ht, ?_⟩
    split <;> exact .int _ _
  | max =>
    obtain ⟨p, hp, h⟩ := Option.bind_eq_some_iff.mp h
    rw [twoD_is hp] at r
    obtain ⟨u, v, rfl, ra, rb⟩ := reps_two r
    obtain ⟨i, j, e1, e2, h⟩ := ofInts_is h
    rw [e1] at ra
    rw [e2] at rb
    obtain ⟨t, rfl⟩ := ra.int_inv
    obtain ⟨u, rfl⟩ := rb.int_inv
    cases h
    refine max_two_ints hh fun h' tk hk ht => ⟨.heap' hk ht, ?_⟩
    split <;> exact .int _ _
  | tuple =>
    obtain ⟨e, he, h⟩ := Option.bind_eq_some_iff.mp h
    rw [oneD_is he] at r
    obtain ⟨v, rfl, r1⟩ := reps_one r
    obtain ⟨l, hl, h⟩ := Option.bind_eq_some_iff.mp h
    rw [asList_is hl] at r1
    obtain ⟨a, us, n, rfl, ea, na, qa⟩ := r1.list_inv
    obtain ⟨hl, rfl⟩ := if_is h
    refine call_tuple_list (isL ea) (fun h' hk ht => ?_) (by rw [List.size_toArray, qa.length]; exact Nat.le_trans hl (by decide))
    have hx : Ext s { s with heap := h' } := .heap' (t := s.toks) hk (Nat.le_refl _)
    have := gives_newtup (ho.ext hx) (qa.ext hx) (tk := s.toks) (Nat.le_refl _)
    exact ⟨hx.trans this.1, this.2⟩
end
end Mine

namespace Mine
local macro_rules | `(tactic| omega) => `(tactic| lia)
open PySem PySem.W PyProof.Rows PySem.Builtin PySem.Builtin.Str

/-! texts: the pieces between the places of a text -/
noncomputable def consHd (c : Nat) : List (List Nat) → List (List Nat)
  | [] => [[c]]
  | p :: ps => (c :: p) :: ps
noncomputable def pieces (y : List Nat) : List Nat → Nat → List (List Nat)
  | [], _ => [[]]
  | _ :: r, k + 1 => pieces y r k
  | c :: r, 0 => if y.isPrefixOf (c :: r) then [] :: pieces y r (y.length - 1) else consHd c (pieces y r 0)
noncomputable def cuts (y : List Nat) : List Nat → Nat → Nat → List Nat
  | [], _, _ => []
  | c :: r, i, f => if decide (f ≤ i) && y.isPrefixOf (c :: r) then i :: cuts y r (i + 1) (i + y.length) else cuts y r (i + 1) f
noncomputable def glue (z : List Nat) : List (List Nat) → List Nat
  | [] => []
  | [p] => p
  | p :: ps => p ++ z ++ glue z ps

theorem subAt_mk (x y : List Nat) (i : Nat) : subAt (mkS x) (mkS y) i = (((x.drop i).take y.length) == y) := by
  rw [StrLaws.subAt_eq]; simp [mkS, Str.length]
theorem prefix_take (y x : List Nat) : (x.take y.length == y) = y.isPrefixOf x := by
  rw [Bool.eq_iff_iff, beq_iff_eq, List.isPrefixOf_iff_prefix]
  constructor
  · intro h; rw [← h]; exact List.take_prefix _ _
  · rintro ⟨t, rfl⟩; simp
theorem occ_cuts (x y : List Nat) (hy : y ≠ []) : ∀ (n i : Nat) (acc : Array Nat) (f : Nat), i + n = x.length → acc.size ≤ i →
    ((forIn (List.range' i (n + 1)) (acc, f) (StrLaws.occBody (mkS x) (mkS y) x.length (x.length + 1))).run.fst.toList) = acc.toList ++ cuts y (x.drop i) i f := by
  have hy1 : 1 ≤ y.length := by cases y with | nil => exact absurd rfl hy | cons => simp
  intro n
  induction n with
  | zero =>
    intro i acc f hi ha
    have : x.drop i = [] := List.drop_of_length_le (by omega)
    rw [this]
    rw [show List.range' i (0 + 1) = [i] from rfl, List.forIn_cons]
    unfold StrLaws.occBody
    rw [if_neg (fun h => by have := h.1.2; rw [mkS_len] at this; omega)]
    simp [cuts]
  | succ n ih =>
    intro i acc f hi ha
    have hd : x.drop i = x[i]'(by omega) :: x.drop (i + 1) := List.drop_eq_getElem_cons (by omega)
    rw [show List.range' i (n + 1 + 1) = i :: List.range' (i + 1) (n + 1) from rfl, List.forIn_cons, hd]
    unfold StrLaws.occBody
    have hsub : subAt (mkS x) (mkS y) i = y.isPrefixOf (x[i]'(by omega) :: x.drop (i + 1)) := by rw [subAt_mk, prefix_take, hd]
    by_cases hp : y.isPrefixOf (x[i]'(by omega) :: x.drop (i + 1)) = true
    · have hl : i + y.length ≤ x.length := by
        have := (List.isPrefixOf_iff_prefix.mp hp).length_le
        simp only [List.length_cons, List.length_drop] at this
        omega
      by_cases hf : f ≤ i
      · rw [if_pos ⟨⟨⟨by show acc.size < _; omega, hf⟩, by rw [mkS_len]; exact hl⟩, hsub.trans hp⟩]
        have := ih (i + 1) (acc.push i) (i + (mkS y).length) (by omega) (by simp; omega)
        unfold StrLaws.occBody at this
        refine Eq.trans this ?_
        rw [mkS_len]
        simp only [cuts, hf, hp, decide_true, Bool.and_self, if_true, Array.toList_push, List.append_assoc, List.singleton_append]
      · rw [if_neg (fun h => hf h.1.1.2)]
        have := ih (i + 1) acc f (by omega) (by omega)
        unfold StrLaws.occBody at this
        refine Eq.trans this ?_
        simp [cuts, hf]
    · rw [if_neg (fun h => hp (hsub ▸ h.2))]
      have := ih (i + 1) acc f (by omega) (by omega)
      unfold StrLaws.occBody at this
      refine Eq.trans this ?_
      rw [cuts, Bool.eq_false_iff.mpr hp, Bool.and_false]
      rfl
theorem occ_is (x y : List Nat) (hy : y ≠ []) : occurrences (mkS x) (mkS y) 0 x.length (x.length + 1) = cuts y x 0 0 := by
  rw [StrLaws.occ_eq]
  have := occ_cuts x y hy x.length 0 #[] 0 (by omega) (by simp)
  simpa using this

/-- the parts as the program's own table has them -/
noncomputable def parts (x : List Nat) (w : Nat) : Nat → List Nat → List (List Nat)
  | a, [] => [x.drop a]
  | a, c :: r => (x.drop a).take (c - a) :: parts x w (c + w) r
theorem parts_from (x : List Nat) (w : Nat) : ∀ (a : Nat) (l : List Nat), (StrLaws.partsFrom (mkS x) w a l).map (fun y => y.cps.toList) = parts x w a l
  | a, [] => by
    simp only [StrLaws.partsFrom, parts, List.map_cons, List.map_nil, StrLaws.strSub_toList, mkS_len]
    rw [List.take_of_length_le (by simp [mkS])]
    rfl
  | a, c :: l => by
    simp only [StrLaws.partsFrom, parts, List.map_cons, StrLaws.strSub_toList]
    rw [parts_from x w (c + w) l]
    rfl
noncomputable def preHd (p : List Nat) : List (List Nat) → List (List Nat)
  | [] => [p]
  | q :: qs => (p ++ q) :: qs
theorem pieces_ne (y : List Nat) : ∀ (x : List Nat) (k : Nat), ∃ p ps, pieces y x k = p :: ps
  | [], _ => ⟨_, _, by rw [pieces]⟩
  | _ :: r, k + 1 => by rw [pieces]; exact pieces_ne y r k
  | c :: r, 0 => by
    rw [pieces]
    split
    · exact ⟨_, _, rfl⟩
    · obtain ⟨p, ps, e⟩ := pieces_ne y r 0
      rw [e]; exact ⟨_, _, rfl⟩
theorem parts_pieces (x y : List Nat) (hy : y ≠ []) : ∀ (s : List Nat) (i : Nat), s = x.drop i → i ≤ x.length →
    (∀ a f, a ≤ i → f ≤ i → parts x y.length a (cuts y s i f) = preHd ((x.drop a).take (i - a)) (pieces y s 0)) ∧
    (∀ f, i < f → f ≤ i + s.length → parts x y.length f (cuts y s i f) = pieces y s (f - i)) := by
  have hy1 : 1 ≤ y.length := by cases y with | nil => exact absurd rfl hy | cons => simp
  intro s
  induction s with
  | nil =>
    intro i hs hi
    have hl : x.length ≤ i := by
      have := congrArg List.length hs
      simp at this; omega
    refine ⟨fun a f ha hf => ?_, fun f h1 h2 => ?_⟩
    · simp only [cuts, parts, pieces, preHd, List.append_nil]
      rw [List.take_of_length_le (by simp; omega)]
    · simp at h2; omega
  | cons c r ih =>
    intro i hs hi
    have hlt : i < x.length := by
      have := congrArg List.length hs
      simp at this; omega
    have hd : x.drop i = x[i] :: x.drop (i + 1) := List.drop_eq_getElem_cons hlt
    rw [hd] at hs
    obtain ⟨rfl, hr⟩ := List.cons.inj hs
    obtain ⟨ih1, ih2⟩ := ih (i + 1) hr (by omega)
    refine ⟨fun a f ha hf => ?_, fun f h1 h2 => ?_⟩
    · by_cases hp : y.isPrefixOf (x[i] :: r) = true
      · have hl : y.length ≤ r.length + 1 := by simpa using (List.isPrefixOf_iff_prefix.mp hp).length_le
        rw [cuts, pieces]
        simp only [hf, decide_true, hp, Bool.and_self, if_true, parts, preHd, List.append_nil]
        congr 1
        by_cases h1 : y.length = 1
        · have := ih1 (i + 1) (i + 1) (by omega) (by omega)
          rw [h1] at this ⊢
          rw [this]
          obtain ⟨p, ps, e⟩ := pieces_ne y r 0
          rw [e]
          simp [preHd]
        · have := ih2 (i + y.length) (by omega) (by omega)
          rw [this]
          congr 1; omega
      · rw [cuts, pieces]
        simp only [hp, Bool.and_false, Bool.false_eq_true, if_false]
        rw [ih1 a f (by omega) (by omega)]
        obtain ⟨p, ps, e⟩ := pieces_ne y r 0
        rw [e]
        simp only [preHd, consHd]
        have e2 : (x.drop a).take (i + 1 - a) = (x.drop a).take (i - a) ++ [x[i]] := by
          rw [show i + 1 - a = (i - a) + 1 by omega, List.take_add_one, List.getElem?_drop, show a + (i - a) = i by omega, List.getElem?_eq_getElem hlt]
          rfl
        rw [e2, List.append_assoc]
        rfl
    · rw [cuts]
      have hnf : ¬ f ≤ i := by omega
      simp only [hnf, decide_false, Bool.false_and, Bool.false_eq_true, if_false]
      obtain ⟨k, hk⟩ : ∃ k, f - i = k + 1 := ⟨f - i - 1, by omega⟩
      rw [hk, pieces]
      by_cases h1' : f = i + 1
      · subst h1'
        rw [ih1 (i + 1) (i + 1) (by omega) (by omega), show k = 0 by omega]
        obtain ⟨p, ps, e⟩ := pieces_ne y r 0
        rw [e]
        simp [preHd]
      · rw [ih2 f (by omega) (by simp only [List.length_cons] at h2; omega)]
        congr 1; omega
theorem between_is (x y : List Nat) (hy : y ≠ []) : (partsBetween (mkS x) (occurrences (mkS x) (mkS y) 0 (mkS x).length ((mkS x).length + 1)) (mkS y).length).map (fun y => y.cps.toList) = pieces y x 0 := by
  rw [mkS_len, mkS_len, occ_is x y hy, StrLaws.partsBetween_eq, parts_from]
  have := ((parts_pieces x y hy x 0 rfl (by omega)).1 0 0 (by omega) (by omega))
  rw [this]
  obtain ⟨p, ps, e⟩ := pieces_ne y x 0
  rw [e]
  simp [preHd]
theorem glue_is (z : List Nat) : ∀ (l : List Str), (Str.join (mkS z) l).cps.toList = glue z (l.map fun y => y.cps.toList)
  | [] => by simp [Str.join, Str.empty, glue]
  | [p] => by simp [Str.join, glue]
  | p :: q :: l => by
    have := glue_is z (q :: l)
    simp only [List.map_cons] at this
    simp only [Str.join, Str.cps_append, Array.toList_append, List.map_cons, glue]
    rw [this]
    simp [mkS]
theorem cuts_len (y : List Nat) (hy : y ≠ []) (x : List Nat) : (cuts y x 0 0).length + 1 = (pieces y x 0).length := by
  have h1 := congrArg List.length (between_is x y hy)
  rw [List.length_map, mkS_len, mkS_len, occ_is x y hy, StrLaws.partsBetween_eq] at h1
  rw [← h1]
  generalize 0 = a
  generalize cuts y x a a = l
  revert a
  induction l with
  | nil => intro a; rfl
  | cons c l ih => intro a; simp only [StrLaws.partsFrom, List.length_cons]; rw [← ih]

/-! the methods of a text -/
inductive Mop | count | join | split
noncomputable def Mop.name : Mop → Str
  | .count => "count" | .join => "join" | .split => "split"
noncomputable def strsOf : List Dv → Option (List (List Nat))
  | [] => some []
  | .str x :: r => (strsOf r).map (x :: ·)
  | _ :: _ => none
noncomputable def Mop.app : Mop → List Nat → Dv → Option Dv
  | .count, x, .str y => if y.isEmpty then none else some (.int ((pieces y x 0).length - 1 : Nat))
  | .join, z, .list ds => (strsOf ds).bind fun l => if (l.map List.length).sum + l.length * z.length ≤ 1000000 then some (.str (glue z l)) else none
  | .split, x, .str [c] => if c < 256 && x.length ≤ 100000 then some (.list ((pieces [c] x 0).map .str)) else none
  | _, _, _ => none

section
variable {prog : Program} {w : World} {k : Nat} {A : Around} {s : Shared} {X : Bd}

theorem strs_are {h : Heap} {vs : List Value} {ds : List Dv} {l : List (List Nat)} (r : Reps h X vs ds) (e : strsOf ds = some l) : ∃ p : List (Str × Tok), vs = strValues p ∧ p.map (·.1) = l.map mkS := by
  refine r.each (P := fun vs ds => ∀ l, strsOf ds = some l → ∃ p : List (Str × Tok), vs = strValues p ∧ p.map (·.1) = l.map mkS) (fun _ e => by cases e; exact ⟨[], rfl, rfl⟩) (fun {_ _ d _} r _ ih l e => ?_) l e
  cases d with
  | str x =>
    obtain ⟨l', e1, rfl⟩ := Option.map_eq_some_iff.mp e
    obtain ⟨t, rfl⟩ := r.str_inv
    obtain ⟨p, rfl, hp⟩ := ih l' e1
    exact ⟨(mkS x, t) :: p, rfl, congrArg (mkS x :: ·) hp⟩
  | _ => cases e
theorem reps_strs {h : Heap} : ∀ (p : List (Str × Tok)), Reps h X (strValues p) (p.map fun q => .str q.1.cps.toList)
  | [] => .nil
  | (x, t) :: p => .cons (.str x t) (reps_strs p)
theorem pieces_len (y : List Nat) : ∀ (x : List Nat) (k : Nat), (pieces y x k).length ≤ x.length + 1
  | [], _ => by simp [pieces]
  | _ :: r, k + 1 => by rw [pieces]; have := pieces_len y r k; simp only [List.length_cons]; omega
  | c :: r, 0 => by
    rw [pieces]
    split
    · have := pieces_len y r (y.length - 1); simp only [List.length_cons]; omega
    · have := pieces_len y r 0
      obtain ⟨p, ps, e⟩ := pieces_ne y r 0
      rw [e] at this ⊢
      simp only [consHd, List.length_cons] at this ⊢
      omega
theorem kind_le (x : List Nat) (c : Nat) (hc : c < 256) : decide (PySem.Builtin.Str.strKind (mkS x) < PySem.Builtin.Str.strKind (mkS [c])) = false := by
  have e : PySem.Builtin.Str.strKind (mkS [c]) = 1 := by unfold PySem.Builtin.Str.strKind; rw [if_pos (by simp [mkS, hc])]
  rw [e, decide_eq_false_iff_not]
  unfold PySem.Builtin.Str.strKind
  split
  · omega
  · split <;> omega

theorem mop_sound {o : Mop} {x : List Nat} {t : Tok} {dx d : Dv} {pos : Pos} {a : Sem Value} {Q : Value → Shared → Prop} {E : Value → Shared → Prop} (ho : Old X s) (h : o.app x dx = some d)
    (ha : wpAny (model prog w) A a (fun v s' => ∃ _ : Ext s s', Rep s'.heap X v dx ∧ ∀ r s'', (∀ s0, Ext s0 s' → s0.toks ≤ s''.toks → Ext s0 s'') → Rep s''.heap X r d → Q r s'') E s) :
    MethodOnS prog w A E o.name (.str (mkS x) t) pos [(false, a)] Q s := by
  unfold Mop.app at h
  split at h
  · rename_i y
    split at h
    · cases h
    · rename_i hy
      cases h
      have hy' : y ≠ [] := by rintro rfl; simp at hy
      refine PySem.SB.count (wpAny_mono ha (fun v s' h' => ?_) fun _ _ e => e)
      obtain ⟨hx, r, hq⟩ := h'
      obtain ⟨u, rfl⟩ := r.str_inv
      refine ⟨_, u, rfl, hq _ _ (fun s0 x ht => x.trans (.tk s' (Nat.le_succ _))) ?_⟩
      have e : Txt.count (mkS x) (mkS y) = ((pieces y x 0).length - 1 : Nat) := by
        unfold Txt.count
        rw [mkS_len, occ_is x y hy', ← cuts_len y hy']
        simp
      rw [e]; exact .int _ _
  · rename_i ds
    obtain ⟨l, hl, h⟩ := Option.bind_eq_some_iff.mp h
    split at h
    · rename_i hsz
      cases h
      refine PySem.SB.join (wpAny_mono ha (fun v s' h' => ?_) fun _ _ e => e)
      obtain ⟨hx, r, hq⟩ := h'
      obtain ⟨a, us, n, rfl, ea, na, qa⟩ := r.list_inv
      obtain ⟨p, rfl, hp⟩ := strs_are qa hl
      refine ⟨a, p, rfl, isL ea, l.map mkS, hp, ?_, fun t' k => hq _ _ (fun s0 x ht => ⟨x.heap, x.gens, x.bare, x.os, ht⟩) (.of_str _ ?_)⟩
      · unfold JoinOk
        rw [StrLaws.joinTotal, Bool.not_eq_true', mkS_len]
        unfold tooLong
        rw [decide_eq_false_iff_not]
        have e : (l.map mkS).map (·.length) = l.map List.length := by
          rw [List.map_map]
          refine List.map_congr_left fun y _ => ?_
          exact mkS_len y
        rw [e, List.length_map]
        show ¬ (_ > 16777216)
        omega
      · unfold Txt.join
        rw [StrLaws.glued_eq_join, glue_is, List.map_map]
        congr 1
        refine Eq.trans (List.map_congr_left (g := _root_.id) fun y _ => ?_) (List.map_id _)
        simp [mkS]
    · cases h
  · rename_i c
    split at h
    · rename_i hc
      cases h
      simp only [Bool.and_eq_true, decide_eq_true_eq] at hc
      have hk := kind_le x c hc.1
      have hb := between_is x [c] (by simp)
      refine ⟨"str", _, F.plainAttrs_str, F.slot_str_split, F.type_str_split, typeIs_str _ _ _, (fun _ e => nomatch e),
        method1_meets F.slot_str_split F.entry_str_split (wpAny_mono ha (fun v s' h' => ?_) fun _ _ e => e)⟩
      obtain ⟨hx, r, hq⟩ := h'
      obtain ⟨u, rfl⟩ := r.str_inv
      have ho' := ho.ext hx
      refine ⟨typeIs_str _ _ _, F.args_str_split_2 _ _, ?_⟩
      have one : pieces [c] x 0 = [x] → listOfItself (mkS x) t A.in1 (wants Q E) s' := fun e => by
        have g := gives_newlist ho' (X := X) (.cons (.str' x t) .nil) (tk := s'.toks) (Nat.le_refl _)
        refine hq _ _ (fun s0 x ht => x.trans g.1) ?_
        rw [e]; exact g.2
      cases h1 : (decide ((mkS x).length < (mkS [c]).length) || decide (PySem.Builtin.Str.strKind (mkS x) < PySem.Builtin.Str.strKind (mkS [c])))
      · cases hf : (occurrences (mkS x) (mkS [c]) 0 (mkS x).length ((mkS x).length + 1)).isEmpty
        · refine ⟨_, meets_str_split_sep (mkS x) (mkS [c]) t u h1 (by rw [mkS_len]; rfl) hf (by rw [mkS_len]; show x.length ≤ 16777216; omega) ?_, ?_⟩
          · have := congrArg List.length hb
            rw [List.length_map] at this
            rw [this]
            have := pieces_len [c] x 0
            show _ ≤ 16777216
            omega
          · show wants Q E _ _
            rw [strsFrom_eq]
            have := gives_newlist ho' (X := X) (reps_strs (numbered s'.toks (partsBetween (mkS x) (occurrences (mkS x) (mkS [c]) 0 (mkS x).length ((mkS x).length + 1)) (mkS [c]).length))) (tk := s'.toks + (partsBetween (mkS x) (occurrences (mkS x) (mkS [c]) 0 (mkS x).length ((mkS x).length + 1)) (mkS [c]).length).length) (by omega)
            refine hq _ _ (fun s0 x ht => x.trans this.1) ?_
            have e : (numbered s'.toks (partsBetween (mkS x) (occurrences (mkS x) (mkS [c]) 0 (mkS x).length ((mkS x).length + 1)) (mkS [c]).length)).map (fun q => Dv.str q.1.cps.toList) = (pieces [c] x 0).map .str := by
              rw [← hb, List.map_map]
              have := numbered_texts s'.toks (partsBetween (mkS x) (occurrences (mkS x) (mkS [c]) 0 (mkS x).length ((mkS x).length + 1)) (mkS [c]).length)
              conv => rhs; rw [← this]
              rw [List.map_map]
              rfl
            rw [← e]
            exact this.2
        · refine ⟨_, meets_str_split_not_found (mkS x) (mkS [c]) t u h1 (by rw [mkS_len]; rfl) hf, one ?_⟩
          have e := List.isEmpty_iff.mp hf
          rw [← hb, e, StrLaws.partsBetween_eq]
          simp [StrLaws.partsFrom, StrLaws.sub_whole, mkS]
      · refine ⟨_, meets_str_split_cannot_occur (mkS x) (mkS [c]) t u h1, one ?_⟩
        rw [hk, Bool.or_false, decide_eq_true_eq, mkS_len, mkS_len] at h1
        have : x = [] := by simpa using h1
        subst this
        rfl
    · cases h
  · cases h
end
end Mine

namespace Mine
open PySem PySem.W PyProof.Rows

/-! the little language of expressions -/
inductive Op | bin (o : Bop) | cmp (o : Cop) | idx | sl | fn (o : Fop) | meth (o : Mop) | tup | neg | not | unlit | rep | attr (C : Addr) (j : Nat) | eol | dots
/-- line ends made a return and a feed; cr: a return stands before -/
noncomputable def fixL : List Nat → Bool → List Nat
  | [], _ => []
  | c :: r, cr => if c = 10 then (if cr then fixL r false else 13 :: 10 :: fixL r false) else if c = 13 then 13 :: 10 :: fixL r true else c :: fixL r false
/-- a dot at a line's front doubled; b: a line begins -/
noncomputable def quoteL : Bool → List Nat → List Nat
  | _, [] => []
  | b, c :: r => if c = 46 ∧ b = true then 46 :: 46 :: quoteL false r else c :: quoteL (c == 10) r
noncomputable def strD : Dv → Option (List Nat)
  | .str x => some x
  | .lit x => some x
  | _ => none
noncomputable def Op.app : Op → List Dv → Option Dv
  | .bin o, [a, b] => o.app a b
  | .cmp o, [a, b] => (o.app a b).map .bool
  | .idx, [a, i] => idxApp a i
  | .sl, [a, l, u, st] => slApp a l u st
  | .fn o, ds => o.app ds
  | .meth o, [.str x, d] => o.app x d
  | .tup, ds => some (.tuple ds)
  | .neg, [.int i] => some (.int (-i))
  | .not, [.bool b] => some (.bool (!b))
  | .unlit, [.lit x] => some (.str x)
  | .eol, [.str x] => if x.length ≤ 100000 then some (.str (fixL x false)) else none
  | .dots, [.str x] => if x.length ≤ 100000 then some (.str (quoteL true x)) else none
  | .attr C j, [.obj C' fs] => if C' = C then fs.lookup j else none
  | .rep, [.str x, .str y, z] => (strD z).bind fun z => if y.isEmpty || x.length > 10000 || z.length > 100 then none else some (.str (glue z (pieces y x 0)))
  | _, _ => none

theorem op_bin (o : Bop) (a b : Dv) : (Op.bin o).app [a, b] = o.app a b := rfl
theorem op_meth (o : Mop) (x : List Nat) (d : Dv) : (Op.meth o).app [.str x, d] = o.app x d := rfl
theorem op_rep (x y : List Nat) (z : Dv) : Op.rep.app [.str x, .str y, z] = (strD z).bind fun z => if y.isEmpty || x.length > 10000 || z.length > 100 then none else some (.str (glue z (pieces y x 0))) := rfl
theorem op_attr (C : Addr) (j : Nat) (C' : Addr) (fs : List (Nat × Dv)) : (Op.attr C j).app [.obj C' fs] = if C' = C then fs.lookup j else none := rfl
theorem op_eol (x : List Nat) : Op.eol.app [.str x] = if x.length ≤ 100000 then some (.str (fixL x false)) else none := rfl
theorem op_dots (x : List Nat) : Op.dots.app [.str x] = if x.length ≤ 100000 then some (.str (quoteL true x)) else none := rfl

inductive En | no | val (d : Dv) | own (ds : List Dv)
inductive ME
  | const (d : Dv) | var (i : Nat) | oidx (i : Nat) (a : ME) | olen (i : Nat) | op (o : Op) (a : ME) | nil | cons (a b : ME)
  | and (a b : ME) | or (a b : ME) | ite (c a b : ME) | comp (elt : ME) (n : Nat) (src t : ME) | call (f : Nat) (a : ME) | rng (a b : ME) | gen (a : ME)

noncomputable def items : Dv → Option (List Dv)
  | .list ds => if ds.length ≤ 100000 then some ds else none
  | .tuple ds => if ds.length ≤ 100000 then some ds else none
  | .str x => if x.length ≤ 100000 then some (x.map fun c => .str [c]) else none
  | _ => none
/-- one name, or the names of a tuple -/
noncomputable def bindT : Nat → Dv → Option (List Dv)
  | 0, d => some [d]
  | n + 1, .tuple ds => if ds.length = n + 1 then some ds else none
  | _, _ => none
noncomputable def lcomp (t e : List En → Option Dv) (n : Nat) (ρ : List En) : List Dv → Option (List Dv)
  | [] => some []
  | d :: r => (bindT n d).bind fun bs => match t (ρ ++ bs.map .val) with
    | some (.bool true) => (e (ρ ++ bs.map .val)).bind fun y => (lcomp t e n ρ r).map (y :: ·)
    | some (.bool false) => lcomp t e n ρ r
    | _ => none
/-- the units that the escaping reader tells -/
noncomputable def units : List Nat → Nat → Bool → List Dv
  | [], p, esc => if esc then [.tuple [.int ((p : Int) - 1), .str [92]]] else []
  | c :: r, p, true => .tuple [.int p, .str [92, c]] :: units r (p + 1) false
  | c :: r, p, false => if c = 92 then units r (p + 1) true else .tuple [.int p, .str [c]] :: units r (p + 1) false
/-- a backslash stands open at the end -/
noncomputable def escEnd : List Nat → Bool → Bool
  | [], e => e
  | _ :: r, true => escEnd r false
  | c :: r, false => escEnd r (c == 92)
noncomputable def genFit (x : List Nat) : Bool := decide (x.length ≤ 100000) && x.all (fun c => decide (c < 1114112)) && !escEnd x false
noncomputable def lst : Option Dv → Option (List Dv)
  | some (.list ds) => some ds
  | _ => none

noncomputable def ev (Φ : Nat → List Dv → Option Dv) : ME → List En → Option Dv
  | .const d, _ => some d
  | .var i, ρ => match ρ[i]? with | some (.val d) => some d | _ => none
  | .oidx i a, ρ => match ρ[i]?, ev Φ a ρ with | some (.own ds), some d => idxApp (.list ds) d | _, _ => none
  | .olen i, ρ => match ρ[i]? with | some (.own ds) => if ds.length ≤ 100000 then some (.int ds.length) else none | _ => none
  | .op o a, ρ => (lst (ev Φ a ρ)).bind o.app
  | .nil, _ => some (.list [])
  | .cons a b, ρ => (ev Φ a ρ).bind fun d => (lst (ev Φ b ρ)).map fun ds => .list (d :: ds)
  | .and a b, ρ => match ev Φ a ρ with | some (.bool true) => ev Φ b ρ | some (.bool false) => some (.bool false) | _ => none
  | .or a b, ρ => match ev Φ a ρ with | some (.bool true) => some (.bool true) | some (.bool false) => ev Φ b ρ | _ => none
  | .ite c a b, ρ => match ev Φ c ρ with | some (.bool true) => ev Φ a ρ | some (.bool false) => ev Φ b ρ | _ => none
  | .comp e n src t, ρ => ((ev Φ src ρ).bind items).bind fun ds => (lcomp (ev Φ t) (ev Φ e) n ρ ds).map .list
  | .call f a, ρ => (lst (ev Φ a ρ)).bind (Φ f)
  | .rng a b, ρ => match ev Φ a ρ, ev Φ b ρ with
    | some (.int a), some (.int b) => if fits a && fits b && decide (b - a ≤ 100000) then some (.list ((List.range (b - a).toNat).map fun (k : Nat) => .int (a + (k : Int)))) else none
    | _, _ => none
  | .gen a, ρ => match ev Φ a ρ with | some (.str x) => if genFit x then some (.list (units x 0 false)) else none | _ => none

noncomputable def notStar : Expr → Bool | .Starred .. => false | _ => true
theorem star_cons {e : Expr} {es : List Expr} {env : Env} (h : notStar e = true) : starEach (e :: es) env = (false, eval e env) :: starEach es env := by
  cases e <;> first | rfl | cases h
theorem star_one {e : Expr} {env : Env} (h : notStar e = true) : starEach [e] env = [(false, eval e env)] := star_cons h
theorem star_two {e f : Expr} {env : Env} (h : notStar e = true) (h' : notStar f = true) : starEach [e, f] env = [(false, eval e env), (false, eval f env)] := by
  rw [star_cons h, star_one h']
/-! names -/
noncomputable def VarIs (env : Env) (s : Shared) (x : Str) (v : Value) : Prop :=
  (env.kindOf x = some .local ∧ ∃ m, s.heap.Ns env.locals m ∧ m x = some v) ∨
  ((env.kindOf x = some .cell ∨ env.kindOf x = some .free) ∧ ∃ c, env.cells.lookup x = some c ∧ s.heap.IsCell c (some v))
noncomputable def canVar (env : Env) (x : Str) : Prop := env.kindOf x = some .local ∨ env.kindOf x = some .cell ∨ env.kindOf x = some .free
noncomputable def EnIs (h : Heap) (X : Bd) (f : Value → Prop) : En → Prop
  | .no => True
  | .val d => ∃ v, f v ∧ Rep h X v d
  | .own ds => ∃ a vs n, f (.ref a) ∧ h.get? a = some (lstObj vs n) ∧ Reps h X vs ds
structure Vars (env : Env) (s : Shared) (X : Bd) (ns : List Str) (ρ : List En) : Prop where
  len : ns.length = ρ.length
  get : ∀ (i : Nat) (x : Str) (e : En), ns[i]? = some x → ρ[i]? = some e → canVar env x → EnIs s.heap X (VarIs env s x) e
theorem VarIs.keep {env : Env} {s s' : Shared} {x : Str} {v : Value} (hk : ∀ b o, s.heap.get? b = some o → s'.heap.get? b = some o) (h : VarIs env s x v) : VarIs env s' x v := by
  rcases h with ⟨k, m, n, e⟩ | ⟨k, c, l, i⟩
  · exact .inl ⟨k, m, n.keeps hk, e⟩
  · exact .inr ⟨k, c, l, i.keeps hk⟩
theorem EnIs.keep {h h' : Heap} {X : Bd} {f f' : Value → Prop} {e : En} (hk : ∀ b o, h.get? b = some o → h'.get? b = some o) (hf : ∀ v, f v → f' v) (x : EnIs h X f e) : EnIs h' X f' e := by
  cases e with
  | no => trivial
  | val d => obtain ⟨v, a, b⟩ := x; exact ⟨v, hf _ a, b.keep hk⟩
  | own ds => obtain ⟨a, vs, n, p, q, r⟩ := x; exact ⟨a, vs, n, hf _ p, hk _ _ q, r.keep hk⟩
theorem Vars.ext {env : Env} {s s' : Shared} {X : Bd} {ns : List Str} {ρ : List En} (x : Ext s s') (v : Vars env s X ns ρ) : Vars env s' X ns ρ :=
  ⟨v.len, fun i n e h1 h2 h3 => (v.get i n e h1 h2 h3).keep x.heap fun _ h => h.keep x.heap⟩

section
variable (prog : Program) (w : World) (h₀ : B0) (Φ : Nat → List Dv → Option Dv) (ns : List Str) (env : Env) (k : Nat)
/-- an expression is told by a term of the little language -/
structure Ev (e : Expr) (m : ME) : Prop where
  run : ∀ (A : Around) (s : Shared) (X : Bd) (ρ : List En) (d : Dv), Rm k A → Bs h₀ s → Old X s → Vars env s X ns ρ → ev Φ m ρ = some d → Gives prog w A (eval e env) X d s
/-- the list of expressions, left to right -/
structure Evs (es : List Expr) (m : ME) : Prop where
  run : ∀ (A : Around) (s : Shared) (X : Bd) (ρ : List En) (ds : List Dv), Rm k A → Bs h₀ s → Old X s → Vars env s X ns ρ → ev Φ m ρ = some (.list ds) → ∀ pos,
    wpAny (model prog w) A (spliced (backTo pos (starEach es env))) (fun vs s' => s.toks ≤ s'.toks → Ext s s' ∧ Reps s'.heap X vs ds) (fun _ _ => False) s
/-- a test -/
structure Tst (e : Expr) (m : ME) : Prop where
  run : ∀ (A : Around) (s : Shared) (X : Bd) (ρ : List En) (b : Bool), Rm k A → Bs h₀ s → Old X s → Vars env s X ns ρ → ev Φ m ρ = some (.bool b) →
    wpAny (model prog w) A (isTrue e env (eval e env)) (fun r s' => s.toks ≤ s'.toks → r = b ∧ Ext s s') (fun _ _ => False) s
end

section
variable {prog : Program} {w : World} {h₀ : B0} {Φ : Nat → List Dv → Option Dv} {ns : List Str} {env : Env} {k : Nat}

/-- a tree that is known by what it hands on, tokens told -/
theorem wpAny_told {α : Type} {M : Model} {A : Around} {t : Sem α} {P Q : α → Shared → Prop} {E : Value → Shared → Prop} {s : Shared}
    (h : wpAny M A t (fun a s' => s.toks ≤ s'.toks → P a s') (fun _ _ => False) s) (hQ : ∀ a s', s.toks ≤ s'.toks → P a s' → Q a s') : wpAny M A t Q E s :=
  wpAny_with_toks (Nat.le_refl s.toks) (wpAny_mono h (fun a s' p ht => hQ a s' ht (p ht)) fun _ _ f => f.elim)

theorem ev_const_int {i : Int} {kd : Nat} {pos : Pos} : Ev prog w h₀ Φ ns env k (.Constant (.int i) kd pos) (.const (.int i)) := by
  constructor; intro A s X ρ d _ _ _ _ h
  cases h
  exact wpAny_Constant_int fun ht => ⟨.tk s ht, .int _ _⟩
theorem ev_const_str {x : Str} {y : List Nat} {kd : Nat} {pos : Pos} (e : x.cps.toList = y) : Ev prog w h₀ Φ ns env k (.Constant (.str x) kd pos) (.const (.str y)) := by
  constructor; intro A s X ρ d _ _ _ _ h
  cases h
  exact Calls.Constant_str fun ht => ⟨.tk s ht, .of_str _ e⟩
theorem ev_const_none {kd : Nat} {pos : Pos} : Ev prog w h₀ Φ ns env k (.Constant .none kd pos) (.const .none) := by
  constructor; intro A s X ρ d _ _ _ _ h
  cases h
  exact wpAny_pure fun ht => ⟨.refl s, .none⟩
theorem ev_const_bool {b : Bool} {kd : Nat} {pos : Pos} : Ev prog w h₀ Φ ns env k (.Constant (.bool b) kd pos) (.const (.bool b)) := by
  constructor; intro A s X ρ d _ _ _ _ h
  cases h
  exact wpAny_pure fun ht => ⟨.refl s, .bool _⟩
theorem name_is {A : Around} {s : Shared} {x : Str} {v : Value} {pos : Pos} {Q : Value → Shared → Prop} {E : Value → Shared → Prop} (hk : env.scope.kind = .function) (h : VarIs env s x v) (hQ : Q v s)
    (hd : (x == ("__debug__" : Str)) = false) (hc : (x == ("__classdict__" : Str)) = false) : wpAny (model prog w) A (eval (.Name x pos) env) Q E s := by
  refine wpAny_Name ?_ hd
  rcases h with ⟨kd, m, n, e⟩ | ⟨kd | kd, c, l, i⟩
  · exact wpAny_loadName_local hk kd n e hQ
  · exact wpAny_loadName_cell hk kd l i hQ
  · exact wpAny_loadName_free hk kd l i hQ hc
theorem ev_var {x : Str} {pos : Pos} {i : Nat} (hk : env.scope.kind = .function) (hi : ns[i]? = some x) (hc : canVar env x)
    (hd : (x == ("__debug__" : Str)) = false) (hc' : (x == ("__classdict__" : Str)) = false) : Ev prog w h₀ Φ ns env k (.Name x pos) (.var i) := by
  constructor; intro A s X ρ d _ _ _ V h
  simp only [ev] at h
  split at h
  · rename_i d' e
    cases h
    obtain ⟨v, hv, r⟩ := V.get i x _ hi e hc
    exact name_is hk hv (fun ht => ⟨.refl s, r⟩) hd hc'
  · cases h
/-- a name of the text's top -/
noncomputable def Glob (prog : Program) (w : World) (h₀ : B0) (env : Env) (x : Str) (v : Value) : Prop :=
  ∀ (A : Around) (s : Shared) (pos : Pos) (Q : Value → Shared → Prop) (E : Value → Shared → Prop), Bs h₀ s → Q v s → wpAny (model prog w) A (eval (.Name x pos) env) Q E s
theorem ev_glob {x : Str} {pos : Pos} {v : Value} {dv : Dv} (g : Glob prog w h₀ env x v) (hv : ∀ h X, Bs h₀ h → Rep h.heap X v dv) : Ev prog w h₀ Φ ns env k (.Name x pos) (.const dv) := by
  constructor; intro A s X ρ d _ hB _ _ h
  cases h
  exact g A s pos _ _ hB fun ht => ⟨.refl s, hv _ _ hB⟩

theorem evs_nil : Evs prog w h₀ Φ ns env k [] .nil := by
  constructor; intro A s X ρ ds _ _ _ _ h pos
  cases h
  exact wpAny_pure fun _ => ⟨.refl s, .nil⟩
theorem evs_cons {e : Expr} {es : List Expr} {m ms : ME} (h1 : Ev prog w h₀ Φ ns env k e m) (h2 : Evs prog w h₀ Φ ns env k es ms) (hs : starEach (e :: es) env = (false, eval e env) :: starEach es env := by exact star_cons rfl) :
    Evs prog w h₀ Φ ns env k (e :: es) (.cons m ms) := by
  constructor; intro A s X ρ ds hA hB hO V h pos
  simp only [ev] at h
  obtain ⟨d, hd, h⟩ := Option.bind_eq_some_iff.mp h
  simp only [Option.map_eq_some_iff] at h
  obtain ⟨dr, hr, e'⟩ := h
  cases e'
  have hr' : ev Φ ms ρ = some (.list dr) := by
    unfold lst at hr
    split at hr
    · rename_i e; cases hr; exact e
    · cases hr
  rw [hs]
  show wpAny _ _ (spliced ((false, eval e env) :: backTo pos (starEach es env))) _ _ _
  refine Calls.spliced_cons (wpAny_told (h1.run A s X ρ d hA hB hO V hd) fun v s1 ht1 ⟨x1, r1⟩ => ?_)
  refine wpAny_told (h2.run A s1 X ρ dr hA (hB.ext x1) (hO.ext x1) (V.ext x1) hr' pos) fun vs s2 ht2 ⟨x2, r2⟩ ht => ⟨x1.trans x2, .cons (r1.ext x2) r2⟩

theorem lst_some {o : Option Dv} {ds : List Dv} (h : lst o = some ds) : o = some (.list ds) := by
  unfold lst at h
  split at h
  · cases h; rfl
  · cases h
theorem ev_op_inv {o : Op} {a : ME} {ρ : List En} {d : Dv} (h : ev Φ (.op o a) ρ = some d) : ∃ ds, ev Φ a ρ = some (.list ds) ∧ o.app ds = some d := by
  obtain ⟨ds, hds, h⟩ := Option.bind_eq_some_iff.mp h
  exact ⟨ds, lst_some hds, h⟩
theorem ev_cons2 {m1 m2 : ME} {ρ : List En} {ds : List Dv} (h : ev Φ (.cons m1 (.cons m2 .nil)) ρ = some (.list ds)) : ∃ d1 d2, ds = [d1, d2] ∧ ev Φ m1 ρ = some d1 ∧ ev Φ m2 ρ = some d2 := by
  simp only [ev, lst, Option.map_some] at h
  obtain ⟨d1, h1, h⟩ := Option.bind_eq_some_iff.mp h
  simp only [Option.map_eq_some_iff] at h
  obtain ⟨l, hl, h⟩ := h
  cases h
  have := lst_some hl
  obtain ⟨d2, h2, h⟩ := Option.bind_eq_some_iff.mp this
  cases h
  exact ⟨d1, d2, rfl, h1, h2⟩
theorem ev_cons1 {m1 : ME} {ρ : List En} {ds : List Dv} (h : ev Φ (.cons m1 .nil) ρ = some (.list ds)) : ∃ d1, ds = [d1] ∧ ev Φ m1 ρ = some d1 := by
  simp only [ev, lst, Option.map_some] at h
  obtain ⟨d1, h1, h⟩ := Option.bind_eq_some_iff.mp h
  cases h
  exact ⟨d1, rfl, h1⟩
theorem ev_consl {m1 ms : ME} {ρ : List En} {ds : List Dv} (h : ev Φ (.cons m1 ms) ρ = some (.list ds)) : ∃ d1 dr, ds = d1 :: dr ∧ ev Φ m1 ρ = some d1 ∧ ev Φ ms ρ = some (.list dr) := by
  simp only [ev] at h
  obtain ⟨d1, h1, h⟩ := Option.bind_eq_some_iff.mp h
  simp only [Option.map_eq_some_iff] at h
  obtain ⟨l, hl, h⟩ := h
  cases h
  exact ⟨d1, l, rfl, h1, lst_some hl⟩

theorem ev_bin {o : Bop} {l r : Expr} {ml mr : ME} {pos : Pos} (h1 : Ev prog w h₀ Φ ns env k l ml) (h2 : Ev prog w h₀ Φ ns env k r mr) :
    Ev prog w h₀ Φ ns env k (.BinOp l o.tree r pos) (.op (.bin o) (.cons ml (.cons mr .nil))) := by
  constructor; intro A s X ρ d hA hB hO V h
  obtain ⟨ds, hds, h⟩ := ev_op_inv h
  obtain ⟨da, db, rfl, ha, hb⟩ := ev_cons2 hds
  refine wpAny_BinOp (wpAny_told (h1.run A s X ρ da hA hB hO V ha) fun a s1 ht1 ⟨x1, r1⟩ => ?_)
  refine wpAny_told (h2.run A s1 X ρ db hA (hB.ext x1) (hO.ext x1) (V.ext x1) hb) fun b s2 ht2 ⟨x2, r2⟩ => ?_
  exact wpAny_told (bop_sound (hO.ext (x1.trans x2)) (r1.ext x2) r2 h) fun v s3 ht3 ⟨x3, r3⟩ ht => ⟨(x1.trans x2).trans x3, r3⟩
theorem ev_cmp {o : Cop} {l r : Expr} {ml mr : ME} {pos : Pos} (h1 : Ev prog w h₀ Φ ns env k l ml) (h2 : Ev prog w h₀ Φ ns env k r mr) (hm : behindInMarks o.tree r = false := by rfl) :
    Ev prog w h₀ Φ ns env k (.Compare l [o.tree] [r] pos) (.op (.cmp o) (.cons ml (.cons mr .nil))) := by
  constructor; intro A s X ρ d hA hB hO V h
  obtain ⟨ds, hds, h⟩ := ev_op_inv h
  obtain ⟨da, db, rfl, ha, hb⟩ := ev_cons2 hds
  replace h := Option.map_eq_some_iff.mp h
  obtain ⟨b, hc, rfl⟩ := h
  refine wpAny_Compare1 (wpAny_told (h1.run A s X ρ da hA hB hO V ha) fun a s1 ht1 ⟨x1, r1⟩ => ?_) hm
  refine wpAny_told (h2.run A s1 X ρ db hA (hB.ext x1) (hO.ext x1) (V.ext x1) hb) fun b s2 ht2 ⟨x2, r2⟩ => ?_
  exact cop_sound hA (r1.ext x2) r2 hc fun ht => ⟨x1.trans x2, .bool _⟩
theorem tst_cmp {o : Cop} {l r : Expr} {ml mr : ME} {pos : Pos} (h1 : Ev prog w h₀ Φ ns env k l ml) (h2 : Ev prog w h₀ Φ ns env k r mr) (hm : behindInMarks o.tree r = false := by rfl) :
    Tst prog w h₀ Φ ns env k (.Compare l [o.tree] [r] pos) (.op (.cmp o) (.cons ml (.cons mr .nil))) := by
  constructor; intro A s X ρ d hA hB hO V h
  obtain ⟨ds, hds, h⟩ := ev_op_inv h
  obtain ⟨da, db, rfl, ha, hb⟩ := ev_cons2 hds
  replace h := Option.map_eq_some_iff.mp h
  obtain ⟨b, hc, e⟩ := h
  cases e
  refine wpAny_isTrue_Compare1 (wpAny_told (h1.run A s X ρ da hA hB hO V ha) fun a s1 ht1 ⟨x1, r1⟩ => ?_) hm
  refine wpAny_told (h2.run A s1 X ρ db hA (hB.ext x1) (hO.ext x1) (V.ext x1) hb) fun b s2 ht2 ⟨x2, r2⟩ => ?_
  exact cop_sound hA (r1.ext x2) r2 hc (wpAny_truthy_bool fun ht => ⟨rfl, x1.trans x2⟩)
end
end Mine

namespace Mine
open PySem PySem.W PyProof.Rows

section
variable {prog : Program} {w : World} {h₀ : B0} {Φ : Nat → List Dv → Option Dv} {ns : List Str} {env : Env} {k : Nat}

theorem ev_unlit {e : Expr} {m : ME} (h : Ev prog w h₀ Φ ns env k e m) : Ev prog w h₀ Φ ns env k e (.op .unlit (.cons m .nil)) := by
  constructor; intro A s X ρ d hA hB hO V he
  obtain ⟨ds, hds, he⟩ := ev_op_inv he
  obtain ⟨d1, rfl, h1⟩ := ev_cons1 hds
  cases d1 with
  | lit x =>
    cases he
    exact wpAny_told (h.run A s X ρ _ hA hB hO V h1) fun v s1 _ ⟨x1, r1⟩ _ => ⟨x1, r1.unlit⟩
  | _ => cases he
theorem ev_idx {value slice : Expr} {mv ms : ME} {pos : Pos} (h1 : Ev prog w h₀ Φ ns env k value mv) (h2 : Ev prog w h₀ Φ ns env k slice ms) (hs : ∀ a b c p, slice ≠ .Slice a b c p := by intro _ _ _ _ h; cases h) :
    Ev prog w h₀ Φ ns env k (.Subscript value slice pos) (.op .idx (.cons mv (.cons ms .nil))) := by
  constructor; intro A s X ρ d hA hB hO V h
  obtain ⟨ds, hds, h⟩ := ev_op_inv h
  obtain ⟨da, db, rfl, ha, hb⟩ := ev_cons2 hds
  refine Subscript_ (wpAny_told (h1.run A s X ρ da hA hB hO V ha) fun a s1 ht1 ⟨x1, r1⟩ => ?_)
  refine wpAny_told (h2.run A s1 X ρ db hA (hB.ext x1) (hO.ext x1) (V.ext x1) hb) fun b s2 ht2 ⟨x2, r2⟩ => ?_
  exact idx_list (r1.ext x2) r2 h (fun r s' x3 r3 ht => ⟨(x1.trans x2).trans x3, r3⟩) hs
theorem ev_oidx {x : Str} {slice : Expr} {ms : ME} {p pos : Pos} {i : Nat} (hk : env.scope.kind = .function) (hi : ns[i]? = some x) (hc : canVar env x)
    (h2 : Ev prog w h₀ Φ ns env k slice ms) (hd : (x == ("__debug__" : Str)) = false) (hc' : (x == ("__classdict__" : Str)) = false) (hs : ∀ a b c p, slice ≠ .Slice a b c p := by intro _ _ _ _ h; cases h) :
    Ev prog w h₀ Φ ns env k (.Subscript (.Name x p) slice pos) (.oidx i ms) := by
  constructor; intro A s X ρ d hA hB hO V h
  simp only [ev] at h
  split at h
  · rename_i ds db e hb
    obtain ⟨a, vs, n, hv, ea, qa⟩ := V.get i x _ hi e hc
    refine Subscript_ (name_is hk hv ?_ hd hc')
    refine wpAny_told (h2.run A s X ρ db hA hB hO V hb) fun b s2 ht2 ⟨x2, r2⟩ => ?_
    exact idx_raw (x2.heap _ _ ea) (qa.ext x2) r2 h (fun r s' x3 r3 ht => ⟨x2.trans x3, r3⟩) hs
  · cases h

variable (prog w h₀ Φ ns env k) in
structure EvO (o : Option Expr) (m : ME) : Prop where
  run : ∀ (A : Around) (s : Shared) (X : Bd) (ρ : List En) (d : Dv), Rm k A → Bs h₀ s → Old X s → Vars env s X ns ρ → ev Φ m ρ = some d → Gives prog w A (valueOrNone (evalOpt o env)) X d s
theorem evo_none : EvO prog w h₀ Φ ns env k none (.const .none) := by
  constructor; intro A s X ρ d _ _ _ _ h
  cases h
  exact wpAny_pure fun ht => ⟨.refl s, .none⟩
theorem evo_some {e : Expr} {m : ME} (h : Ev prog w h₀ Φ ns env k e m) : EvO prog w h₀ Φ ns env k (some e) m := ⟨h.run⟩
theorem ev_sl {value : Expr} {l u st : Option Expr} {mv ml mu ms : ME} {p pos : Pos} {ops : Value → Value → List Value} (h1 : Ev prog w h₀ Φ ns env k value mv) (h2 : EvO prog w h₀ Φ ns env k l ml) (h3 : EvO prog w h₀ Φ ns env k u mu)
    (h4 : EvO prog w h₀ Φ ns env k st ms) (hs : ∀ o i, subscripted (.Slice l u st p) false o i = operate (ops o i) (getItem o i)) :
    Ev prog w h₀ Φ ns env k (.Subscript value (.Slice l u st p) pos) (.op .sl (.cons mv (.cons ml (.cons mu (.cons ms .nil))))) := by
  constructor; intro A s X ρ d hA hB hO V h
  obtain ⟨ds, hds, h⟩ := ev_op_inv h
  obtain ⟨d1, dr, rfl, e1, er⟩ := ev_consl hds
  obtain ⟨d2, dr, rfl, e2, er⟩ := ev_consl er
  obtain ⟨d3, d4, rfl, e3, e4⟩ := ev_cons2 er
  refine Subscript_ (wpAny_told (h1.run A s X ρ _ hA hB hO V e1) fun a s1 ht1 ⟨x1, r1⟩ => ?_)
  rw [arm_eval_Slice]
  refine wpAny_bind (wpAny_told (h2.run A s1 X ρ _ hA (hB.ext x1) (hO.ext x1) (V.ext x1) e2) fun b s2 ht2 ⟨x2, r2⟩ => ?_)
  have y2 := x1.trans x2
  refine wpAny_bind (wpAny_holding (wpAny_told (h3.run A s2 X ρ _ hA (hB.ext y2) (hO.ext y2) (V.ext y2) e3) fun c s3 ht3 ⟨x3, r3⟩ => ?_))
  have y3 := y2.trans x3
  refine wpAny_bind (wpAny_holding (wpAny_told (h4.run A s3 X ρ _ hA (hB.ext y3) (hO.ext y3) (V.ext y3) e4) fun c s4 ht4 ⟨x4, r4⟩ => ?_))
  have y4 := y3.trans x4
  refine sl_sound (hO.ext y4) (r1.ext ((x2.trans x3).trans x4)) (r2.ext (x3.trans x4)) (r3.ext x4) r4 h (fun r s' x5 r5 _ => ⟨y4.trans x5, r5⟩) hs
theorem ev_neg {e : Expr} {m : ME} {pos : Pos} (h : Ev prog w h₀ Φ ns env k e m) : Ev prog w h₀ Φ ns env k (.UnaryOp .USub e pos) (.op .neg (.cons m .nil)) := by
  constructor; intro A s X ρ d hA hB hO V he
  obtain ⟨ds, hds, he⟩ := ev_op_inv he
  obtain ⟨d1, rfl, h1⟩ := ev_cons1 hds
  cases d1 with
  | int i =>
    cases he
    refine wpAny_UnaryOp (wpAny_told (h.run A s X ρ _ hA hB hO V h1) fun v s1 ht1 ⟨x1, r1⟩ => ?_)
    obtain ⟨t, rfl⟩ := r1.int_inv
    exact PySem.P.neg_int fun ht => ⟨x1.trans (.tk s1 (Nat.le_succ _)), .int _ _⟩
  | _ => cases he
theorem ev_list {es : List Expr} {m : ME} {pos : Pos} (h : Evs prog w h₀ Φ ns env k es m) (hn : ∀ ρ ds, ev Φ m ρ = some (.list ds) → ds.length ≤ 1000) (hl : ∀ ρ d, ev Φ m ρ = some d → ∃ ds, d = .list ds) :
    Ev prog w h₀ Φ ns env k (.List es pos) m := by
  constructor; intro A s X ρ d hA hB hO V he
  obtain ⟨ds, rfl⟩ := hl _ _ he
  rw [arm_eval_List]
  refine wpAny_bind (wpAny_standAt (wpAny_bind (wpAny_told (h.run A s X ρ ds hA hB hO V he pos) fun vs s1 ht1 ⟨x1, r1⟩ => ?_)))
  refine wpAny_newList (fun ht => ?_) (by have := hn _ _ he; have := r1.length; show vs.length ≤ 16777216; omega)
  have := gives_newlist (hO.ext x1) r1 (tk := s1.toks) (Nat.le_refl _)
  exact ⟨x1.trans this.1, this.2⟩
theorem ev_tup {es : List Expr} {m : ME} {kd : Nat} {pos : Pos} (h : Evs prog w h₀ Φ ns env k es m) (hn : ∀ ρ ds, ev Φ m ρ = some (.list ds) → ds.length ≤ 1000) : Ev prog w h₀ Φ ns env k (.Tuple es kd pos) (.op .tup m) := by
  constructor; intro A s X ρ d hA hB hO V he
  obtain ⟨ds, hds, he⟩ := ev_op_inv he
  cases he
  rw [arm_eval_Tuple]
  refine wpAny_bind (wpAny_standAt (wpAny_bind (wpAny_told (h.run A s X ρ ds hA hB hO V hds pos) fun vs s1 ht1 ⟨x1, r1⟩ => ?_)))
  refine wpAny_newTuple (fun ht => ?_) (by have := hn _ _ hds; have := r1.length; show vs.length ≤ 16777216; omega)
  have := gives_newtup (hO.ext x1) r1 (tk := s1.toks) (Nat.le_refl _)
  exact ⟨x1.trans this.1, this.2⟩

/-- a cons list of n places -/
noncomputable def isCons : Nat → ME → Bool
  | 0, .nil => true
  | n + 1, .cons _ b => isCons n b
  | _, _ => false
theorem isCons_len : ∀ {n : Nat} {m : ME}, isCons n m = true → ∀ ρ d, ev Φ m ρ = some d → ∃ ds, d = .list ds ∧ ds.length = n
  | 0, m, h, ρ, d, he => by
    cases m with
    | nil => cases he; exact ⟨[], rfl, rfl⟩
    | _ => cases h
  | n + 1, m, h, ρ, d, he => by
    cases m with
    | cons a b =>
      simp only [ev] at he
      obtain ⟨d1, h1, he⟩ := Option.bind_eq_some_iff.mp he
      simp only [Option.map_eq_some_iff] at he
      obtain ⟨l, hl, rfl⟩ := he
      obtain ⟨ds, e, hn⟩ := isCons_len (show isCons n b = true from h) ρ _ (lst_some hl)
      cases e
      exact ⟨_, rfl, by simp [hn]⟩
    | _ => cases h
theorem ev_list' {es : List Expr} {m : ME} {pos : Pos} (n : Nat) (h : Evs prog w h₀ Φ ns env k es m) (hc : isCons n m = true) (hn : n ≤ 1000) : Ev prog w h₀ Φ ns env k (.List es pos) m :=
  ev_list h (fun ρ _ e => by obtain ⟨_, e', hl⟩ := isCons_len hc ρ _ e; cases e'; omega) fun ρ d e => by obtain ⟨_, e', _⟩ := isCons_len hc ρ _ e; exact ⟨_, e'⟩
theorem ev_tup' {es : List Expr} {m : ME} {kd : Nat} {pos : Pos} (n : Nat) (h : Evs prog w h₀ Φ ns env k es m) (hc : isCons n m = true) (hn : n ≤ 1000) : Ev prog w h₀ Φ ns env k (.Tuple es kd pos) (.op .tup m) :=
  ev_tup h fun ρ ds e => by obtain ⟨_, e', hl⟩ := isCons_len hc ρ _ e; cases e'; omega

/-! tests, branches -/
theorem ev_ite {c a b : Expr} {mc ma mb : ME} {pos : Pos} (h1 : Tst prog w h₀ Φ ns env k c mc) (h2 : Ev prog w h₀ Φ ns env k a ma) (h3 : Ev prog w h₀ Φ ns env k b mb) :
    Ev prog w h₀ Φ ns env k (.IfExp c a b pos) (.ite mc ma mb) := by
  constructor; intro A s X ρ d hA hB hO V h
  simp only [ev] at h
  split at h
  · rename_i hc
    exact wpAny_IfExp (wpAny_told (h1.run A s X ρ _ hA hB hO V hc) fun r s1 ht1 ⟨e, x1⟩ => by
      subst e
      exact wpAny_told (h2.run A s1 X ρ d hA (hB.ext x1) (hO.ext x1) (V.ext x1) h) fun v s2 _ ⟨x2, r2⟩ _ => ⟨x1.trans x2, r2⟩)
  · rename_i hc
    exact wpAny_IfExp (wpAny_told (h1.run A s X ρ _ hA hB hO V hc) fun r s1 ht1 ⟨e, x1⟩ => by
      subst e
      exact wpAny_told (h3.run A s1 X ρ d hA (hB.ext x1) (hO.ext x1) (V.ext x1) h) fun v s2 _ ⟨x2, r2⟩ _ => ⟨x1.trans x2, r2⟩)
  · cases h
theorem ev_and {a b : Expr} {ma mb : ME} {pos : Pos} (h1 : Ev prog w h₀ Φ ns env k a ma) (h2 : Ev prog w h₀ Φ ns env k b mb) : Ev prog w h₀ Φ ns env k (.BoolOp .And [a, b] pos) (.and ma mb) := by
  constructor; intro A s X ρ d hA hB hO V h
  simp only [ev] at h
  split at h
  · rename_i hc
    exact wpAny_And2 (wpAny_told (h1.run A s X ρ _ hA hB hO V hc) fun r s1 ht1 ⟨x1, r1⟩ => by
      cases r1.bool_inv
      exact wpAny_truthy_bool (wpAny_told (h2.run A s1 X ρ d hA (hB.ext x1) (hO.ext x1) (V.ext x1) h) fun v s2 _ ⟨x2, r2⟩ _ => ⟨x1.trans x2, r2⟩))
  · rename_i hc
    cases h
    exact wpAny_And2 (wpAny_told (h1.run A s X ρ _ hA hB hO V hc) fun r s1 ht1 ⟨x1, r1⟩ => by
      cases r1.bool_inv
      exact wpAny_truthy_bool fun _ => ⟨x1, .bool _⟩)
  · cases h
/-! calls -/
theorem args_told {A : Around} {s : Shared} {X : Bd} {ρ : List En} {ds : List Dv} {es : List Expr} {e : Expr} {m : ME} {f : Value} {pos : Pos} {Q : Args → Shared → Prop} {E : Value → Shared → Prop} (h : Evs prog w h₀ Φ ns env k (e :: es) m)
    (hA : Rm k A) (hB : Bs h₀ s) (hO : Old X s) (V : Vars env s X ns ρ) (he : ev Φ m ρ = some (.list ds)) (hs : starEach (e :: es) env = (false, eval e env) :: starEach es env)
    (hQ : ∀ vs s', Ext s s' → Reps s'.heap X vs ds → Q ⟨vs, []⟩ s') : wpAny (model prog w) A (evalArgs f true (backTo pos (starEach (e :: es) env)) []) Q E s := by
  rw [hs]
  show wpAny _ _ (evalArgs f true ((false, eval e env) :: backTo pos (starEach es env)) []) _ _ _
  refine Calls.evalArgs_plain ?_
  have := h.run A s X ρ ds hA hB hO V he pos
  rw [hs] at this
  exact wpAny_told this fun vs s1 ht1 ⟨x1, r1⟩ => hQ vs s1 x1 r1
theorem ev_fn {o : Fop} {x : Str} {e : Expr} {es : List Expr} {m : ME} {p pos : Pos} (g : Glob prog w h₀ env x o.f) (h : Evs prog w h₀ Φ ns env k (e :: es) m)
    (hs : starEach (e :: es) env = (false, eval e env) :: starEach es env := by exact star_cons rfl) (hp : (backTo pos (starEach (e :: es) env)).any (·.1) = false := by rfl) : Ev prog w h₀ Φ ns env k (.Call (.Name x p) (e :: es) [] pos) (.op (.fn o) m) := by
  constructor; intro A s X ρ d hA hB hO V he
  obtain ⟨ds, hds, he⟩ := ev_op_inv he
  rw [arm_eval_Call_Name']
  refine wpAny_bind (g A s p _ _ hB ?_)
  have fin : ∀ vs s1, Ext s s1 → Reps s1.heap X vs ds → wpAny (model prog w) A (call o.f vs) (fun v s' => s.toks ≤ s'.toks → Ext s s' ∧ Rep s'.heap X v d) (fun _ _ => False) s1 := fun vs s1 x1 r1 =>
    wpAny_told (fop_sound hA (hO.ext x1) r1 he) fun v s2 _ ⟨x2, r2⟩ _ => ⟨x1.trans x2, r2⟩
  cases o <;> first
    | exact Calls.callWith_builtin hp (args_told h hA hB hO V hds hs fun vs s1 x1 r1 => fin vs s1 x1 r1)
    | exact PySem.callWith_type hp (args_told h hA hB hO V hds hs fun vs s1 x1 r1 => fin vs s1 x1 r1)
theorem ev_meth {o : Mop} {a e : Expr} {ma me : ME} {apos pos : Pos} (h1 : Ev prog w h₀ Φ ns env k a ma) (h2 : Ev prog w h₀ Φ ns env k e me)
    (hbase : attributeBase a o.name env (eval a env) = eval a env) (hs : starEach [e] env = [(false, eval e env)] := by exact star_one rfl) (hline : (apos.endLine == pos.line) = true := by rfl) :
    Ev prog w h₀ Φ ns env k (.Call (.Attribute a o.name apos) [e] [] pos) (.op (.meth o) (.cons ma (.cons me .nil))) := by
  constructor; intro A s X ρ d hA hB hO V h
  obtain ⟨ds, hds, h⟩ := ev_op_inv h
  obtain ⟨da, db, rfl, ha, hb⟩ := ev_cons2 hds
  cases da with
  | str x =>
    refine Call_method1 hbase hs hline (wpAny_told (h1.run A s X ρ _ hA hB hO V ha) fun v s1 ht1 ⟨x1, r1⟩ => ?_)
    obtain ⟨t, rfl⟩ := r1.str_inv
    refine mop_sound (hO.ext x1) h ?_
    refine wpAny_told (h2.run A s1 X ρ _ hA (hB.ext x1) (hO.ext x1) (V.ext x1) hb) fun b s2 ht2 ⟨x2, r2⟩ => ⟨x2, r2, fun r s3 hx r3 ht => ⟨hx s (x1.trans x2) ht, r3⟩⟩
  | _ => cases h
end
end Mine

namespace Mine
open PySem PySem.W PyProof.Rows PySem.Builtin PySem.Builtin.Str

theorem rep_is (x y z : List Nat) (hy : y ≠ []) : (Txt.replace (mkS x) (mkS y) (mkS z)).cps.toList = glue z (pieces y x 0) := by
  have hb := between_is x y hy
  unfold Txt.replace
  cases hf : (occurrences (mkS x) (mkS y) 0 (mkS x).length ((mkS x).length + 1)).isEmpty
  · have h0 : ((mkS y).length == 0) = false := by
      rw [mkS_len]
      cases y with
      | nil => exact absurd rfl hy
      | cons => rfl
    rw [if_neg (by rw [h0]; simp), StrLaws.glued_eq_join, glue_is, hb]
  · have e := List.isEmpty_iff.mp hf
    rw [if_pos (by simp), ← hb, e, StrLaws.partsBetween_eq]
    simp [StrLaws.partsFrom, StrLaws.sub_whole, mkS, glue]
theorem of_list {y : Str} {l : List Nat} (e : y.cps.toList = l) : y = mkS l := by subst e; cases y; rfl

section
variable {prog : Program} {w : World} {h₀ : B0} {Φ : Nat → List Dv → Option Dv} {ns : List Str} {env : Env} {k : Nat}

theorem rep_call {A : Around} {s s0 : Shared} {X : Bd} {x y z : List Nat} {t u v : Tok} {d dz : Dv} (hz : strD dz = some z) (h : Op.rep.app [.str x, .str y, dz] = some d) (x0 : Ext s0 s) (hB : Bs h₀ s) (nb : NoneBooked h₀.heap) (hu : u ≠ 0) (hv : v ≠ 0) (huv : u ≠ v) :
    wpAny (model prog w) A (call (.builtin "str.replace") [.str (mkS x) t, .str (mkS y) u, .str (mkS z) v]) (fun r s' => s0.toks ≤ s'.toks → Ext s0 s' ∧ Rep s'.heap X r d) (fun _ _ => False) s := by
  rw [op_rep, hz, Option.bind_some] at h
  split at h
  · cases h
  · rename_i hc
    cases h
    simp only [Bool.or_eq_true, decide_eq_true_eq, not_or, List.isEmpty_iff] at hc
    refine SC.replaceA hu hv huv ?_ (fun t' k ht => ⟨⟨x0.heap, x0.gens, x0.bare, x0.os, ht⟩, .of_str _ (rep_is x y z hc.1.1)⟩) ?_
    · rw [mkS_len, mkS_len]
      have : (x.length + 1) * z.length ≤ 10001 * 100 := Nat.mul_le_mul (by omega) (by omega)
      omega
    · obtain ⟨mc, n, e⟩ := nb
      exact ⟨mc, n.keeps hB.keep, e⟩
theorem rep_op {dx dy dz d : Dv} (h : Op.rep.app [dx, dy, dz] = some d) : ∃ x y z, dx = .str x ∧ dy = .str y ∧ strD dz = some z := by
  cases dx with
  | str x =>
    cases dy with
    | str y =>
      obtain ⟨z, hz, _⟩ := Option.bind_eq_some_iff.mp h
      exact ⟨x, y, z, rfl, rfl, hz⟩
    | _ => cases h
  | _ => cases h

theorem ev_rep_cc {a : Expr} {ma : ME} {y z : Str} {ly lz : List Nat} {k1 k2 : Nat} {p1 p2 apos pos : Pos} (h1 : Ev prog w h₀ Φ ns env k a ma) (ht : 1 ≤ h₀.tok) (nb : NoneBooked h₀.heap) (ey : y.cps.toList = ly) (ez : z.cps.toList = lz)
    (hbase : attributeBase a "replace" env (eval a env) = eval a env) (hline : (apos.endLine == pos.line) = true := by rfl) :
    Ev prog w h₀ Φ ns env k (.Call (.Attribute a "replace" apos) [.Constant (.str y) k1 p1, .Constant (.str z) k2 p2] [] pos) (.op .rep (.cons ma (.cons (.const (.str ly)) (.cons (.const (.str lz)) .nil)))) := by
  constructor; intro A s X ρ d hA hB hO V h
  obtain ⟨ds, hds, h⟩ := ev_op_inv h
  obtain ⟨d1, dr, rfl, e1, er⟩ := ev_consl hds
  obtain ⟨d2, d3, rfl, e2, e3⟩ := ev_cons2 er
  cases e2
  cases e3
  obtain ⟨x, y', z', rfl, e, hz⟩ := rep_op h
  cases e
  cases hz
  refine Call_method2 hbase rfl hline (wpAny_told (h1.run A s X ρ _ hA hB hO V e1) fun v s1 ht1 ⟨x1, r1⟩ => ?_)
  obtain ⟨t, rfl⟩ := r1.str_inv
  have hB1 := hB.ext x1
  have hp := hB1.tok
  refine ⟨"str", _, F.plainAttrs_str, F.slot_str_replace, F.type_str_replace, typeIs_str _ _ _, (fun _ e => nomatch e), Calls.callWith_builtin rfl (Calls.evalArgs_plain ?_)⟩
  refine Calls.spliced_cons (Calls.Constant_str (Calls.spliced_cons (Calls.Constant_str (Calls.spliced_nil ?_))))
  rw [of_list ey, of_list ez]
  have x2 : Ext s { s1 with toks := s1.toks + 1 + 1 } := x1.trans (.tk s1 (by omega))
  exact rep_call (h₀ := h₀) rfl h x2 (hB.ext x2) nb (show s1.toks ≠ 0 by omega) (show s1.toks + 1 ≠ 0 by omega) (show s1.toks ≠ s1.toks + 1 by omega)
theorem Rep.lit_inv {h : Heap} {X : Bd} {v : Value} {z : List Nat} (r : Rep h X v (.lit z)) : ∃ (zz : Str) (u : Tok), v = .str zz u ∧ u ≠ 0 ∧ (u : Nat) < X.tok ∧ zz.cps.toList = z := by
  cases r with | lit x t h1 h2 => exact ⟨x, t, rfl, h1, h2, rfl⟩
theorem ev_var_inv {i : Nat} {ρ : List En} {d : Dv} (h : ev Φ (.var i) ρ = some d) : ρ[i]? = some (.val d) := by
  have h : (match ρ[i]? with | some (.val d) => some d | _ => none) = some d := h
  cases e : ρ[i]? with
  | none => rw [e] at h; cases h
  | some x =>
    rw [e] at h
    cases x with
    | val d' => cases h; rfl
    | _ => cases h
theorem ev_rep_cn {a : Expr} {ma : ME} {y z : Str} {ly : List Nat} {i : Nat} {k1 : Nat} {p1 p2 apos pos : Pos} (h1 : Ev prog w h₀ Φ ns env k a ma) (nb : NoneBooked h₀.heap) (ey : y.cps.toList = ly)
    (hk : env.scope.kind = .function) (hi : ns[i]? = some z) (hc : canVar env z) (hd : (z == ("__debug__" : Str)) = false) (hc' : (z == ("__classdict__" : Str)) = false)
    (hbase : attributeBase a "replace" env (eval a env) = eval a env) (hline : (apos.endLine == pos.line) = true := by rfl) :
    Ev prog w h₀ Φ ns env k (.Call (.Attribute a "replace" apos) [.Constant (.str y) k1 p1, .Name z p2] [] pos) (.op .rep (.cons ma (.cons (.const (.str ly)) (.cons (.op .unlit (.cons (.var i) .nil)) .nil)))) := by
  constructor; intro A s X ρ d hA hB hO V h
  obtain ⟨ds, hds, h⟩ := ev_op_inv h
  obtain ⟨d1, dr, rfl, e1, er⟩ := ev_consl hds
  obtain ⟨d2, d3, rfl, e2, e3⟩ := ev_cons2 er
  cases e2
  obtain ⟨dl, hdl, e3⟩ := ev_op_inv e3
  obtain ⟨d4, rfl, e4⟩ := ev_cons1 hdl
  cases d4 with
  | lit z' =>
    cases e3
    obtain ⟨x, y', z'', rfl, e, hz⟩ := rep_op h
    cases e
    cases hz
    refine Call_method2 hbase rfl hline (wpAny_told (h1.run A s X ρ _ hA hB hO V e1) fun v s1 ht1 ⟨x1, r1⟩ => ?_)
    obtain ⟨t, rfl⟩ := r1.str_inv
    have hB1 := hB.ext x1
    obtain ⟨v, hv, r⟩ := (V.ext x1).get i z _ hi (ev_var_inv e4) hc
    obtain ⟨zz, u, rfl, h0, hu', rfl⟩ := r.lit_inv
    have ho1 : X.tok ≤ s1.toks := (hO.ext x1).tok
    refine ⟨"str", _, F.plainAttrs_str, F.slot_str_replace, F.type_str_replace, typeIs_str _ _ _, (fun _ e => nomatch e), Calls.callWith_builtin rfl (Calls.evalArgs_plain ?_)⟩
    refine Calls.spliced_cons (Calls.Constant_str (Calls.spliced_cons (name_is hk (hv.keep fun _ _ e => e) (Calls.spliced_nil ?_) hd hc')))
    rw [of_list ey, of_list (y := zz) rfl]
    have x2 : Ext s { s1 with toks := s1.toks + 1 } := x1.trans (.tk s1 (by omega))
    exact rep_call (h₀ := h₀) rfl h x2 (hB.ext x2) nb (Nat.ne_of_gt (Nat.lt_of_le_of_lt (Nat.zero_le _) (Nat.lt_of_lt_of_le hu' ho1))) h0 (Nat.ne_of_gt (Nat.lt_of_lt_of_le hu' ho1))
  | _ => cases e3
end
end Mine

namespace Mine
open PySem PySem.W PyProof.Rows

/-- a move: what stands at the given addresses may turn -/
structure Mv (F : Addr → Prop) (G : Nat → Prop) (s s' : Shared) : Prop where
  heap : ∀ b o, ¬ F b → s.heap.get? b = some o → s'.heap.get? b = some o
  gens : ∀ (i : Nat) (x : GenState), ¬ G i → s.gens[i]? = some x → s'.gens[i]? = some x
  bare : AllBare s.gens → AllBare s'.gens
  os : s'.os = s.os
  toks : s.toks ≤ s'.toks
theorem Ext.mv {F : Addr → Prop} {G : Nat → Prop} {s s' : Shared} (x : Ext s s') : Mv F G s s' :=
  ⟨fun b o _ e => x.heap b o e, fun i z _ e => x.gens i z e, x.bare, x.os, x.toks⟩
theorem Mv.trans {F : Addr → Prop} {G : Nat → Prop} {s s' s'' : Shared} (x : Mv F G s s') (y : Mv F G s' s'') : Mv F G s s'' :=
  ⟨fun b o n e => y.heap b o n (x.heap b o n e), fun i z n e => y.gens i z n (x.gens i z n e), fun b => y.bare (x.bare b), y.os.trans x.os, Nat.le_trans x.toks y.toks⟩
theorem Mv.mono {F F' : Addr → Prop} {G G' : Nat → Prop} {s s' : Shared} (x : Mv F G s s') (hF : ∀ b, F b → F' b) (hG : ∀ i, G i → G' i) : Mv F' G' s s' :=
  ⟨fun b o n e => x.heap b o (fun h => n (hF b h)) e, fun i z n e => x.gens i z (fun h => n (hG i h)) e, x.bare, x.os, x.toks⟩
/-- only what is new has turned -/
theorem Mv.ext {F : Addr → Prop} {G : Nat → Prop} {s0 s s' : Shared} (x : Ext s0 s) (y : Mv F G s s') (hF : ∀ b, F b → s0.heap.get? b = none) (hG : ∀ i, G i → s0.gens[i]? = none) : Ext s0 s' :=
  ⟨fun b o e => y.heap b o (fun h => by rw [hF b h] at e; cases e) (x.heap b o e), fun i z e => y.gens i z (fun h => by rw [hG i h] at e; cases e) (x.gens i z e), fun b => y.bare (x.bare b), y.os.trans x.os, Nat.le_trans x.toks y.toks⟩
theorem Mv.rep {F : Addr → Prop} {G : Nat → Prop} {X : Bd} {s s' : Shared} (y : Mv F G s s') (hF : ∀ b, F b → X.off b) {v : Value} {d : Dv} (r : Rep s.heap X v d) : Rep s'.heap X v d :=
  r.mono (fun b o n e => ⟨y.heap b o (fun h => n (hF b h)) e, n⟩) (Nat.le_refl _)
theorem Mv.reps {F : Addr → Prop} {G : Nat → Prop} {X : Bd} {s s' : Shared} (y : Mv F G s s') (hF : ∀ b, F b → X.off b) {v : List Value} {d : List Dv} (r : Reps s.heap X v d) : Reps s'.heap X v d :=
  r.mono (fun b o n e => ⟨y.heap b o (fun h => n (hF b h)) e, n⟩) (Nat.le_refl _)
noncomputable def Bd.plus (X : Bd) (F : Addr → Prop) : Bd := ⟨fun b => X.off b ∨ F b, X.tok⟩
noncomputable def noF : Addr → Prop := fun _ => False
noncomputable def noG : Nat → Prop := fun _ => False

/-- an iterator that hands on the data, one after the other; f: what it holds at the time -/
structure Src (prog : Program) (w : World) (h₀ : B0) (A : Around) (X : Bd) (H : Heap) (I : Addr) (gs : Nat → Prop) (ds : List Dv) (St : (Addr → Prop) → Nat → Shared → Prop) : Prop where
  live : ∀ f i s, St f i s → ∀ b, f b → (s.heap.get? b).isSome = true
  frame : ∀ f i s s', St f i s → Bs h₀ s' → Mv (fun b => ¬ f b ∧ (X.off b ∨ H.get? b = none)) noG s s' → St f i s'
  item : ∀ f i d (s : Shared) (Q : Option Value → Shared → Prop) (E : Value → Shared → Prop), ds[i]? = some d → St f i s →
    (∀ v s' f', (∀ b, f b → f' b) → (∀ b, f' b → f b ∨ s.heap.get? b = none) → (∀ Y : Bd, Old Y s → (∀ b, Y.off b → X.off b ∨ f b ∨ H.get? b = none) → X.tok ≤ Y.tok → Rep s'.heap ⟨fun b => Y.off b ∨ f' b, Y.tok⟩ v d) → St f' (i + 1) s' → Mv f gs s s' → Q (some v) s') →
    wpAny (model prog w) A (pyNext (.ref I)) Q E s
  done : ∀ f (s : Shared) (Q : Option Value → Shared → Prop) (E : Value → Shared → Prop), St f ds.length s → (∀ s', Mv f gs s s' → Q none s') → wpAny (model prog w) A (pyNext (.ref I)) Q E s
  self : ∀ f i (s : Shared) (Q : Value → Shared → Prop) (E : Value → Shared → Prop), St f i s → Q (.ref I) s → wpAny (model prog w) A (pyIter (.ref I)) Q E s
  go : ∀ f i (s : Shared) (target : Expr) (v : Value) (Q : Unit → Shared → Prop) (E : Value → Shared → Prop), St f i s → Q () s → wpAny (model prog w) A (letOwnedTupleGo target (.ref I) v) Q E s

noncomputable def goNames : List String := ["enumerate", "zip", "dict_itemiterator", "dict_reverseitemiterator", "odict_iterator", "itertools.zip_longest", "itertools.pairwise"]
theorem go_plain {M : Model} {A : Around} {E : Value → Shared → Prop} {s : Shared} {I : Addr} {o : Obj} {T : String} {target : Expr} {v : Value} {Q : Unit → Shared → Prop} (ho : s.heap.get? I = some o) (hc : o.cls = .type T) (hT : goNames.contains T = false) (h : Q () s) :
    wpAny M A (letOwnedTupleGo target (.ref I) v) Q E s := by
  have key : ∀ a, wpAny M A (do
      let o ← load I
      match o.cls, o.data with
      | .type n, .fields vs =>
        if goNames.contains n && vs[0]? == some (rawInt a) then
          rule "for.unpacks-the-owned-tuple"
          updateField I 0 .none
      | _, _ => pure () : Sem Unit) Q E s := fun a => by
    refine wpAny_bind (wpAny_load ho ?_)
    rw [hc]
    split
    · rename_i heq _
      cases heq
      rw [hT]
      exact wpAny_pure h
    · exact wpAny_pure h
  unfold letOwnedTupleGo
  cases target <;> first
    | exact wpAny_pure h
    | (cases v <;> first | exact wpAny_pure h | exact key _)

section
variable {prog : Program} {w : World} {A : Around}

theorem src_walks {h₀ : B0} {X : Bd} {H : Heap} {I : Addr} {fpl wrl : List Addr} {ds : List Dv} {P : Nat → Value → Prop} {St : Nat → Heap → Prop} {R : Heap → Prop}
    (W : Walks prog w A I fpl wrl ds.length P St) (hfp : ∀ b ∈ fpl, b ∈ wrl ∨ ((H.get? b).isSome = true ∧ ¬ X.off b))
    (hR : ∀ h h', R h → (∀ b o, ¬ (X.off b ∨ b ∈ wrl ∨ H.get? b = none) → h.get? b = some o → h'.get? b = some o) → R h')
    (hP : ∀ h i v d, R h → P i v → ds[i]? = some d → Rep h ⟨fun b => X.off b ∨ b ∈ wrl ∨ H.get? b = none, X.tok⟩ v d)
    (hlive : ∀ i h, St i h → ∀ b ∈ wrl, ∃ o, h.get? b = some o)
    (hgo : ∀ i h, St i h → ∃ o T, h.get? I = some o ∧ o.cls = .type T ∧ goNames.contains T = false) :
    Src prog w h₀ A X H I noG ds (fun f i s => f = (· ∈ wrl) ∧ St i s.heap ∧ R s.heap) where
  live := fun f i s ⟨ef, st, _⟩ b hb => by subst ef; obtain ⟨o, e⟩ := hlive i _ st b hb; rw [e]; rfl
  frame := fun f i s s' ⟨ef, st, r⟩ _ m => by
    subst ef
    exact ⟨rfl, W.frame i _ _ st fun b hb o e => m.heap b o (fun ⟨h1, h2⟩ => by
        rcases hfp b hb with h | ⟨h3, h4⟩
        · exact h1 h
        · exact h2.elim h4 fun h => by rw [h] at h3; cases h3) e,
      hR _ _ r fun b o n e => m.heap b o (fun ⟨_, h⟩ => n (h.elim .inl fun h => .inr (.inr h))) e⟩
  item := fun f i d s Q E hd ⟨ef, st, r⟩ hQ => by
    subst ef
    have hi : i < ds.length := by
      rcases Nat.lt_or_ge i ds.length with h | h
      · exact h
      · rw [List.getElem?_eq_none h] at hd; cases hd
    refine wpAny_with_toks (n := s.toks) (Nat.le_refl _) (W.item i s _ _ hi st fun v h' tk hv st' hk ht => ?_)
    have r' := hR _ _ r fun b o n e => hk b o (fun h => n (.inr (.inl h))) e
    exact hQ v _ (· ∈ wrl) (fun _ h => h) (fun _ h => .inl h) (fun Y _ hY ht => Rep.sub (X := ⟨fun b => X.off b ∨ b ∈ wrl ∨ H.get? b = none, X.tok⟩) (X' := ⟨fun b => Y.off b ∨ b ∈ wrl, Y.tok⟩) (fun b h => h.elim (hY b) fun h => .inr (.inl h)) ht (hP h' i v d r' hv hd)) ⟨rfl, st', r'⟩ ⟨fun b o n e => hk b o n e, fun _ _ _ e => e, _root_.id, rfl, ht⟩
  done := fun f s Q E ⟨ef, st, _⟩ hQ => by
    subst ef
    exact wpAny_with_toks (n := s.toks) (Nat.le_refl _) (W.done s _ _ st fun h' tk hk ht => hQ _ ⟨fun b o n e => hk b o n e, fun _ _ _ e => e, _root_.id, rfl, ht⟩)
  self := fun f i s Q E ⟨_, st, _⟩ hQ => W.self i s Q E st hQ
  go := fun f i s target v Q E ⟨_, st, _⟩ hQ => by
    obtain ⟨o, T, ho, hc, hT⟩ := hgo i _ st
    exact go_plain ho hc hT hQ
end
end Mine

namespace Mine
open PySem PySem.W PyProof.Rows

/-- the names that a block holds itself: locals and own cells -/
structure Loc (env : Env) (oc : List (Str × Addr)) (h : Heap) (μ : Str → Option Value) : Prop where
  ns : ∃ m, h.Ns env.locals m ∧ ∀ x, env.kindOf x = some .local → m x = μ x
  cell : ∀ x c, (x, c) ∈ oc → h.IsCell c (μ x)
  apart : oc.Pairwise fun p q => p.2 ≠ q.2
  off : ∀ p ∈ oc, p.2 ≠ env.locals
  look : ∀ p ∈ oc, env.cells.lookup p.1 = some p.2
  kind : ∀ p ∈ oc, env.kindOf p.1 = some .cell
/-- where they stand -/
noncomputable def locs (env : Env) (oc : List (Str × Addr)) (b : Addr) : Prop := b = env.locals ∨ ∃ x, (x, b) ∈ oc
/-- a name that may be stored -/
noncomputable def storable (env : Env) (oc : List (Str × Addr)) (x : Str) : Prop := env.kindOf x = some .local ∨ (env.kindOf x = some .cell ∧ ∃ c, (x, c) ∈ oc)
noncomputable def upd (μ : Str → Option Value) (x : Str) (v : Value) : Str → Option Value := fun y => if y = x then some v else μ y
noncomputable def upds (μ : Str → Option Value) : List Str → List Value → Str → Option Value
  | x :: xs, v :: vs => upds (upd μ x v) xs vs
  | _, _ => μ

theorem Loc.keep {env : Env} {oc : List (Str × Addr)} {h h' : Heap} {μ : Str → Option Value} (l : Loc env oc h μ) (hk : ∀ b o, locs env oc b → h.get? b = some o → h'.get? b = some o) : Loc env oc h' μ :=
  ⟨let ⟨m, n, e⟩ := l.ns; ⟨m, n.at' fun o eo => hk _ o (.inl rfl) eo, e⟩, fun x c hc => let ⟨o, ho, hd⟩ := l.cell x c hc; ⟨o, hk _ o (.inr ⟨x, hc⟩) ho, hd⟩, l.apart, l.off, l.look, l.kind⟩
theorem Loc.live {env : Env} {oc : List (Str × Addr)} {h : Heap} {μ : Str → Option Value} (l : Loc env oc h μ) {b : Addr} (hb : locs env oc b) : (h.get? b).isSome = true := by
  rcases hb with rfl | ⟨x, hb⟩
  · obtain ⟨m, ⟨o, _, _, e, _⟩, _⟩ := l.ns
    rw [e]; rfl
  · obtain ⟨o, e, _⟩ := l.cell x b hb
    rw [e]; rfl
theorem pair_same {oc : List (Str × Addr)} (ha : oc.Pairwise fun p q => p.2 ≠ q.2) {x y : Str} {c : Addr} (h1 : (x, c) ∈ oc) (h2 : (y, c) ∈ oc) : x = y := name_of_addr ha h1 h2

section
variable {prog : Program} {w : World} {A : Around} {env : Env} {oc : List (Str × Addr)}

theorem mv_one {F : Addr → Prop} {s : Shared} {h' : Heap} {a : Addr} {tk : Nat} (hs : Heap.SameBut a s.heap h') (hF : F a) (ht : s.toks ≤ tk) : Mv F noG s { s with heap := h', toks := tk } :=
  ⟨fun b o n e => hs.extBut b o (fun h => n (h ▸ hF)) e, fun _ _ _ e => e, _root_.id, rfl, ht⟩

theorem Loc.store {s : Shared} {μ : Str → Option Value} {x : Str} {v : Value} {Q : Unit → Shared → Prop} {E : Value → Shared → Prop} (hk : env.scope.kind = .function) (l : Loc env oc s.heap μ) (hx : storable env oc x)
    (h : ∀ s', Loc env oc s'.heap (upd μ x v) → Mv (locs env oc) noG s s' → (env.kindOf x = some .local → s'.toks = s.toks + 1) → Q () s') : wpAny (model prog w) A (storeName env x v) Q E s := by
  rcases hx with hx | ⟨hx, c, hc⟩
  · obtain ⟨m, n, e⟩ := l.ns
    refine wpAny_storeName_local hx n (fun h' hn hs => h _ ⟨⟨_, hn, fun y hy => ?_⟩, fun y c hc => ?_, l.apart, l.off, l.look, l.kind⟩ (mv_one hs (.inl rfl) (Nat.le_succ _)) fun _ => rfl) (by rw [hk]; rfl)
    · unfold upd
      split
      · rfl
      · exact e y hy
    · have hne : c ≠ env.locals := l.off _ hc
      have hyx : y ≠ x := by
        rintro rfl
        rw [l.kind _ hc] at hx; cases hx
      have := (l.cell y c hc).sameBut hs hne
      unfold upd
      rw [if_neg hyx]; exact this
  · refine wpAny_storeName_cell hk hx (l.look _ hc) (l.cell x c hc) fun h' hv hs => h _ ⟨?_, fun y c' hc' => ?_, l.apart, l.off, l.look, l.kind⟩ (mv_one hs (.inr ⟨x, hc⟩) (Nat.le_refl _)) fun e => by rw [hx] at e; cases e
    · obtain ⟨m, n, e⟩ := l.ns
      refine ⟨m, n.sameBut hs fun e => l.off _ hc e.symm, fun y hy => ?_⟩
      have hyx : y ≠ x := by rintro rfl; rw [hx] at hy; cases hy
      unfold upd
      rw [if_neg hyx]; exact e y hy
    · unfold upd
      split
      · rename_i hyx
        subst hyx
        have e1 := l.look _ hc
        have e2 := l.look _ hc'
        have : c' = c := Option.some.inj (e2.symm.trans e1)
        subst this
        exact hv
      · rename_i hyx
        have hcc : c' ≠ c := fun e => hyx (pair_same l.apart hc' (e ▸ hc))
        exact (l.cell y c' hc').sameBut hs hcc

inductive TgtL : List Expr → List Str → Prop
  | nil : TgtL [] []
  | cons {x : Str} {p : Pos} {es : List Expr} {xs : List Str} : TgtL es xs → TgtL (.Name x p :: es) (x :: xs)
/-- a loop's target: a name, or a tuple of names -/
inductive Tgt : Expr → Nat → List Str → Prop
  | name {x : Str} {p : Pos} : Tgt (.Name x p) 0 [x]
  | tup {es : List Expr} {xs : List Str} {kd : Nat} {p : Pos} {n : Nat} : TgtL es xs → xs.length = n + 1 → Tgt (.Tuple es kd p) (n + 1) xs
theorem TgtL.len {es : List Expr} {xs : List Str} (t : TgtL es xs) : es.length = xs.length ∧ (assignEach es env).length = xs.length ∧ (assignEach es env).findIdx? (·.1) = none := by
  induction t with
  | nil => exact ⟨rfl, rfl, rfl⟩
  | cons _ ih => exact ⟨by simp [ih.1], by simp [assignEach, ih.2.1], by simp [assignEach, List.findIdx?_cons, ih.2.2]⟩
theorem assign_list {es : List Expr} {xs : List Str} (t : TgtL es xs) (hk : env.scope.kind = .function) (hx : ∀ x ∈ xs, storable env oc x) :
    ∀ {vs : List Value} {s : Shared} {μ : Str → Option Value} {Q : Unit → Shared → Prop} {E : Value → Shared → Prop}, vs.length = xs.length → Loc env oc s.heap μ →
      (∀ s', Loc env oc s'.heap (upds μ xs vs) → Mv (locs env oc) noG s s' → Q () s') → wpAny (model prog w) A (assignInOrder ((assignEach es env).map (·.2)) vs) Q E s := by
  induction t with
  | nil =>
    intro vs s μ Q E hl l h
    cases vs with
    | nil => exact wpAny_pure (h s l (Ext.refl s).mv)
    | cons v vs => simp at hl
  | @cons x p es xs t ih =>
    intro vs s μ Q E hl l h
    cases vs with
    | nil => simp at hl
    | cons v vs =>
      show wpAny _ _ (do holding vs (assign (.Name x p) env v); assignInOrder ((assignEach es env).map (·.2)) vs) _ _ _
      refine wpAny_bind (wpAny_holding (wpAny_assign_Name (l.store hk (hx x (.head _)) fun s1 l1 m1 _ => ?_)))
      exact ih (fun y hy => hx y (.tail _ hy)) (by simpa using hl) l1 fun s2 l2 m2 => h s2 l2 (m1.trans m2)
theorem assign_tgt {s : Shared} {μ : Str → Option Value} {target : Expr} {n : Nat} {xs : List Str} {v : Value} {d : Dv} {bs : List Dv} {Y : Bd} {Q : Unit → Shared → Prop} {E : Value → Shared → Prop} (t : Tgt target n xs) (hh : A.handled = none)
    (hk : env.scope.kind = .function) (hx : ∀ x ∈ xs, storable env oc x) (hb : bindT n d = some bs) (hY : ∀ b, locs env oc b → Y.off b) (r : Rep s.heap Y v d) (l : Loc env oc s.heap μ)
    (h : ∀ s' vs, Loc env oc s'.heap (upds μ xs vs) → Reps s'.heap Y vs bs → vs.length = xs.length → Mv (locs env oc) noG s s' → Q () s') : wpAny (model prog w) A (assign target env v) Q E s := by
  cases t with
  | name =>
    cases hb
    refine wpAny_assign_Name (l.store hk (hx _ (.head _)) fun s1 l1 m1 _ => h s1 [v] l1 (.cons (m1.rep hY r) .nil) rfl m1)
  | @tup es xs kd p n t hl =>
    cases d with
    | tuple ds =>
      simp only [bindT] at hb
      split at hb
      · rename_i hd
        cases hb
        obtain ⟨a, vs, m, rfl, ea, na, qa⟩ := r.tuple_inv
        have hvs := qa.length
        obtain ⟨l1, l2, l3⟩ := t.len (env := env)
        refine wpAny_assign_Tuple hh ⟨_, ea, rfl, m, rfl⟩ (by rw [l2, List.size_toArray]; omega) l3 fun h' he => ?_
        have hk' : ∀ b o, s.heap.get? b = some o → h'.get? b = some o := fun b o e => he b o (Nat.ne_of_lt (Heap.lt_size e)) e
        have x1 : Ext s { s with heap := h' } := .heap' (t := s.toks) hk' (Nat.le_refl _)
        refine assign_list t hk hx (by show vs.length = _; omega) (l.keep fun b o _ e => hk' b o e) fun s' l' m' => ?_
        exact h s' vs l' (m'.reps hY (qa.ext x1)) (by omega) (x1.mv.trans m')
      · cases hb
    | _ => cases hb
end
end Mine

namespace Mine
open PySem PySem.W PyProof.Rows

theorem cells_app : ∀ (names : List (Str × NameKind)) (n : Nat) (acc : List (Str × Addr)), cellsFrom n names acc = cellsFrom n names [] ++ acc
  | [], _, _ => rfl
  | (x, kd) :: r, n, acc => by
    unfold cellsFrom
    split
    · rw [cells_app r (n + 1) ((x, n) :: acc), cells_app r (n + 1) [(x, n)]]; simp
    · exact cells_app r n acc
theorem cells_mem : ∀ (names : List (Str × NameKind)) (n : Nat) (x : Str) (c : Addr), (x, c) ∈ cellsFrom n names [] → (x, NameKind.cell) ∈ names
  | [], _, _, _, h => by simp [cellsFrom] at h
  | (y, kd) :: r, n, x, c, h => by
    unfold cellsFrom at h
    split at h
    · rename_i hk
      rw [cells_app] at h
      rcases List.mem_append.mp h with h | h
      · exact .tail _ (cells_mem r _ x c h)
      · simp at h
        obtain ⟨rfl, _⟩ := h
        have : kd = .cell := by simpa using hk
        rw [this]; exact .head _
    · exact .tail _ (cells_mem r _ x c h)
theorem cells_has : ∀ (names : List (Str × NameKind)) (n : Nat) (x : Str), (x, NameKind.cell) ∈ names → ∃ c, (x, c) ∈ cellsFrom n names []
  | [], _, _, h => by simp at h
  | (y, kd) :: r, n, x, h => by
    unfold cellsFrom
    rcases List.mem_cons.mp h with h | h
    · cases h
      rw [if_pos (by rfl), cells_app]
      exact ⟨n, List.mem_append.mpr (.inr (.head _))⟩
    · split
      · rw [cells_app]
        obtain ⟨c, hc⟩ := cells_has r (n + 1) x h
        exact ⟨c, List.mem_append.mpr (.inl hc)⟩
      · exact cells_has r n x h
/-- each name once -/
noncomputable def once : List (Str × NameKind) → Prop := fun l => (l.map (·.1)).Nodup
theorem once_lookup {l : List (Str × NameKind)} (h : once l) {x : Str} {kd : NameKind} (hm : (x, kd) ∈ l) : l.lookup x = some kd := by
  induction l with
  | nil => simp at hm
  | cons p l ih =>
    obtain ⟨y, kd'⟩ := p
    simp only [once, List.map_cons, List.nodup_cons] at h
    rw [List.lookup_cons]
    rcases List.mem_cons.mp hm with e | hm
    · cases e; simp
    · have : (x == y) = false := by
        rw [beq_eq_false_iff_ne]
        intro e
        exact h.1 (List.mem_map.mpr ⟨(x, _), hm, e⟩)
      rw [this]
      exact ih h.2 hm
theorem lookup_mem {α : Type} : ∀ {l : List (Str × α)} {x : Str} {c : α}, l.lookup x = some c → (x, c) ∈ l := fun h => mem_of_lookup h
theorem lookup_pair {oc : List (Str × Addr)} (h : (oc.map (·.1)).Nodup) {x : Str} {c : Addr} (hm : (x, c) ∈ oc) : oc.lookup x = some c := by
  induction oc with
  | nil => simp at hm
  | cons p l ih =>
    obtain ⟨y, c'⟩ := p
    simp only [List.map_cons, List.nodup_cons] at h
    rw [List.lookup_cons]
    rcases List.mem_cons.mp hm with e | hm
    · cases e; simp
    · have : (x == y) = false := by
        rw [beq_eq_false_iff_ne]
        intro e
        exact h.1 (List.mem_map.mpr ⟨(x, _), hm, e⟩)
      rw [this]
      exact ih h.2 hm
theorem cells_once : ∀ (names : List (Str × NameKind)) (n : Nat), once names → ((cellsFrom n names []).map (·.1)).Nodup
  | [], _, _ => by simp [cellsFrom]
  | (y, kd) :: r, n, h => by
    simp only [once, List.map_cons, List.nodup_cons] at h
    unfold cellsFrom
    split
    · rw [cells_app, List.map_append, List.nodup_append]
      refine ⟨cells_once r _ h.2, by simp, ?_⟩
      intro a ha b hb
      simp at hb
      subst hb
      rintro rfl
      obtain ⟨p, hp, rfl⟩ := List.mem_map.mp ha
      exact h.1 (List.mem_map.mpr ⟨_, cells_mem r _ _ _ hp, rfl⟩)
    · exact cells_once r n h.2
theorem lookup_none_app {α : Type} {l r : List (Str × α)} {x : Str} (h : ∀ c, (x, c) ∉ l) : (l ++ r).lookup x = r.lookup x := by
  induction l with
  | nil => rfl
  | cons p l ih =>
    obtain ⟨y, c⟩ := p
    rw [List.cons_append, List.lookup_cons]
    have : (x == y) = false := by
      rw [beq_eq_false_iff_ne]
      rintro rfl
      exact h c (.head _)
    rw [this]
    exact ih fun c hc => h c (.tail _ hc)

/-- a block's environment -/
structure EnvK (env : Env) : Prop where
  kind : env.scope.kind = .function
  once : once env.scope.names
  cells : ∀ x, env.kindOf x = some .cell ∨ env.kindOf x = some .free → (env.cells.lookup x).isSome = true

/-- what a comprehension's block closes over -/
noncomputable def closOf (env : Env) : List (Str × NameKind) → List (Str × Addr) → List (Str × Addr)
  | [], acc => acc
  | (x, kd) :: r, acc => if kd == .free then closOf env r ((x, (env.cells.lookup x).getD 0) :: acc) else closOf env r acc
theorem closOf_app (env : Env) : ∀ (l : List (Str × NameKind)) (acc : List (Str × Addr)), closOf env l acc = closOf env l [] ++ acc
  | [], _ => rfl
  | (x, kd) :: r, acc => by
    unfold closOf
    split
    · rw [closOf_app env r (_ :: acc), closOf_app env r [_]]; simp
    · exact closOf_app env r acc
theorem closOf_mem (env : Env) : ∀ (l : List (Str × NameKind)) (x : Str) (c : Addr), (x, c) ∈ closOf env l [] → (x, NameKind.free) ∈ l ∧ c = (env.cells.lookup x).getD 0
  | [], _, _, h => by simp [closOf] at h
  | (y, kd) :: r, x, c, h => by
    unfold closOf at h
    split at h
    · rename_i hk
      rw [closOf_app] at h
      rcases List.mem_append.mp h with h | h
      · have := closOf_mem env r x c h
        exact ⟨.tail _ this.1, this.2⟩
      · simp at h
        obtain ⟨rfl, rfl⟩ := h
        have : kd = .free := by simpa using hk
        rw [this]; exact ⟨.head _, rfl⟩
    · have := closOf_mem env r x c h
      exact ⟨.tail _ this.1, this.2⟩
theorem closOf_has (env : Env) : ∀ (l : List (Str × NameKind)) (x : Str), (x, NameKind.free) ∈ l → ∃ c, (x, c) ∈ closOf env l []
  | [], _, h => by simp at h
  | (y, kd) :: r, x, h => by
    unfold closOf
    rcases List.mem_cons.mp h with h | h
    · cases h
      rw [if_pos (by rfl), closOf_app]
      exact ⟨_, List.mem_append.mpr (.inr (.head _))⟩
    · split
      · rw [closOf_app]
        obtain ⟨c, hc⟩ := closOf_has env r x h
        exact ⟨c, List.mem_append.mpr (.inl hc)⟩
      · exact closOf_has env r x h
theorem lookup_of_all {α : Type} : ∀ {l : List (Str × α)} {x : Str} {c : α}, (∃ d, (x, d) ∈ l) → (∀ d, (x, d) ∈ l → d = c) → l.lookup x = some c
  | [], _, _, ⟨_, h⟩, _ => by simp at h
  | (y, d) :: l, x, c, h, ha => by
    rw [List.lookup_cons]
    cases hb : x == y with
    | true =>
      have : x = y := by simpa using hb
      subst this
      rw [ha d (.head _)]
    | false =>
      have hne : x ≠ y := by simpa using hb
      refine lookup_of_all ?_ fun d' hd => ha d' (.tail _ hd)
      obtain ⟨d', hd⟩ := h
      rcases List.mem_cons.mp hd with e | hd
      · cases e; exact absurd rfl hne
      · exact ⟨d', hd⟩
theorem closOf_lookup (env : Env) {l : List (Str × NameKind)} {x : Str} (h : (x, NameKind.free) ∈ l) : (closOf env l []).lookup x = some ((env.cells.lookup x).getD 0) :=
  lookup_of_all (closOf_has env l x h) fun d hd => (closOf_mem env l x d hd).2
theorem closureFor_is {scope : Scope} {env : Env} (h : ∀ x, (x, NameKind.free) ∈ scope.names → (env.cells.lookup x).isSome = true) : closureFor scope env = pure (closOf env scope.names []) := by
  have key : ∀ (l : List (Str × NameKind)) (acc : List (Str × Addr)), (∀ x, (x, NameKind.free) ∈ l → (env.cells.lookup x).isSome = true) →
      (forIn l acc (fun (p : Str × NameKind) cs => do if p.2 == .free then do let c ← cellOf env p.1; pure (ForInStep.yield ((p.1, c) :: cs)) else pure (ForInStep.yield cs)) : Sem (List (Str × Addr))) = pure (closOf env l acc) := by
    intro l
    induction l with
    | nil => intro acc _; rfl
    | cons p l ih =>
      intro acc h
      obtain ⟨y, kd⟩ := p
      rw [List.forIn_cons]
      unfold closOf
      by_cases hk : (kd == NameKind.free) = true
      · have hkd : kd = .free := by simpa using hk
        subst hkd
        obtain ⟨c, hc⟩ := Option.isSome_iff_exists.mp (h y (.head _))
        have e : cellOf env y = pure c := by unfold cellOf; rw [hc]
        simp only [hk, if_true, e, hc, Option.getD_some]
        exact ih _ fun x hx => h x (.tail _ hx)
      · simp only [hk, if_false]
        exact ih _ fun x hx => h x (.tail _ hx)
  have := key scope.names [] h
  unfold closureFor
  refine Eq.trans ?_ (congrArg (fun t => t >>= pure) this)
  simp
end Mine

namespace Mine
open PySem PySem.W PyProof.Rows

/-- a comprehension's block -/
noncomputable def compE (scope : Scope) (env : Env) (C : Addr) : Env :=
  { scope := relabel scope env, locals := C, globals := env.globals, cells := cellsFrom (C + 1) scope.names (closOf env scope.names []), qual := env.qual, func := none, code := env.code, frame := env.frame, builtins := env.builtins }
noncomputable def ownC (scope : Scope) (C : Addr) : List (Str × Addr) := cellsFrom (C + 1) scope.names []
noncomputable def relab (env : Env) (p : Str × NameKind) : Str × NameKind := if (p.2 == .free && env.scope.kind == .function && env.kindOf p.1 == some .cell) then (p.1, .cell) else (p.1, p.2)
theorem relab_fst (env : Env) (p : Str × NameKind) : (relab env p).1 = p.1 := by unfold relab; split <;> rfl
theorem once_relab {l : List (Str × NameKind)} {env : Env} (h : once l) : once (l.map (relab env)) := by
  unfold once at h ⊢
  rw [List.map_map]
  have : ((fun p : Str × NameKind => p.1) ∘ relab env) = fun p => p.1 := funext fun p => relab_fst env p
  rw [this]; exact h
section
variable {scope : Scope} {env : Env} {C : Addr}
theorem comp_kind (h : once scope.names) {x : Str} {kd : NameKind} (hm : (x, kd) ∈ scope.names) (hk : kd ≠ .free) : (compE scope env C).kindOf x = some kd := by
  refine once_lookup (once_relab h) (List.mem_map.mpr ⟨(x, kd), hm, ?_⟩)
  unfold relab
  rw [if_neg]
  simp [hk]
theorem comp_free (h : once scope.names) {x : Str} (hm : (x, NameKind.free) ∈ scope.names) : (compE scope env C).kindOf x = some .cell ∨ (compE scope env C).kindOf x = some .free := by
  have : ∃ kd, relab env (x, .free) = (x, kd) ∧ (kd = .cell ∨ kd = .free) := by
    unfold relab
    split
    · exact ⟨_, rfl, .inl rfl⟩
    · exact ⟨_, rfl, .inr rfl⟩
  obtain ⟨kd, e, hk⟩ := this
  have := once_lookup (once_relab (env := env) h) (List.mem_map.mpr ⟨(x, .free), hm, e⟩)
  rcases hk with rfl | rfl
  · exact .inl this
  · exact .inr this
theorem comp_cells : (compE scope env C).cells = ownC scope C ++ closOf env scope.names [] := cells_app _ _ _
theorem comp_look_own (h : once scope.names) {x : Str} {c : Addr} (hm : (x, c) ∈ ownC scope C) : (compE scope env C).cells.lookup x = some c := by
  rw [comp_cells]
  have := lookup_pair (cells_once scope.names (C + 1) h) hm
  have key : ∀ (l r : List (Str × Addr)), l.lookup x = some c → (l ++ r).lookup x = some c := by
    intro l r
    induction l with
    | nil => intro e; simp at e
    | cons p l ih =>
      obtain ⟨y, d⟩ := p
      rw [List.cons_append, List.lookup_cons, List.lookup_cons]
      cases x == y
      · exact ih
      · exact fun e => e
  exact key _ _ this
theorem comp_look_free (h : once scope.names) {x : Str} (hm : (x, NameKind.free) ∈ scope.names) : (compE scope env C).cells.lookup x = some ((env.cells.lookup x).getD 0) := by
  rw [comp_cells, lookup_none_app]
  · exact closOf_lookup env hm
  · intro c hc
    have h1 := cells_mem _ _ _ _ hc
    have e1 := once_lookup h h1
    have e2 := once_lookup h hm
    rw [e1] at e2; cases e2
theorem comp_envK (h : once scope.names) (hk : scope.kind = .function) : EnvK (compE scope env C) := by
  refine ⟨hk, once_relab h, fun x hx => ?_⟩
  have hm : ∃ kd, (x, kd) ∈ scope.names.map (relab env) ∧ (kd = .cell ∨ kd = .free) := by
    rcases hx with hx | hx
    · exact ⟨_, lookup_mem hx, .inl rfl⟩
    · exact ⟨_, lookup_mem hx, .inr rfl⟩
  obtain ⟨kd, hm, hkd⟩ := hm
  obtain ⟨p, hp, e⟩ := List.mem_map.mp hm
  obtain ⟨y, kd'⟩ := p
  have hy : y = x := by have := congrArg Prod.fst e; rw [relab_fst] at this; exact this
  subst hy
  by_cases hf : kd' = .free
  · subst hf
    rw [comp_look_free h hp]; rfl
  · have : kd' = kd := by
      unfold relab at e
      rw [if_neg (by simp [hf])] at e
      exact congrArg Prod.snd e
    subst this
    rcases hkd with rfl | rfl
    · obtain ⟨c, hc⟩ := cells_has scope.names (C + 1) y hp
      rw [comp_look_own h hc]; rfl
    · exact absurd rfl hf
end

section
variable {prog : Program} {w : World} {A : Around} {env : Env}

theorem new_comp {scope : Scope} {s : Shared} {Q : Env → Shared → Prop} {E : Value → Shared → Prop}
    (h : Q { compE scope env s.heap.objs.size with scope := scope } { s with heap := pushCells (s.heap.push { cls := .type "dict", data := .dict #[] }) scope.names }) :
    wpAny (model prog w) A (newFunctionEnv scope env.globals (closOf env scope.names []) [] env.qual none .none (some env)) Q E s := by
  simp only [newFunctionEnv, Option.isSome_some, if_true]
  refine wpAny_bind (wpAny_alloc ?_)
  refine wpAny_bind (wpAny_layCells _ (fun name kind cells => by cases hkc : kind == NameKind.cell <;> simp [hkc]) _ _ _ _ ?_)
  refine wpAny_bind ?_
  rw [List.forIn_nil]
  refine wpAny_pure (wpAny_pure ?_)
  rw [show ({ s with heap := s.heap.push { cls := .type "dict", data := .dict #[] } } : Shared).heap.objs.size = s.heap.objs.size + 1 from Heap.size_push ..]
  exact h

theorem comp_loc {scope : Scope} {h : Heap} (ho : once scope.names) : Loc (compE scope env h.objs.size) (ownC scope h.objs.size) (pushCells (h.push { cls := .type "dict", data := .dict #[] }) scope.names) (fun _ => none) := by
  have ok := cellsFrom_ok scope.names (h.push { cls := .type "dict", data := .dict #[] }) (h.objs.size + 1) [] ⟨fun _ _ hm => (nomatch hm), List.Pairwise.nil⟩ (by rw [Heap.size_push]; exact Nat.le_refl _)
  rw [Heap.size_push] at ok
  refine ⟨⟨_, (Heap.Ns.new h (.type "dict")).keeps (pushCells_keeps _ _), fun _ _ => rfl⟩, fun x c hc => (ok.empty x c hc).1, ok.apart, fun p hp => ?_, fun p hp => comp_look_own ho hp, fun p hp => comp_kind ho (cells_mem _ _ _ _ hp) (by decide)⟩
  have := (ok.empty p.1 p.2 hp).2
  exact Nat.ne_of_gt this

theorem compLoop_any {R : Result → Shared → Prop} {elt target iter : Expr} {ifs : List Expr} {scope : Scope} {pos : Pos} {it acc : Value} {s : Shared} (I : Nat → Shared → Prop)
    (turn : ∀ n s, I n s → wpAny (model prog w) A (pyNext it) (fun r s₁ => match r with
      | none => R (.ok .next) s₁
      | some v => wpAny (model prog w) A (letOwnedTupleGo target it v) (fun _ s₁' => wpAny (model prog w) A (assign target env v) (fun _ s₂ =>
          wpAny (model prog w) A (forIn ifs true fun c r => if r = true then do let ok ← isTrue c env (eval c env); pure (ForInStep.yield ok) else pure (ForInStep.yield r)) (fun ok s₃ =>
            if ok = true then wpAny (model prog w) A (eval elt env) (fun x s₄ =>
              wpAny (model prog w) A (call (.builtin "list.append") [acc, x]) (fun _ s₅ => ∃ m, m < n ∧ I m s₅) (fun _ _ => False) s₄) (fun _ _ => False) s₃
            else ∃ m, m < n ∧ I m s₃) (fun _ _ => False) s₂) (fun _ _ => False) s₁') (fun _ _ => False) s₁) (fun _ _ => False) s)
    (n : Nat) (h : I n s) : codeAny (model prog w) A (.compLoop (.ListComp elt [⟨target, iter, ifs, 0⟩] scope pos) 0 it acc env) R s := by
  refine codeAny_loop rfl I (fun n s hI => ?_) n h
  show wpAny _ A ((compTurn (.ListComp elt [⟨target, iter, ifs, 0⟩] scope pos) 0 it acc env).onRaise (fun x => do noteFrame x env; theTreesLotGoes x)) _ _ s
  refine wpAny_noted ?_
  rw [compTurn_list]
  refine wpAny_bind (wpAny_standAt (wpAny_bind (wpAny_mono (turn n s hI) (fun r s₁ h₁ => ?_) fun _ _ h' => h'.elim)))
  cases r with
  | none => exact wpAny_pure h₁
  | some v =>
    refine wpAny_bind (wpAny_mono h₁ (fun _ s₁' h₁' => ?_) fun _ _ h' => h'.elim)
    refine wpAny_bind (wpAny_mono h₁' (fun _ s₂ h₂ => wpAny_bind (wpAny_mono h₂ (fun ok s₃ h₃ => ?_) fun _ _ h' => h'.elim)) fun _ _ h' => h'.elim)
    cases ok with
    | false => exact wpAny_pure ⟨rfl, h₃⟩
    | true =>
      exact wpAny_bind (wpAny_bind (wpAny_mono h₃ (fun x s₄ h₄ => wpAny_bind (wpAny_mono h₄ (fun _ s₅ h₅ => wpAny_pure (wpAny_pure ⟨rfl, h₅⟩)) fun _ _ h' => h'.elim)) fun _ _ h' => h'.elim))
end
end Mine

namespace Mine
open PySem PySem.W PyProof.Rows

theorem upds_other : ∀ (xs : List Str) (vs : List Value) (μ : Str → Option Value) (x : Str), x ∉ xs → upds μ xs vs x = μ x
  | [], _, _, _, _ => by unfold upds; rfl
  | y :: xs, [], _, _, _ => by unfold upds; rfl
  | y :: xs, v :: vs, μ, x, h => by
    unfold upds
    rw [upds_other xs vs _ x fun h' => h (.tail _ h')]
    unfold upd
    have hne : ¬ x = y := fun e => h (by rw [e]; exact .head _)
    rw [if_neg hne]
theorem upds_get : ∀ (xs : List Str) (vs : List Value) (μ : Str → Option Value) (j : Nat) (x : Str) (v : Value), xs.Nodup → xs[j]? = some x → vs[j]? = some v → upds μ xs vs x = some v
  | [], _, _, _, _, _, _, h, _ => by simp at h
  | y :: xs, [], _, _, _, _, _, _, h => by simp at h
  | y :: xs, u :: vs, μ, j, x, v, hn, h1, h2 => by
    rw [List.nodup_cons] at hn
    unfold upds
    cases j with
    | zero =>
      simp at h1 h2
      subst h1 h2
      rw [upds_other xs vs _ y hn.1]
      simp [upd]
    | succ j =>
      simp only [List.getElem?_cons_succ] at h1 h2
      exact upds_get xs vs _ j x v hn.2 h1 h2

section
variable {env : Env} {scope : Scope} {ns xs : List Str}

theorem comp_vars {s0 s : Shared} {X Y : Bd} {ρ : List En} {C : Addr} {μ : Str → Option Value} {vs : List Value} {bs : List Dv} (V : Vars env s0 X ns ρ) (x : Ext s0 s) (h : once scope.names)
    (hsep : ∀ y ∈ ns, ∀ kd, (y, kd) ∈ scope.names → kd ≠ .local ∧ kd ≠ .cell) (hfree : ∀ y, (y, NameKind.free) ∈ scope.names → env.kindOf y = some .cell ∨ env.kindOf y = some .free)
    (hxs : ∀ y ∈ xs, (y, NameKind.local) ∈ scope.names ∨ (y, NameKind.cell) ∈ scope.names) (hnd : xs.Nodup) (hY : ∀ b, Y.off b → X.off b ∨ s0.heap.get? b = none) (hYt : X.tok ≤ Y.tok)
    (l : Loc (compE scope env C) (ownC scope C) s.heap (upds μ xs vs)) (r : Reps s.heap Y vs bs) (hl : vs.length = xs.length) :
    Vars (compE scope env C) s Y (ns ++ xs) (ρ ++ bs.map .val) := by
  refine ⟨by rw [List.length_append, List.length_append, V.len, List.length_map, ← r.length, hl], fun i y e h1 h2 hc => ?_⟩
  have old : ∀ b o, ¬ X.off b → s0.heap.get? b = some o → s.heap.get? b = some o ∧ ¬ Y.off b := fun b o n e => ⟨x.heap b o e, fun hy => (hY b hy).elim n fun h => by rw [h] at e; cases e⟩
  by_cases hi : i < ns.length
  · rw [List.getElem?_append_left hi] at h1
    rw [List.getElem?_append_left (by rw [← V.len]; exact hi)] at h2
    have hy : y ∈ ns := List.mem_of_getElem? h1
    have hm : ∃ kd, (y, kd) ∈ scope.names.map (relab env) ∧ (kd = .local ∨ kd = .cell ∨ kd = .free) := by
      rcases hc with hc | hc | hc
      · exact ⟨_, lookup_mem hc, .inl rfl⟩
      · exact ⟨_, lookup_mem hc, .inr (.inl rfl)⟩
      · exact ⟨_, lookup_mem hc, .inr (.inr rfl)⟩
    obtain ⟨kd, hm, hkd⟩ := hm
    obtain ⟨p, hp, e'⟩ := List.mem_map.mp hm
    obtain ⟨z, kd'⟩ := p
    have hz : z = y := by have := congrArg Prod.fst e'; rw [relab_fst] at this; exact this
    subst hz
    have hk' := hsep z hy kd' hp
    have hkf : kd' = .free := by
      by_cases hf : kd' = .free
      · exact hf
      · exfalso
        have : kd' = kd := by
          unfold relab at e'
          rw [if_neg (by simp [hf])] at e'
          exact congrArg Prod.snd e'
        subst this
        rcases hkd with rfl | rfl | rfl
        · exact hk'.1 rfl
        · exact hk'.2 rfl
        · exact hf rfl
    subst hkf
    have ek := hfree z hp
    have cv : canVar env z := ek.elim (fun h => .inr (.inl h)) fun h => .inr (.inr h)
    have tr : ∀ v, VarIs env s0 z v → VarIs (compE scope env C) s z v := fun v hv => by
      rcases hv with ⟨kl, _⟩ | ⟨_, c, lc, ic⟩
      · rcases ek with e1 | e1 <;> (rw [kl] at e1; cases e1)
      · refine .inr ⟨comp_free h hp, c, ?_, ic.keeps x.heap⟩
        rw [comp_look_free h hp, lc]; rfl
    have g := V.get i z e h1 h2 cv
    cases e with
    | no => trivial
    | val d => obtain ⟨v, a, b⟩ := g; exact ⟨v, tr v a, b.mono old hYt⟩
    | own ds => obtain ⟨a, us, n, p, q, r⟩ := g; exact ⟨a, us, n, tr _ p, x.heap _ _ q, r.mono old hYt⟩
  · rw [List.getElem?_append_right (by omega)] at h1
    rw [List.getElem?_append_right (by rw [← V.len]; omega), ← V.len] at h2
    rw [List.getElem?_map, Option.map_eq_some_iff] at h2
    obtain ⟨d, hd, rfl⟩ := h2
    obtain ⟨v, hv, rd⟩ := r.get hd
    refine ⟨v, ?_, rd⟩
    have hu := upds_get xs vs μ _ y v hnd h1 hv
    rcases hxs y (List.mem_of_getElem? h1) with hm | hm
    · obtain ⟨m, n, e⟩ := l.ns
      have hk := comp_kind (C := C) (env := env) h hm (by decide)
      exact .inl ⟨hk, m, n, (e y hk).trans hu⟩
    · have hk := comp_kind (C := C) (env := env) h hm (by decide)
      obtain ⟨c, hc⟩ := cells_has scope.names (C + 1) y hm
      refine .inr ⟨.inl hk, c, comp_look_own h hc, ?_⟩
      have := l.cell y c hc
      rw [hu] at this; exact this
end

section
variable {prog : Program} {w : World} {h₀ : B0} {Φ : Nat → List Dv → Option Dv} {ns xs : List Str} {env : Env} {k : Nat} {scope : Scope}

/-- the tests of a comprehension -/
inductive Ifs (prog : Program) (w : World) (h₀ : B0) (Φ : Nat → List Dv → Option Dv) (ns : List Str) (k : Nat) (E : Addr → Env) : List Expr → ME → Prop
  | nil : Ifs prog w h₀ Φ ns k E [] (.const (.bool true))
  | one {c : Expr} {m : ME} : (∀ C, Tst prog w h₀ Φ ns (E C) k c m) → Ifs prog w h₀ Φ ns k E [c] m

theorem cells_ge : ∀ (names : List (Str × NameKind)) (n : Nat) (x : Str) (c : Addr), (x, c) ∈ cellsFrom n names [] → n ≤ c
  | [], _, _, _, h => by simp [cellsFrom] at h
  | (y, kd) :: r, n, x, c, h => by
    unfold cellsFrom at h
    split at h
    · rw [cells_app] at h
      rcases List.mem_append.mp h with h | h
      · exact Nat.le_of_succ_le (cells_ge r _ x c h)
      · simp at h
        exact Nat.le_of_eq h.2.symm
    · exact cells_ge r n x c h

/-- a comprehension on its way -/
structure CInv (Φ : Nat → List Dv → Option Dv) (mt me : ME) (n : Nat) (ρ : List En) (ds es : List Dv) (St : (Addr → Prop) → Nat → Shared → Prop) (s : Shared) (K : Addr → Prop) (Y : (Addr → Prop) → Bd) (E : Env) (oc : List (Str × Addr)) (D : Addr)
    (m : Nat) (s' : Shared) (j : Nat) (vs : List Value) (nn : Nat) (done rest : List Dv) (μ : Str → Option Value) (f : Addr → Prop) : Prop where
  at_ : m = ds.length - j
  le : j ≤ ds.length
  len : vs.length ≤ j
  st : St f j s'
  new : ∀ b, f b → s.heap.get? b = none
  off : ∀ b, K b → ¬ f b
  ext : Ext s s'
  loc : Loc E oc s'.heap μ
  obj : s'.heap.get? D = some (lstObj vs nn)
  reps : Reps s'.heap (Y f) vs done
  to_do : lcomp (ev Φ mt) (ev Φ me) n ρ (ds.drop j) = some rest
  all : es = done ++ rest
theorem comp_run {elt iter target : Expr} {ifs : List Expr} {pos : Pos} {n : Nat} {me mt : ME} {A : Around} {s s2 s4 : Shared} {X : Bd} {ρ : List En} {I D C : Addr} {f0 : Addr → Prop} {gs : Nat → Prop} {ds es : List Dv} {St : (Addr → Prop) → Nat → Shared → Prop}
    {R : Result → Shared → Prop} {μ0 : Str → Option Value} (t : Tgt target n xs) (hE : ∀ C, Ev prog w h₀ Φ (ns ++ xs) (compE scope env C) k elt me) (hT : Ifs prog w h₀ Φ (ns ++ xs) k (compE scope env) ifs mt)
    (hk : scope.kind = .function) (h : once scope.names) (hsep : ∀ y ∈ ns, ∀ kd, (y, kd) ∈ scope.names → kd ≠ .local ∧ kd ≠ .cell)
    (hfree : ∀ y, (y, NameKind.free) ∈ scope.names → env.kindOf y = some .cell ∨ env.kindOf y = some .free) (hxs : ∀ y ∈ xs, (y, NameKind.local) ∈ scope.names ∨ (y, NameKind.cell) ∈ scope.names) (hnd : xs.Nodup)
    (hA : Rm k A) (hB : Bs h₀ s) (hO : Old X s) (V : Vars env s X ns ρ) (x2 : Ext s s2) (S : Src prog w h₀ A X s2.heap I gs ds St) (st : St f0 0 s2) (hfp : ∀ b, f0 b → s.heap.get? b = none) (hgs : ∀ i, gs i → s.gens[i]? = none)
    (he : lcomp (ev Φ mt) (ev Φ me) n ρ ds = some es) (hsz : ds.length ≤ 100000)
    (x4 : Ext s2 s4) (hD : D = s2.heap.objs.size) (hDC : D < C) (l0 : Loc (compE scope env C) (ownC scope C) s4.heap μ0) (hDg : s4.heap.get? D = some (lstObj [] 0))
    (hRR : ∀ s' m vs nn Y, Ext s s' → s'.heap.Ns C m → s'.heap.get? D = some (lstObj vs nn) → Reps s'.heap Y vs es → (∀ b, X.off b → Y.off b) → Y.off C → Y.tok = X.tok → R (.ok .next) s') :
    codeAny (model prog w) A (.compLoop (.ListComp elt [⟨target, iter, ifs, 0⟩] scope pos) 0 (.ref I) (.ref D) (compE scope env C)) R s4 := by
  have hh := hA.handled
  have lo : ∀ b, locs (compE scope env C) (ownC scope C) b → D < b := fun b hb => by
    rcases hb with rfl | ⟨x, hb⟩
    · exact hDC
    · exact Nat.lt_trans hDC (cells_ge _ _ _ _ hb)
  have new2 : ∀ b, D ≤ b → s.heap.get? b = none := fun b hb => by
    cases e : s.heap.get? b with
    | none => rfl
    | some o => exact absurd (Heap.lt_size (x2.heap b o e)) (by rw [← hD]; exact Nat.not_lt.mpr hb)
  let K : Addr → Prop := fun b => b = D ∨ locs (compE scope env C) (ownC scope C) b
  have hKge : ∀ b, K b → D ≤ b := fun b hb => hb.elim (fun e => e ▸ Nat.le_refl _) fun hb => Nat.le_of_lt (lo b hb)
  let Y : (Addr → Prop) → Bd := fun f => ⟨fun b => X.off b ∨ f b ∨ K b, X.tok⟩
  have new3 : ∀ b, D ≤ b → s2.heap.get? b = none := fun b hb => by
    cases e : s2.heap.get? b with
    | none => rfl
    | some o => exact absurd (Heap.lt_size e) (by rw [← hD]; exact Nat.not_lt.mpr hb)
  have hYn : ∀ f, (∀ b, f b → s.heap.get? b = none) → ∀ b, (Y f).off b → X.off b ∨ s.heap.get? b = none := fun f hf b hb => hb.elim .inl fun hb => hb.elim (fun h => .inr (hf b h)) fun h => .inr (new2 b (hKge b h))
  have hYN : ∀ f b, (Y f).off b → X.off b ∨ f b ∨ s2.heap.get? b = none := fun f b hb => hb.elim .inl fun hb => hb.elim (fun h => .inr (.inl h)) fun h => .inr (.inr (new3 b (hKge b h)))
  have hlY : ∀ f b, locs (compE scope env C) (ownC scope C) b → (Y f).off b := fun f b hb => .inr (.inr (.inr hb))
  have hln : ∀ b, locs (compE scope env C) (ownC scope C) b → s.heap.get? b = none := fun b hb => new2 b (Nat.le_of_lt (lo b hb))
  have hDl : ¬ locs (compE scope env C) (ownC scope C) D := fun hb => Nat.lt_irrefl _ (lo D hb)
  have hK0 : ∀ b, K b → ¬ f0 b := fun b hb hf => by have := S.live f0 0 s2 st b hf; rw [new3 b (hKge b hb)] at this; cases this
  have oldY : ∀ {f : Addr → Prop} {j : Nat} {s' : Shared} {μ : Str → Option Value} {o : Obj}, St f j s' → Ext s s' → Loc (compE scope env C) (ownC scope C) s'.heap μ → s'.heap.get? D = some o → Old (Y f) s' := fun {f j s' μ o} st x l e =>
    ⟨fun b hb => hb.elim (fun h => (hO.ext x).at_ b h) fun hb => hb.elim (fun h => S.live f j s' st b h) fun hb => hb.elim (fun h => by rw [h, e]; rfl) fun h => l.live h, (hO.ext x).tok⟩
  have mvK : ∀ {f : Addr → Prop} {F : Addr → Prop} {a b : Shared}, (∀ b, K b → ¬ f b) → (∀ b, F b → K b) → Mv F noG a b → Mv (fun b => ¬ f b ∧ (X.off b ∨ s2.heap.get? b = none)) noG a b := fun {f F a b} hf hF m =>
    m.mono (fun b hb => ⟨hf b (hF b hb), .inr (new3 b (hKge b (hF b hb)))⟩) fun _ h => h
  refine compLoop_any (env := compE scope env C) (fun m s' => ∃ (j : Nat) (vs : List Value) (nn : Nat) (done rest : List Dv) (μ : Str → Option Value) (f : Addr → Prop), CInv Φ mt me n ρ ds es St s K Y (compE scope env C) (ownC scope C) D m s' j vs nn done rest μ f) ?_ (ds.length - 0) ⟨0, [], 0, [], es, _, f0, rfl, Nat.zero_le _, Nat.le_refl _, S.frame f0 0 _ _ st (hB.ext (x2.trans x4)) x4.mv, hfp, hK0, x2.trans x4, l0, hDg, .nil, by simpa using he, rfl⟩
  rintro m s' ⟨j, vs, nn, done, rest, μ, f, rfl, hj, hvj, st', hfn, hKf, x', l', e', r', hc, rfl⟩
  have hDf : ¬ f D := hKf D (.inl rfl)
  have hlf : ∀ b, locs (compE scope env C) (ownC scope C) b → ¬ f b := fun b hb => hKf b (.inr hb)
  rcases Nat.lt_or_eq_of_le hj with hlt | rfl
  · have hd : ds.drop j = ds[j] :: ds.drop (j + 1) := List.drop_eq_getElem_cons hlt
    rw [hd] at hc
    simp only [lcomp] at hc
    obtain ⟨bs, hbs, hc⟩ := Option.bind_eq_some_iff.mp hc
    refine S.item f j ds[j] s' _ _ (List.getElem?_eq_getElem hlt) st' fun v s5 f' hff hfnew rv st5 m5 => ?_
    have none' : ∀ b, s'.heap.get? b = none → s.heap.get? b = none := fun b e => by
      cases q : s.heap.get? b with
      | none => rfl
      | some o => rw [x'.heap b o q] at e; cases e
    have hfn' : ∀ b, f' b → s.heap.get? b = none := fun b h => (hfnew b h).elim (hfn b) (none' b)
    have hKf' : ∀ b, K b → ¬ f' b := fun b hb h => (hfnew b h).elim (hKf b hb) fun q => by
      rcases hb with rfl | hb
      · rw [e'] at q; cases q
      · have := l'.live hb; rw [q] at this; cases this
    have x5 : Ext s s5 := m5.ext x' hfn hgs
    have l5 := l'.keep fun b o hb e => m5.heap b o (hlf b hb) e
    have e5 := m5.heap D _ hDf e'
    have r5 : Reps s5.heap (Y f') vs done := r'.mono (X := Y f) (X' := Y f') (fun b o n e => ⟨m5.heap b o (fun h => n (.inr (.inl h))) e, fun q => q.elim (fun h => n (.inl h)) fun q => q.elim (fun q => (hfnew b q).elim (fun h => n (.inr (.inl h))) fun h => by rw [h] at e; cases e) fun h => n (.inr (.inr h))⟩) (Nat.le_refl _)
    refine S.go f' (j + 1) s5 _ _ _ _ st5 ?_
    have rv5 : Rep s5.heap (Y f') v ds[j] := Rep.sub (X := ⟨fun b => (Y f).off b ∨ f' b, (Y f).tok⟩) (X' := Y f') (fun b (h : X.off b ∨ f' b ∨ K b) => h.elim (fun h => .inl (.inl h)) fun h => h.elim .inr fun h => .inl (.inr (.inr h))) (Nat.le_refl _) (rv (Y f) (oldY st' x' l' e') (hYN f) (Nat.le_refl _))
    refine assign_tgt t hh hk (fun y hy => ?_) hbs (hlY f') rv5 l5 fun s6 us l6 r6 hus m6 => ?_
    · rcases hxs y hy with hm | hm
      · exact .inl (comp_kind h hm (by decide))
      · exact .inr ⟨comp_kind h hm (by decide), cells_has _ _ _ hm⟩
    have x6 : Ext s s6 := m6.ext x5 hln (fun _ f => f.elim)
    have e6 := m6.heap D _ hDl e5
    have st6 := S.frame f' _ _ _ st5 (hB.ext x6) (mvK hKf' (fun b h => .inr h) m6)
    have rr6 := m6.reps (hlY f') r5
    have V6 := comp_vars V x6 h hsep hfree hxs hnd (hYn f' hfn') (Nat.le_refl _) l6 r6 hus
    have hO6 := oldY st6 x6 l6 e6
    split at hc
    · rename_i ht
      obtain ⟨y, hy, hc2⟩ := Option.bind_eq_some_iff.mp hc
      simp only [Option.map_eq_some_iff] at hc2
      obtain ⟨rest', hc3, rfl⟩ := hc2
      have body : ∀ s7, Ext s6 s7 → wpAny (model prog w) A (eval elt (compE scope env C)) (fun x s₄ => wpAny (model prog w) A (call (.builtin "list.append") [.ref D, x]) (fun _ s₅ => ∃ m, m < ds.length - j ∧ ∃ (j' : Nat) (vs : List Value) (nn : Nat) (done' rest : List Dv) (μ : Str → Option Value) (f : Addr → Prop), CInv Φ mt me n ρ ds (done ++ (y :: rest')) St s K Y (compE scope env C) (ownC scope C) D m s₅ j' vs nn done' rest μ f) (fun _ _ => False) s₄) (fun _ _ => False) s7 := fun s7 x7 => by
        have y7 := x6.trans x7
        refine wpAny_told ((hE C).run A s7 (Y f') _ y hA (hB.ext y7) (hO6.ext x7) (V6.ext x7) hy) fun v8 s8 _ ⟨x8, r8⟩ => ?_
        have y8 := y7.trans x8
        have e8 := x8.heap _ _ (x7.heap _ _ e6)
        refine wpAny_list_append_plain (l := D) (items := vs.toArray) ⟨nn, e8⟩ (fun h9 p9 hs9 => ?_) (by simp only [List.size_toArray]; show vs.length ≤ 16777216; omega)
        obtain ⟨nn9, e9⟩ := p9
        have m9 : Mv (fun b => b = D) noG s8 { s8 with heap := h9 } := mv_one hs9 rfl (Nat.le_refl _)
        have st8 := S.frame f' _ _ _ (S.frame f' _ _ _ st6 (hB.ext y7) x7.mv) (hB.ext y8) x8.mv
        have l9 := l6.keep (h' := h9) fun b o hb e => m9.heap b o (fun h => hDl (h ▸ hb)) (x8.heap _ _ (x7.heap _ _ e))
        refine ⟨ds.length - (j + 1), by omega, j + 1, vs ++ [v8], nn9, done ++ [y], rest', _, f', rfl, hlt, (by simp; omega), S.frame f' _ _ _ st8 (hB.ext (m9.ext y8 (fun b e => by rw [e]; exact new2 D (Nat.le_refl _)) (fun _ f => f.elim))) (mvK hKf' (fun b h => .inl h) m9), hfn', hKf', m9.ext y8 (fun b e => by rw [e]; exact new2 D (Nat.le_refl _)) (fun _ f => f.elim), l9, ?_, ?_, hc3, by simp⟩
        · rw [List.push_toArray] at e9; exact e9
        · have hDY : ∀ b, b = D → (Y f').off b := fun b e => .inr (.inr (.inl e))
          exact (m9.reps hDY ((rr6.ext x7).ext x8)).append (.cons (m9.rep hDY r8) .nil)
      cases hT with
      | nil => exact wpAny_tests_nil (by rw [if_pos rfl]; exact body s6 (.refl _))
      | one hT =>
        refine wpAny_tests_one (wpAny_told ((hT C).run A s6 (Y f') _ _ hA (hB.ext x6) hO6 V6 ht) fun b s7 _ ⟨eb, x7⟩ => ?_)
        subst eb
        rw [if_pos rfl]; exact body s7 x7
    · rename_i ht
      have skip : ∀ s7, Ext s6 s7 → ∃ m, m < ds.length - j ∧ ∃ (j' : Nat) (vs : List Value) (nn : Nat) (done' rest_1 : List Dv) (μ : Str → Option Value) (f : Addr → Prop), CInv Φ mt me n ρ ds (done ++ rest) St s K Y (compE scope env C) (ownC scope C) D m s7 j' vs nn done' rest_1 μ f := fun s7 x7 =>
        ⟨ds.length - (j + 1), by omega, j + 1, vs, nn, done, rest, _, f', rfl, hlt, by omega, S.frame f' _ _ _ st6 (hB.ext (x6.trans x7)) x7.mv, hfn', hKf', x6.trans x7, l6.keep fun b o _ e => x7.heap b o e, x7.heap _ _ e6, rr6.ext x7, hc, rfl⟩
      cases hT with
      | nil => cases ht
      | one hT =>
        refine wpAny_tests_one (wpAny_told ((hT C).run A s6 (Y f') _ _ hA (hB.ext x6) hO6 V6 ht) fun b s7 _ ⟨eb, x7⟩ => ?_)
        subst eb
        rw [if_neg (by decide)]
        exact skip s7 x7
    · cases hc
  · rw [List.drop_of_length_le (Nat.le_refl _)] at hc
    cases hc
    refine S.done f s' _ _ st' fun s5 m5 => ?_
    have l5 := l'.keep fun b o hb e => m5.heap b o (hlf b hb) e
    obtain ⟨m, nC, _⟩ := l5.ns
    refine hRR s5 m vs nn (Y f) (m5.ext x' hfn hgs) nC (m5.heap D _ hDf e') ?_ (fun b hb => .inl hb) (hlY f C (.inl rfl)) rfl
    rw [List.append_nil]
    exact m5.reps (X := Y f) (fun b hb => .inr (.inl hb)) r'
end
end Mine

namespace Mine
open PySem PySem.W PyProof.Rows

/-- the iterator tells the data -/
noncomputable abbrev Told (prog : Program) (w : World) (h₀ : B0) (A : Around) (X : Bd) (s : Shared) (ds : List Dv) (it : Value) (s₂ : Shared) : Prop := Ext s s₂ ∧ ∃ I fp gs St, it = .ref I ∧ Src prog w h₀ A X s₂.heap I gs ds St ∧ St fp 0 s₂ ∧
      (∀ b, fp b → s.heap.get? b = none) ∧ (∀ i, gs i → s.gens[i]? = none) ∧ ds.length ≤ 100000
theorem Told.base {prog : Program} {w : World} {h₀ : B0} {A : Around} {X : Bd} {s0 s s₂ : Shared} {ds : List Dv} {it : Value} (x : Ext s0 s) (t : Told prog w h₀ A X s ds it s₂) : Told prog w h₀ A X s0 ds it s₂ := by
  obtain ⟨x2, I, fp, gs, St, e, S, st, h1, h2, h3⟩ := t
  refine ⟨x.trans x2, I, fp, gs, St, e, S, st, fun b hb => ?_, fun i hi => ?_, h3⟩
  · cases e : s0.heap.get? b with
    | none => rfl
    | some o => have := h1 b hb; rw [x.heap b o e] at this; cases this
  · cases e : s0.gens[i]? with
    | none => rfl
    | some o => have := h2 i hi; rw [x.gens i o e] at this; cases this
/-- what a loop runs over -/
structure It (prog : Program) (w : World) (h₀ : B0) (Φ : Nat → List Dv → Option Dv) (ns : List Str) (env : Env) (k : Nat) (iter : Expr) (m : ME) : Prop where
  run : ∀ (A : Around) (s : Shared) (X : Bd) (ρ : List En) (d : Dv) (ds : List Dv), Rm k A → Bs h₀ s → Old X s → Vars env s X ns ρ → ev Φ m ρ = some d → items d = some ds →
    wpAny (model prog w) A (eval iter env) (fun x s₁ => wpAny (model prog w) A (pyIter x) (fun it s₂ => s.toks ≤ s₂.toks → Told prog w h₀ A X s ds it s₂) (fun _ _ => False) s₁) (fun _ _ => False) s

/-- a comprehension that is told -/
structure Comp (prog : Program) (w : World) (h₀ : B0) (Φ : Nat → List Dv → Option Dv) (ns : List Str) (env : Env) (k : Nat) (elt target iter : Expr) (ifs : List Expr) (scope : Scope) (n : Nat) (me mi mt : ME) : Prop where
  src : It prog w h₀ Φ ns env k iter mi
  body : ∃ xs, Tgt target n xs ∧ (∀ C, Ev prog w h₀ Φ (ns ++ xs) (compE scope env C) k elt me) ∧ Ifs prog w h₀ Φ (ns ++ xs) k (compE scope env) ifs mt ∧
    (∀ y ∈ xs, (y, NameKind.local) ∈ scope.names ∨ (y, NameKind.cell) ∈ scope.names) ∧ xs.Nodup
  kind : scope.kind = .function
  once : once scope.names
  sep : ∀ y ∈ ns, ∀ kd, (y, kd) ∈ scope.names → kd ≠ .local ∧ kd ≠ .cell
  free : ∀ y, (y, NameKind.free) ∈ scope.names → env.kindOf y = some .cell ∨ env.kindOf y = some .free
  plain : ∀ x, foldedSetIterable iter env x = pure x
  envk : EnvK env

section
variable {prog : Program} {w : World} {h₀ : B0} {Φ : Nat → List Dv → Option Dv} {ns : List Str} {env : Env} {k : Nat}
variable {elt target iter : Expr} {ifs : List Expr} {scope : Scope} {n : Nat} {me mi mt : ME}

theorem comp_core {pos : Pos} {A : Around} {s : Shared} {X : Bd} {ρ : List En} {es : List Dv} {E E1 E2 E3 : Value → Shared → Prop} {RR : Value → Addr → Result → Shared → Prop}
    (c : Comp prog w h₀ Φ ns env k elt target iter ifs scope n me mi mt) (hA : Rm k A) (hB : Bs h₀ s) (hO : Old X s) (V : Vars env s X ns ρ) (he : ev Φ (.comp me n mi mt) ρ = some (.list es))
    (hRR : ∀ D C s' m vs nn Y, Ext s s' → s'.heap.Ns C m → s'.heap.get? D = some (lstObj vs nn) → s.heap.get? D = none → s.heap.get? C = none → D ≠ C → Reps s'.heap Y vs es → (∀ b, X.off b → Y.off b) → Y.off C → Y.tok = X.tok → RR (.ref D) C (.ok .next) s') :
    wpAny (model prog w) A (eval iter env) (fun x s₁ => wpAny (model prog w) A (pyIter x) (fun it s₂ => wpAny (model prog w) A (newList []) (fun acc s₃ =>
      wpAny (model prog w) A (newFunctionEnv scope env.globals (closOf env scope.names []) [] env.qual none .none (some env)) (fun cenv s₄ =>
        codeAny (model prog w) A (.compStart (.ListComp elt [⟨target, iter, ifs, 0⟩] scope pos) 0 it acc { cenv with scope := relabel scope env }) (RR acc cenv.locals) s₄) E s₃) E1 s₂) E2 s₁) E3 s := by
  simp only [ev, Option.bind_eq_some_iff, Option.map_eq_some_iff] at he
  obtain ⟨ds, ⟨d, hd, hds⟩, l, hl, e⟩ := he
  cases e
  refine wpAny_with_toks (n := s.toks) (Nat.le_refl _) (wpAny_mono (c.src.run A s X ρ d ds hA hB hO V hd hds) (fun x s₁ h₁ t1 => wpAny_with_toks t1 (wpAny_mono h₁ (fun it s₂ h₂ t2 => ?_) fun _ _ f => f.elim)) fun _ _ f => f.elim)
  obtain ⟨x2, I, fp, gs, St, rfl, S, st, hfp, hgs, hsz⟩ := h₂ t2
  refine wpAny_newList (new_comp ?_) (by simp)
  generalize hs4 : ({ s₂ with heap := pushCells ((s₂.heap.push { cls := .type "list", data := .seq ([] : List Value).toArray }).push { cls := .type "dict", data := .dict #[] }) scope.names } : Shared) = s4
  have hH : (s₂.heap.push ({ cls := .type "list", data := .seq ([] : List Value).toArray } : Obj)).objs.size = s₂.heap.objs.size + 1 := Heap.size_push ..
  have k4 : ∀ b o, (s₂.heap.push ({ cls := .type "list", data := .seq ([] : List Value).toArray } : Obj)).get? b = some o → s4.heap.get? b = some o := fun b o e => by
    subst hs4; exact pushCells_keeps _ _ b o (Heap.get?_push_of_some _ e)
  have x4 : Ext s₂ s4 := by
    have : Ext s₂ { s₂ with heap := s4.heap } := .heap' (fun b o e => k4 b o (Heap.get?_push_of_some _ e)) (Nat.le_refl _)
    subst hs4; exact this
  have l0 : Loc (compE scope env (s₂.heap.objs.size + 1)) (ownC scope (s₂.heap.objs.size + 1)) s4.heap (fun _ => none) := by
    have := comp_loc (env := env) (h := s₂.heap.push ({ cls := .type "list", data := .seq ([] : List Value).toArray } : Obj)) c.once
    rw [hH] at this
    subst hs4; exact this
  show codeAny _ _ (.compStart _ 0 _ _ (compE scope env (s₂.heap.push ({ cls := .type "list", data := .seq ([] : List Value).toArray } : Obj)).objs.size)) (RR _ (s₂.heap.push ({ cls := .type "list", data := .seq ([] : List Value).toArray } : Obj)).objs.size) s4
  rw [hH]
  have fresh : ∀ b, s₂.heap.objs.size ≤ b → s.heap.get? b = none := fun b hb => by
    cases e : s.heap.get? b with
    | none => rfl
    | some o => exact absurd (Heap.lt_size (x2.heap b o e)) (Nat.not_lt.mpr hb)
  obtain ⟨xs, t, hE, hT, hxs, hnd⟩ := c.body
  have run := comp_run (s2 := s₂) (iter := iter) (pos := pos) (I := I) (C := s₂.heap.objs.size + 1) (D := s₂.heap.objs.size) (R := RR (.ref s₂.heap.objs.size) (s₂.heap.objs.size + 1)) t hE hT c.kind c.once c.sep c.free hxs hnd hA hB hO V x2 S st hfp hgs hl hsz x4 rfl (Nat.lt_succ_self _) l0
    (k4 _ _ (Heap.get?_push_size _ rfl)) fun s' m vs nn Y a b c d e f g => hRR _ _ s' m vs nn Y a b c (fresh _ (Nat.le_refl _)) (fresh _ (Nat.le_succ _)) (Nat.ne_of_lt (Nat.lt_succ_self _)) d e f g
  exact codeAny_compStart_list run (S.self fp 0 _ _ _ (S.frame fp 0 _ _ st (hB.ext (x2.trans x4)) x4.mv) run)

theorem ev_comp {pos : Pos} (c : Comp prog w h₀ Φ ns env k elt target iter ifs scope n me mi mt) : Ev prog w h₀ Φ ns env k (.ListComp elt [⟨target, iter, ifs, 0⟩] scope pos) (.comp me n mi mt) := by
  constructor; intro A s X ρ d hA hB hO V h
  have : ∃ es, d = .list es := by
    simp only [ev, Option.map_eq_some_iff, Option.bind_eq_some_iff] at h
    obtain ⟨_, _, l, _, e⟩ := h
    exact ⟨l, e.symm⟩
  obtain ⟨es, rfl⟩ := this
  show wpAny _ _ (eval _ env) _ _ _
  rw [eval_ListComp]
  refine wpAny_comprehension_free (use := none) rfl c.plain (closureFor_is fun x hx => c.envk.cells x (c.free x hx)) c.kind (fun x hx hl => once_lookup c.once (by rw [← hl]; exact hx))
    (comp_core (RR := fun acc C => compPost (model prog w) A _ none _ acc C) c hA hB hO V h fun D C s' m vs nn Y x' hn hD nD nC hDC r hY hYC hYt => ?_)
  refine ⟨m, hn, fun h' hs' ht => ?_⟩
  refine ⟨⟨fun b o e => hs'.extBut b o (fun q => by rw [q, nC] at e; cases e) (x'.heap b o e), x'.gens, x'.bare, x'.os, x'.toks⟩, ?_⟩
  refine .list (hs'.extBut D _ hDC hD) (hO.off nD) (r.mono (fun b o n e => ⟨hs'.extBut b o (fun q => n (q ▸ hYC)) e, fun q => n (hY b q)⟩) (by rw [hYt]; exact Nat.le_refl _))
end
end Mine

namespace Mine
open PySem PySem.W PyProof.Rows

section
variable {prog : Program} {w : World} {h₀ : B0} {Φ : Nat → List Dv → Option Dv} {ns : List Str} {env : Env} {k : Nat}

/-- an iterator object laid behind all -/
theorem src_push {A : Around} {s : Shared} {X : Bd} {o : Obj} {fpl : List Addr} {vs : List Value} {ds : List Dv} {P : Nat → Value → Prop} {St : Nat → Heap → Prop} {tk : Nat}
    (hO : Old X s) (ht : s.toks ≤ tk)
    (W : Walks prog w A s.heap.objs.size fpl [s.heap.objs.size] ds.length P St) (hfp : ∀ b ∈ fpl, b = s.heap.objs.size ∨ ((∃ ob, s.heap.get? b = some ob) ∧ ¬ X.off b))
    (r : Reps s.heap X vs ds) (hP : ∀ i v, P i v → ∀ d, ds[i]? = some d → (∃ u, vs[i]? = some u ∧ u = v) ∨ (∀ h Y, Rep h Y v d))
    (hI : ∀ i h, St i h → ∃ o T, h.get? s.heap.objs.size = some o ∧ o.cls = .type T ∧ goNames.contains T = false) (st : St 0 (s.heap.push o)) (hsz : ds.length ≤ 100000) :
    Told prog w h₀ A X s ds (.ref s.heap.objs.size) { s with heap := s.heap.push o, toks := tk } := by
  refine ⟨.push s o ht, s.heap.objs.size, (· ∈ [s.heap.objs.size]), noG, _, rfl, src_walks (fpl := fpl) (R := fun h => Reps h ⟨fun b => X.off b ∨ b ∈ [s.heap.objs.size] ∨ (s.heap.push o).get? b = none, X.tok⟩ vs ds) W ?_ ?_ ?_ ?_ hI, ⟨rfl, st, ?_⟩, ?_, fun i h => h.elim, hsz⟩
  · intro b hb
    rcases hfp b hb with rfl | ⟨⟨ob, h1⟩, h2⟩
    · exact .inl (by simp)
    · exact .inr ⟨by rw [Heap.get?_push_of_some _ h1]; rfl, h2⟩
  · intro h h' r' hk
    exact r'.mono (fun b ob n e => ⟨hk b ob n e, n⟩) (Nat.le_refl _)
  · intro h i v d r' hp hd
    rcases hP i v hp d hd with ⟨u, hu, rfl⟩ | h1
    · obtain ⟨d', hd', rd⟩ := r'.get' hu
      rw [hd] at hd'; cases hd'; exact rd
    · exact h1 _ _
  · intro i h st' b hb
    simp only [List.mem_singleton] at hb
    subst hb
    obtain ⟨o', _, e, _⟩ := hI i h st'
    exact ⟨o', e⟩
  · refine Reps.mono (X := X) (X' := ⟨fun b => X.off b ∨ b ∈ [s.heap.objs.size] ∨ (s.heap.push o).get? b = none, X.tok⟩) (h' := s.heap.push o) (fun b ob n e => ⟨Heap.get?_push_of_some _ e, ?_⟩) (Nat.le_refl X.tok) r
    have hb := Heap.lt_size e
    rintro (h | h | h)
    · exact n h
    · simp only [List.mem_singleton] at h; subst h; exact Nat.lt_irrefl _ hb
    · rw [Heap.get?_push_of_some _ e] at h; cases h
  · intro b hb
    simp only [List.mem_singleton] at hb
    subst hb; exact new_none _

theorem items_len {d : Dv} {ds : List Dv} (h : items d = some ds) : ds.length ≤ 100000 := by
  cases d with
  | list l => obtain ⟨c, rfl⟩ := if_is h; exact c
  | tuple l => obtain ⟨c, rfl⟩ := if_is h; exact c
  | str x => obtain ⟨c, rfl⟩ := if_is h; rw [List.length_map]; exact c
  | _ => cases h

theorem iter_told0 {A : Around} {s : Shared} {X : Bd} {v : Value} {d : Dv} {ds : List Dv} (hA : Rm k A) (hO : Old X s) (r1 : Rep s.heap X v d) (hi : items d = some ds) :
    wpAny (model prog w) A (pyIter v) (fun it s₂ => Told prog w h₀ A X s ds it s₂) (fun _ _ => False) s := by
  have hl := items_len hi
  cases d with
  | list l =>
    obtain ⟨_, rfl⟩ := if_is hi
    obtain ⟨a, vs, n, rfl, e1, n1, r1⟩ := r1.list_inv
    refine wpAny_pyIter_list (l := a) (items := vs.toArray) ⟨_, e1, rfl, n, rfl⟩ ?_
    have hne : a ≠ s.heap.objs.size := Nat.ne_of_lt (Heap.lt_size e1)
    have hsize : vs.toArray.size = l.length := by rw [List.size_toArray, r1.length]
    refine src_push hO (Nat.le_refl _) (hsize ▸ Walks.list hA.handled s.heap.objs.size a hne vs.toArray) ?_ r1 (fun i v hp d hd => .inl ⟨v, by simpa using hp, rfl⟩) ?_ ?_ hl
    · intro b hb
      cases hb with
      | head => exact .inl rfl
      | tail _ hb => cases hb with
        | head => exact .inr ⟨⟨_, e1⟩, n1⟩
        | tail _ hb => cases hb
    · rintro i h ⟨⟨o, ho, hc, _⟩, _⟩; exact ⟨o, _, ho, hc, by decide⟩
    · exact ⟨⟨_, Heap.get?_push_size _ rfl, rfl, rfl⟩, ⟨_, Heap.get?_push_of_some _ e1, rfl, n, rfl⟩⟩
  | tuple l =>
    obtain ⟨_, rfl⟩ := if_is hi
    obtain ⟨a, vs, n, rfl, e1, n1, r1⟩ := r1.tuple_inv
    refine wpAny_pyIter_tuple (t := a) (items := vs.toArray) ⟨_, e1, rfl, n, rfl⟩ ?_
    have hne : a ≠ s.heap.objs.size := Nat.ne_of_lt (Heap.lt_size e1)
    have hsize : vs.toArray.size = l.length := by rw [List.size_toArray, r1.length]
    refine src_push hO (Nat.le_refl _) (hsize ▸ Walks.tuple hA.handled s.heap.objs.size a hne vs.toArray) ?_ r1 (fun i v hp d hd => .inl ⟨v, by simpa using hp, rfl⟩) ?_ ?_ hl
    · intro b hb
      cases hb with
      | head => exact .inl rfl
      | tail _ hb => cases hb with
        | head => exact .inr ⟨⟨_, e1⟩, n1⟩
        | tail _ hb => cases hb
    · rintro i h ⟨⟨o, ho, hc, _⟩, _⟩; exact ⟨o, _, ho, hc, by decide⟩
    · exact ⟨⟨_, Heap.get?_push_size _ rfl, rfl, rfl⟩, ⟨_, Heap.get?_push_of_some _ e1, rfl, n, rfl⟩⟩
  | str y =>
    obtain ⟨_, rfl⟩ := if_is hi
    obtain ⟨t, rfl⟩ := r1.str_inv
    have hsize : (mkS y).cps.size = (y.map fun c => Dv.str [c]).length := by rw [List.length_map]; rfl
    have rr : Reps s.heap X (y.map fun c => .str ⟨#[c]⟩ 0) (y.map fun c => Dv.str [c]) := by
      clear hsize hi hl r1
      rename_i hz
      clear hz
      induction y with
      | nil => exact .nil
      | cons c l ih => exact .cons (.of_str _ rfl) ih
    have pp : ∀ i v, SignAt (mkS y) i v → ∀ d, (y.map fun c => Dv.str [c])[i]? = some d → (∃ u, (y.map fun c => Value.str ⟨#[c]⟩ 0)[i]? = some u ∧ u = v) ∨ (∀ h Y, Rep h Y v d) := by
      rintro i v ⟨c, u, hc, rfl⟩ d hd
      rw [List.getElem?_map, show y[i]? = some c by simpa [mkS] using hc] at hd
      cases hd
      exact .inr fun h Y => .of_str _ rfl
    have one : ∀ b, b ∈ [s.heap.objs.size] → b = s.heap.objs.size ∨ ((∃ ob, s.heap.get? b = some ob) ∧ ¬ X.off b) := fun b hb => .inl (List.mem_singleton.mp hb)
    cases ha : (mkS y).cps.all (· < 128) with
    | true => exact wpAny_pyIter_ascii ha (src_push hO (Nat.le_refl _) (hsize ▸ Walks.strAscii hA.handled s.heap.objs.size (mkS y) t) one rr pp (fun i h ⟨o, ho, hc, _⟩ => ⟨o, _, ho, hc, by decide⟩) ⟨_, Heap.get?_push_size _ rfl, rfl, rfl⟩ hl)
    | false => exact wpAny_pyIter_wide ha (src_push hO (Nat.le_refl _) (hsize ▸ Walks.strWide hA.handled s.heap.objs.size (mkS y) t) one rr pp (fun i h ⟨o, ho, hc, _⟩ => ⟨o, _, ho, hc, by decide⟩) ⟨_, Heap.get?_push_size _ rfl, rfl, rfl⟩ hl)
  | _ => cases hi
theorem iter_told {A : Around} {s s1 : Shared} {X : Bd} {v : Value} {d : Dv} {ds : List Dv} (hA : Rm k A) (hO : Old X s) (x1 : Ext s s1) (r1 : Rep s1.heap X v d) (hi : items d = some ds) :
    wpAny (model prog w) A (pyIter v) (fun it s₂ => s.toks ≤ s₂.toks → Told prog w h₀ A X s ds it s₂) (fun _ _ => False) s1 :=
  wpAny_mono (iter_told0 hA (hO.ext x1) r1 hi) (fun _ _ t _ => t.base x1) fun _ _ f => f

theorem it_ev {e : Expr} {m : ME} (he : Ev prog w h₀ Φ ns env k e m) : It prog w h₀ Φ ns env k e m := by
  constructor; intro A s X ρ d ds hA hB hO V hd hi
  exact wpAny_told (he.run A s X ρ d hA hB hO V hd) fun v s1 _ ⟨x1, r1⟩ => iter_told hA hO x1 r1 hi

theorem fits_small {a b : Int} (ha : fits a = true) (hb : fits b = true) (hab : b - a ≤ 100000) : Builtin.Range.small a b 1 = true := by
  unfold fits at ha hb
  simp only [Bool.and_eq_true, decide_eq_true_eq] at ha hb
  unfold Builtin.Range.small
  rw [rangeSize_one]
  unfold Builtin.Range.rangeFitsLong
  simp only [Bool.and_eq_true, Bool.or_eq_true, decide_eq_true_eq, beq_iff_eq]
  split <;> simp <;> omega

/-- a range of two numbers -/
theorem range_told {A : Around} {s : Shared} {X : Bd} {ra : Addr} {a b : Int} {t u v : Tok} (hA : Rm k A) (hO : Old X s) (hr : IsRange s.heap ra a b 1 t u v) (ha : fits a = true) (hb : fits b = true) (hab : b - a ≤ 100000) :
    wpAny (model prog w) A (pyIter (.ref ra)) (fun it s₂ => Told prog w h₀ A X s ((List.range (b - a).toNat).map fun (k : Nat) => .int (a + (k : Int))) it s₂) (fun _ _ => False) s := by
  refine wpAny_pyIter_range hr (fits_small ha hb hab) ?_
  have rr : Reps s.heap X ((List.range (b - a).toNat).map fun (k : Nat) => .int (a + (k : Int)) 0) ((List.range (b - a).toNat).map fun (k : Nat) => .int (a + (k : Int))) := by
    generalize List.range (b - a).toNat = l
    induction l with
    | nil => exact .nil
    | cons c l ih => exact .cons (.int _ _) ih
  have hl : ((List.range (b - a).toNat).map fun (k : Nat) => Dv.int (a + (k : Int))).length = (b - a).toNat := by simp
  refine src_push hO (Nat.le_refl _) (hl ▸ Walks.range hA.handled s.heap.objs.size a 1 (b - a).toNat) ?_ rr ?_ ?_ ?_ (by rw [hl]; omega)
  · intro b hb
    simp only [List.mem_singleton] at hb
    exact .inl hb
  · rintro i v ⟨t, rfl⟩ d hd
    refine .inr fun h Y => ?_
    simp only [List.getElem?_map, Option.map_eq_some_iff] at hd
    obtain ⟨j, hj, rfl⟩ := hd
    obtain ⟨_, hj⟩ := List.getElem?_eq_some_iff.mp hj
    simp at hj
    subst hj
    rw [Int.mul_one]; exact .int _ _
  · rintro i h e; exact ⟨_, _, e, rfl, by decide⟩
  · show Heap.get? _ _ = _
    rw [Heap.get?_push_size _ rfl]
    have : Builtin.Range.rangeSize a b 1 = ((b - a).toNat : Int) := by
      rw [rangeSize_one]; split <;> omega
    rw [this]; simp
theorem range_told' {A : Around} {s s0 : Shared} {X : Bd} {ra : Addr} {a b : Int} {t u v : Tok} (hA : Rm k A) (x : Ext s0 s) (hO : Old X s) (hr : IsRange s.heap ra a b 1 t u v) (ha : fits a = true) (hb : fits b = true) (hab : b - a ≤ 100000) :
    wpAny (model prog w) A (pyIter (.ref ra)) (fun it s₂ => s0.toks ≤ s₂.toks → Told prog w h₀ A X s0 ((List.range (b - a).toNat).map fun (k : Nat) => .int (a + (k : Int))) it s₂) (fun _ _ => False) s :=
  wpAny_mono (range_told hA hO hr ha hb hab) (fun _ _ t _ => t.base x) fun _ _ f => f

theorem rng_inv {ma mb : ME} {ρ : List En} {d : Dv} (h : ev Φ (.rng ma mb) ρ = some d) : ∃ a b, ev Φ ma ρ = some (.int a) ∧ ev Φ mb ρ = some (.int b) ∧ fits a = true ∧ fits b = true ∧ b - a ≤ 100000 ∧ d = .list ((List.range (b - a).toNat).map fun (k : Nat) => .int (a + (k : Int))) := by
  simp only [ev] at h
  split at h
  · rename_i a b e1 e2
    split at h
    · rename_i c
      simp only [Bool.and_eq_true, decide_eq_true_eq] at c
      cases h
      exact ⟨a, b, e1, e2, c.1.1, c.1.2, c.2, rfl⟩
    · cases h
  · cases h

theorem it_range1 {e : Expr} {m : ME} {p pos : Pos} (g : Glob prog w h₀ env "range" (.type "range")) (h : Ev prog w h₀ Φ ns env k e m)
    (hs : starEach [e] env = [(false, eval e env)] := by exact star_one rfl) : It prog w h₀ Φ ns env k (.Call (.Name "range" p) [e] [] pos) (.rng (.const (.int 0)) m) := by
  constructor; intro A s X ρ d ds hA hB hO V hd hi
  obtain ⟨a, b, ea, eb, ha, hb, hab, rfl⟩ := rng_inv hd
  cases ea
  obtain ⟨_, rfl⟩ := if_is hi
  refine wpAny_with_toks (n := s.toks) (Nat.le_refl _) ?_
  rw [arm_eval_Call_Name']
  refine wpAny_bind (g A s p _ _ hB ?_)
  refine PySem.callWith_type (by rw [hs]; rfl) (args_told (evs_cons h evs_nil hs) hA hB hO V (by simp only [ev, eb, lst]; rfl) hs fun vs s1 x1 r1 => ?_)
  obtain ⟨_, rfl, r⟩ := reps_one r1
  obtain ⟨t, rfl⟩ := r.int_inv
  have x2 : Ext s1 { s1 with heap := s1.heap.push { cls := .type "range", data := .fields #[.int 0 s1.toks, .int b t, .int 1 (s1.toks + 1)] }, toks := s1.toks + 1 + 1 } := .push _ _ (by omega)
  exact call_range_1 fun _ => range_told' hA (x1.trans x2) ((hO.ext x1).ext x2) (Heap.get?_push_size _ rfl) ha hb hab
theorem it_range2 {e1 e2 : Expr} {m1 m2 : ME} {p pos : Pos} (g : Glob prog w h₀ env "range" (.type "range")) (h1 : Ev prog w h₀ Φ ns env k e1 m1) (h2 : Ev prog w h₀ Φ ns env k e2 m2)
    (hs : starEach [e1, e2] env = [(false, eval e1 env), (false, eval e2 env)] := by exact star_two rfl rfl) (hs' : starEach [e2] env = [(false, eval e2 env)] := by exact star_one rfl) : It prog w h₀ Φ ns env k (.Call (.Name "range" p) [e1, e2] [] pos) (.rng m1 m2) := by
  constructor; intro A s X ρ d ds hA hB hO V hd hi
  obtain ⟨a, b, ea, eb, ha, hb, hab, rfl⟩ := rng_inv hd
  obtain ⟨_, rfl⟩ := if_is hi
  refine wpAny_with_toks (n := s.toks) (Nat.le_refl _) ?_
  rw [arm_eval_Call_Name']
  refine wpAny_bind (g A s p _ _ hB ?_)
  refine PySem.callWith_type (by rw [hs]; rfl) (args_told (evs_cons h1 (evs_cons h2 evs_nil hs') (by rw [hs, hs'])) hA hB hO V (by simp only [ev, ea, eb, lst]; rfl) (by rw [hs, hs']) fun vs s1 x1 r1 => ?_)
  obtain ⟨_, _, rfl, ra, rb⟩ := reps_two r1
  obtain ⟨t, rfl⟩ := ra.int_inv
  obtain ⟨u, rfl⟩ := rb.int_inv
  have x2 : Ext s1 { s1 with heap := s1.heap.push { cls := .type "range", data := .fields #[.int a t, .int b u, .int 1 s1.toks] }, toks := s1.toks + 1 } := .push _ _ (by omega)
  exact call_range_2 fun _ => range_told' hA (x1.trans x2) ((hO.ext x1).ext x2) (Heap.get?_push_size _ rfl) ha hb hab
end
end Mine

namespace Mine
open PySem PySem.W PyProof.Rows

/-! a function's block while it runs -/
structure Fn (ns : List Str) (env : Env) (oc : List (Str × Addr)) : Prop where
  kind : env.scope.kind = .function
  nodup : ns.Nodup
  stor : ∀ x ∈ ns, storable env oc x
/-- what the data must keep off: the caller's, the block's names, the lists that are still being laid, the iterators -/
noncomputable def Y0 (X0 : Bd) (env : Env) (oc : List (Str × Addr)) (O : Addr → Prop) : Bd := ⟨fun b => X0.off b ∨ locs env oc b ∨ O b, X0.tok⟩
noncomputable def EnO (h : Heap) (Y : Bd) (O : Addr → Prop) (u : Option Value) : En → Prop
  | .no => True
  | .val d => ∃ v, u = some v ∧ Rep h Y v d
  | .own ds => ∃ a vs n, u = some (.ref a) ∧ O a ∧ h.get? a = some (lstObj vs n) ∧ Reps h Y vs ds
structure Fst (h₀ : B0) (ns : List Str) (env : Env) (oc : List (Str × Addr)) (s0 : Shared) (X0 : Bd) (P O : Addr → Prop) (s : Shared) (ρ : List En) (μ : Str → Option Value) : Prop where
  len : ns.length = ρ.length
  loc : Loc env oc s.heap μ
  get : ∀ (i : Nat) (x : Str) (e : En), ns[i]? = some x → ρ[i]? = some e → EnO s.heap (Y0 X0 env oc O) (fun a => O a ∧ ¬ P a) (μ x) e
  apart : ∀ (i j : Nat) (x y : Str) (ds es : List Dv) (a : Addr), ns[i]? = some x → ns[j]? = some y → ρ[i]? = some (.own ds) → ρ[j]? = some (.own es) → μ x = some (.ref a) → μ y = some (.ref a) → i = j
  new : ∀ b, locs env oc b ∨ O b → s0.heap.get? b = none
  sep : ∀ b, O b → ¬ locs env oc b
  live : ∀ b, O b → (s.heap.get? b).isSome = true
  sub : ∀ b, P b → O b
  ext : Ext s0 s
  base : ∀ b o, h₀.heap.get? b = some o → s0.heap.get? b = some o
  tok : h₀.tok ≤ s.toks
  old : Old X0 s0
/-- what a statement may have turned -/
structure Stp (env : Env) (oc : List (Str × Addr)) (P O O' : Addr → Prop) (s s' : Shared) : Prop where
  off : ∀ b, O' b → O b ∨ s.heap.get? b = none
  live : ∀ b, (s.heap.get? b).isSome = true → (s'.heap.get? b).isSome = true
  mv : Mv (fun b => (locs env oc b ∨ (O b ∧ ¬ P b)) ∨ s.heap.get? b = none) noG s s'
/-- names that are not the block's listed ones have not been stored -/
noncomputable def Pin (ns : List Str) (μ μ' : Str → Option Value) : Prop := ∀ y, y ∉ ns → μ' y = μ y
theorem Pin.refl (ns : List Str) (μ : Str → Option Value) : Pin ns μ μ := fun _ _ => rfl
theorem Pin.trans {ns : List Str} {μ μ' μ'' : Str → Option Value} (a : Pin ns μ μ') (b : Pin ns μ' μ'') : Pin ns μ μ'' := fun y h => (b y h).trans (a y h)
theorem pin_upd {ns : List Str} {i : Nat} {x : Str} {v : Value} (μ : Str → Option Value) (h : ns[i]? = some x) : Pin ns μ (upd μ x v) := fun y hy => by
  unfold upd; rw [if_neg]; rintro rfl; exact hy (List.mem_of_getElem? h)
theorem pin_upds {ns xs : List Str} {vs : List Value} (μ : Str → Option Value) (h : ∀ x ∈ xs, x ∈ ns) : Pin ns μ (upds μ xs vs) := fun y hy => upds_other xs vs μ y fun hm => hy (h y hm)
inductive Out | next (ρ : List En) | brk (ρ : List En) | ret (d : Dv)

theorem nodup_inj {α : Type} {l : List α} (h : l.Nodup) {i j : Nat} (hi : i < l.length) (hj : j < l.length) (e : l[i] = l[j]) : i = j := by
  rw [List.Nodup, List.pairwise_iff_getElem] at h
  rcases Nat.lt_trichotomy i j with c | c | c
  · exact absurd e (h i j hi hj c)
  · exact c
  · exact absurd e.symm (h j i hj hi c)
theorem none_of {h : Heap} {b : Addr} (n : ¬ (h.get? b).isSome = true) : h.get? b = none := by
  cases e : h.get? b with
  | none => rfl
  | some o => rw [e] at n; exact absurd rfl n
theorem Stp.none {env : Env} {oc : List (Str × Addr)} {P O O' : Addr → Prop} {s s' : Shared} (x : Stp env oc P O O' s s') {b : Addr} (e : s'.heap.get? b = none) : s.heap.get? b = none :=
  none_of fun h => by have := x.live b h; rw [e] at this; cases this
theorem Stp.trans {env : Env} {oc : List (Str × Addr)} {P O O' O'' : Addr → Prop} {s s' s'' : Shared} (x : Stp env oc P O O' s s') (y : Stp env oc P O' O'' s' s'') : Stp env oc P O O'' s s'' where
  off := fun b hb => (y.off b hb).elim (x.off b) fun e => .inr (x.none e)
  live := fun b hb => y.live b (x.live b hb)
  mv := x.mv.trans (y.mv.mono (fun b hb => hb.elim (fun hb => hb.elim (fun h => .inl (.inl h)) fun ⟨h, n⟩ => (x.off b h).elim (fun h => .inl (.inr ⟨h, n⟩)) .inr) fun e => .inr (x.none e)) fun _ f => f)
theorem Ext.stp {env : Env} {oc : List (Str × Addr)} {P O O' : Addr → Prop} {s s' : Shared} (x : Ext s s') (h : ∀ b, O' b → O b ∨ s.heap.get? b = none) : Stp env oc P O O' s s' :=
  ⟨h, fun b hb => by obtain ⟨o, e⟩ := Option.isSome_iff_exists.mp hb; rw [x.heap b o e]; rfl, x.mv⟩

section
variable {h₀ : B0} {ns : List Str} {env : Env} {oc : List (Str × Addr)} {s0 : Shared} {X0 : Bd} {P O : Addr → Prop} {s s' : Shared} {ρ : List En} {μ : Str → Option Value}

theorem EnO.mono {h h' : Heap} {Y Y' : Bd} {O O' : Addr → Prop} {u : Option Value} {e : En} (hk : ∀ b o, ¬ Y.off b → h.get? b = some o → h'.get? b = some o ∧ ¬ Y'.off b) (ht : Y.tok ≤ Y'.tok) (hO : ∀ a, O a → O' a ∧ ∀ o, h.get? a = some o → h'.get? a = some o) (x : EnO h Y O u e) : EnO h' Y' O' u e := by
  cases e with
  | no => trivial
  | val d => obtain ⟨v, e, r⟩ := x; exact ⟨v, e, r.mono hk ht⟩
  | own ds => obtain ⟨a, vs, n, e, o, g, r⟩ := x; exact ⟨a, vs, n, e, (hO a o).1, (hO a o).2 _ g, r.mono hk ht⟩

theorem Fst.nonew (F : Fst h₀ ns env oc s0 X0 P O s ρ μ) {b : Addr} (e : s.heap.get? b = none) : s0.heap.get? b = none :=
  none_of fun h => by obtain ⟨o, h⟩ := Option.isSome_iff_exists.mp h; rw [F.ext.heap b o h] at e; cases e
theorem Fst.bs (F : Fst h₀ ns env oc s0 X0 P O s ρ μ) : Bs h₀ s := ⟨fun b o e => F.ext.heap b o (F.base b o e), F.tok⟩
theorem Fst.oldY (F : Fst h₀ ns env oc s0 X0 P O s ρ μ) : Old (Y0 X0 env oc O) s :=
  ⟨fun b hb => hb.elim (fun h => (F.old.ext F.ext).at_ b h) fun hb => hb.elim (fun h => F.loc.live h) fun h => F.live b h, (F.old.ext F.ext).tok⟩
theorem Fst.vars (fn : Fn ns env oc) (F : Fst h₀ ns env oc s0 X0 P O s ρ μ) : Vars env s (Y0 X0 env oc O) ns ρ := by
  refine ⟨F.len, fun i x e h1 h2 _ => ?_⟩
  have vi : ∀ v, μ x = some v → VarIs env s x v := fun v hv => by
    rcases fn.stor x (List.mem_of_getElem? h1) with kl | ⟨kc, c, hc⟩
    · obtain ⟨m, n, e⟩ := F.loc.ns
      exact .inl ⟨kl, m, n, (e x kl).trans hv⟩
    · have := F.loc.cell x c hc
      rw [hv] at this
      exact .inr ⟨.inl kc, c, F.loc.look _ hc, this⟩
  have g := F.get i x e h1 h2
  cases e with
  | no => trivial
  | val d => obtain ⟨v, e, r⟩ := g; exact ⟨v, vi v e, r⟩
  | own ds => obtain ⟨a, vs, n, e, o, g, r⟩ := g; exact ⟨a, vs, n, vi _ e, g, r⟩

/-- the heap has grown, some of what is new is to be kept off -/
theorem Fst.grow (F : Fst h₀ ns env oc s0 X0 P O s ρ μ) (x : Ext s s') {N N' : Addr → Prop} (hN : ∀ b, N b → s.heap.get? b = none ∧ (s'.heap.get? b).isSome = true) (hN' : ∀ b, N' b → N b) :
    Fst h₀ ns env oc s0 X0 (fun b => P b ∨ N' b) (fun b => O b ∨ N b) s' ρ μ where
  len := F.len
  loc := F.loc.keep fun b o _ e => x.heap b o e
  get := fun i y e h1 h2 => by
    refine EnO.mono (Y := Y0 X0 env oc O) (Y' := Y0 X0 env oc fun b => O b ∨ N b) (O := fun a => O a ∧ ¬ P a) (fun b o n e => ⟨x.heap b o e, fun hb => ?_⟩) (Nat.le_refl X0.tok) (fun a ⟨ha, hp⟩ => ⟨⟨.inl ha, fun h => ?_⟩, fun o e => x.heap a o e⟩) (F.get i y e h1 h2)
    · rcases hb with h | h | h | h
      · exact n (.inl h)
      · exact n (.inr (.inl h))
      · exact n (.inr (.inr h))
      · rw [(hN b h).1] at e; cases e
    · rcases h with h | h
      · exact hp h
      · have := F.live a ha; rw [(hN a (hN' a h)).1] at this; cases this
  apart := F.apart
  new := fun b hb => by
    rcases hb with h | h | h
    · exact F.new b (.inl h)
    · exact F.new b (.inr h)
    · exact F.nonew (hN b h).1
  sep := fun b hb hl => by
    rcases hb with h | h
    · exact F.sep b h hl
    · have := F.loc.live hl; rw [(hN b h).1] at this; cases this
  live := fun b hb => by
    rcases hb with h | h
    · obtain ⟨o, e⟩ := Option.isSome_iff_exists.mp (F.live b h); rw [x.heap b o e]; rfl
    · exact (hN b h).2
  sub := fun b hb => hb.elim (fun h => .inl (F.sub b h)) fun h => .inr (hN' b h)
  ext := F.ext.trans x
  base := F.base
  tok := Nat.le_trans F.tok x.toks
  old := F.old
theorem Fst.same {P' O' : Addr → Prop} (F : Fst h₀ ns env oc s0 X0 P O s ρ μ) (hP : ∀ b, P' b ↔ P b) (hO : ∀ b, O' b ↔ O b) : Fst h₀ ns env oc s0 X0 P' O' s ρ μ := by
  have : P' = P := funext fun b => propext (hP b)
  subst this
  have : O' = O := funext fun b => propext (hO b)
  subst this
  exact F
theorem Fst.ext' (F : Fst h₀ ns env oc s0 X0 P O s ρ μ) (x : Ext s s') : Fst h₀ ns env oc s0 X0 P O s' ρ μ :=
  (F.grow x (N := fun _ => False) (N' := fun _ => False) (fun _ f => f.elim) fun _ f => f).same (fun b => by simp) fun b => by simp

/-- a name has been stored -/
theorem Fst.put (fn : Fn ns env oc) (F : Fst h₀ ns env oc s0 X0 P O s ρ μ) {i : Nat} {x : Str} {v : Value} {e : En} (hi : ns[i]? = some x) (l : Loc env oc s'.heap (upd μ x v)) (m : Mv (locs env oc) noG s s')
    (he : EnO s.heap (Y0 X0 env oc O) (fun a => O a ∧ ¬ P a) (some v) e) (ha : ∀ ds a j y es, e = .own ds → v = .ref a → j ≠ i → ns[j]? = some y → ρ[j]? = some (.own es) → μ y ≠ some (.ref a)) :
    Fst h₀ ns env oc s0 X0 P O s' (ρ.set i e) (upd μ x v) ∧ Stp env oc P O O s s' := by
  have hn : ∀ b, locs env oc b → s0.heap.get? b = none := fun b hb => F.new b (.inl hb)
  have hx : Ext s0 s' := m.ext F.ext hn fun _ f => f.elim
  have eqi : ∀ j, ns[j]? = some x → j = i := fun j hj => by
    obtain ⟨h1, e1⟩ := List.getElem?_eq_some_iff.mp hj
    obtain ⟨h2, e2⟩ := List.getElem?_eq_some_iff.mp hi
    exact nodup_inj fn.nodup h1 h2 (e1.trans e2.symm)
  have kp : ∀ u z, EnO s.heap (Y0 X0 env oc O) (fun a => O a ∧ ¬ P a) u z → EnO s'.heap (Y0 X0 env oc O) (fun a => O a ∧ ¬ P a) u z := fun u z h =>
    EnO.mono (Y := Y0 X0 env oc O) (Y' := Y0 X0 env oc O) (fun b o n e => ⟨m.heap b o (fun h => n (Or.inr (Or.inl h))) e, n⟩) (Nat.le_refl _) (fun a ha => ⟨ha, fun o e => m.heap a o (F.sep a ha.1) e⟩) h
  have live : ∀ b, (s.heap.get? b).isSome = true → (s'.heap.get? b).isSome = true := fun b hb => by
    obtain ⟨o, e⟩ := Option.isSome_iff_exists.mp hb
    by_cases hl : locs env oc b
    · exact l.live hl
    · rw [m.heap b o hl e]; rfl
  have hlt : i < ρ.length := by rw [← F.len]; exact (List.getElem?_eq_some_iff.mp hi).1
  refine ⟨⟨by rw [List.length_set]; exact F.len, l, fun j y z h1 h2 => ?_, ?_, F.new, F.sep, fun b hb => live b (F.live b hb), F.sub, hx, F.base, Nat.le_trans F.tok m.toks, F.old⟩, ⟨fun b h => .inl h, live, m.mono (fun b h => .inl (.inl h)) fun _ f => f⟩⟩
  · by_cases hj : j = i
    · subst hj
      rw [List.getElem?_set_self hlt] at h2
      cases h2
      rw [hi] at h1; cases h1
      have : upd μ x v x = some v := by simp [upd]
      rw [this]; exact kp _ _ he
    · rw [List.getElem?_set_ne (Ne.symm hj)] at h2
      have : upd μ x v y = μ y := by
        unfold upd; rw [if_neg]; rintro rfl; exact hj (eqi j h1)
      rw [this]; exact kp _ _ (F.get j y z h1 h2)
  · intro p q y z ds es a h1 h2 h3 h4 h5 h6
    have ux : ∀ j y, ns[j]? = some y → j ≠ i → upd μ x v y = μ y := fun j y h hj => by
      unfold upd; rw [if_neg]; rintro rfl; exact hj (eqi j h)
    by_cases hp : p = i
    · by_cases hq : q = i
      · rw [hp, hq]
      · subst hp
        rw [hi] at h1; cases h1
        rw [List.getElem?_set_self hlt] at h3; cases h3
        rw [List.getElem?_set_ne (Ne.symm hq)] at h4
        rw [ux q z h2 hq] at h6
        simp [upd] at h5; subst h5
        exact absurd h6 (ha _ _ q z es rfl rfl hq h2 h4)
    · by_cases hq : q = i
      · subst hq
        rw [hi] at h2; cases h2
        rw [List.getElem?_set_self hlt] at h4; cases h4
        rw [List.getElem?_set_ne (Ne.symm hp)] at h3
        rw [ux p y h1 hp] at h5
        simp [upd] at h6; subst h6
        exact absurd h5 (ha _ _ p y ds rfl rfl hp h1 h3)
      · rw [List.getElem?_set_ne (Ne.symm hp)] at h3
        rw [List.getElem?_set_ne (Ne.symm hq)] at h4
        rw [ux p y h1 hp] at h5
        rw [ux q z h2 hq] at h6
        exact F.apart p q y z ds es a h1 h2 h3 h4 h5 h6
end
end Mine

namespace Mine
open PySem PySem.W PyProof.Rows

/-- the state behind a statement -/
noncomputable def After (h₀ : B0) (ns : List Str) (env : Env) (oc : List (Str × Addr)) (s0 : Shared) (X0 : Bd) (P O : Addr → Prop) (s : Shared) (μ : Str → Option Value) : Out → Flow → Shared → Prop
  | .next ρ, .next, s' => ∃ μ' O', Fst h₀ ns env oc s0 X0 P O' s' ρ μ' ∧ Stp env oc P O O' s s' ∧ Pin ns μ μ'
  | .brk ρ, .brk, s' => ∃ μ' O', Fst h₀ ns env oc s0 X0 P O' s' ρ μ' ∧ Stp env oc P O O' s s' ∧ Pin ns μ μ'
  | .ret d, .ret v, s' => Ext s0 s' ∧ Rep s'.heap X0 v d
  | _, _, _ => False
noncomputable abbrev XF := List En → Option Out

section
variable (prog : Program) (w : World) (h₀ : B0) (Φ : Nat → List Dv → Option Dv) (ns : List Str) (env : Env) (oc : List (Str × Addr)) (k : Nat)
/-- a statement is told by a plain function -/
structure St1 (st : Stmt) (f : XF) : Prop where
  run : ∀ (A : Around) (s0 : Shared) (X0 : Bd) (P O : Addr → Prop) (s : Shared) (ρ : List En) (μ : Str → Option Value) (out : Out), Rm k A → Fst h₀ ns env oc s0 X0 P O s ρ μ → f ρ = some out →
    wpAny (model prog w) A (exec st env) (After h₀ ns env oc s0 X0 P O s μ out) (fun _ _ => False) s
/-- a block is -/
structure Ex (ss : List Stmt) (f : XF) : Prop where
  run : ∀ (A : Around) (s0 : Shared) (X0 : Bd) (P O : Addr → Prop) (s : Shared) (ρ : List En) (μ : Str → Option Value) (out : Out), Rm k A → Fst h₀ ns env oc s0 X0 P O s ρ μ → f ρ = some out →
    wpAny (model prog w) A (execs ss env) (After h₀ ns env oc s0 X0 P O s μ out) (fun _ _ => False) s
end

noncomputable def xnil : XF := fun ρ => some (.next ρ)
noncomputable def xseq (g f : XF) : XF := fun ρ => (g ρ).bind fun o => match o with | .next ρ' => f ρ' | o => some o
noncomputable def xset (Φ : Nat → List Dv → Option Dv) (i : Nat) (m : ME) : XF := fun ρ => (ev Φ m ρ).map fun d => .next (ρ.set i (.val d))
noncomputable def xret (Φ : Nat → List Dv → Option Dv) (m : ME) : XF := fun ρ => (ev Φ m ρ).map .ret
noncomputable def xbrk : XF := fun ρ => some (.brk ρ)
noncomputable def xif (Φ : Nat → List Dv → Option Dv) (m : ME) (a b : XF) : XF := fun ρ => match ev Φ m ρ with | some (.bool true) => a ρ | some (.bool false) => b ρ | _ => none
noncomputable def xown (i : Nat) : XF := fun ρ => some (.next (ρ.set i (.own [])))
noncomputable def xapp (Φ : Nat → List Dv → Option Dv) (i : Nat) (m : ME) : XF := fun ρ => match ρ[i]? with | some (.own ds) => if ds.length ≤ 100000 then (ev Φ m ρ).map fun d => .next (ρ.set i (.own (ds ++ [d]))) else none | _ => none
noncomputable def free (i : Nat) (ρ : List En) : List En := match ρ[i]? with | some (.own ds) => ρ.set i (.val (.list ds)) | _ => ρ
noncomputable def xfree (i : Nat) (f : XF) : XF := fun ρ => f (free i ρ)

section
variable {prog : Program} {w : World} {h₀ : B0} {Φ : Nat → List Dv → Option Dv} {ns : List Str} {env : Env} {oc : List (Str × Addr)} {k : Nat}
variable {s0 : Shared} {X0 : Bd} {P O : Addr → Prop} {s s' : Shared} {ρ : List En} {μ μ' : Str → Option Value}

theorem Stp.refl (env : Env) (oc : List (Str × Addr)) (P O : Addr → Prop) (s : Shared) : Stp env oc P O O s s := (Ext.refl s).stp fun _ h => .inl h
theorem After.trans {O' : Addr → Prop} {out : Out} {fl : Flow} {s'' : Shared} (x : Stp env oc P O O' s s') (p : Pin ns μ μ') (a : After h₀ ns env oc s0 X0 P O' s' μ' out fl s'') : After h₀ ns env oc s0 X0 P O s μ out fl s'' := by
  cases out <;> cases fl <;> first
    | exact a.elim
    | exact a
    | (obtain ⟨μ2, O'', F, y, q⟩ := a; exact ⟨μ2, O'', F, x.trans y, p.trans q⟩)

/-- an expression in a block -/
theorem ev_in {A : Around} {e : Expr} {m : ME} {d : Dv} (fn : Fn ns env oc) (h : Ev prog w h₀ Φ ns env k e m) (hA : Rm k A) (F : Fst h₀ ns env oc s0 X0 P O s ρ μ) (hd : ev Φ m ρ = some d) {Q : Value → Shared → Prop} {E : Value → Shared → Prop}
    (hQ : ∀ v s', Ext s s' → Rep s'.heap (Y0 X0 env oc O) v d → Q v s') : wpAny (model prog w) A (eval e env) Q E s :=
  wpAny_told (h.run A s _ ρ d hA F.bs F.oldY (F.vars fn) hd) fun v s' _ ⟨x, r⟩ => hQ v s' x r
theorem tst_in {A : Around} {e : Expr} {m : ME} {b : Bool} (fn : Fn ns env oc) (h : Tst prog w h₀ Φ ns env k e m) (hA : Rm k A) (F : Fst h₀ ns env oc s0 X0 P O s ρ μ) (hd : ev Φ m ρ = some (.bool b)) {Q : Bool → Shared → Prop} {E : Value → Shared → Prop}
    (hQ : ∀ s', Ext s s' → Q b s') : wpAny (model prog w) A (isTrue e env (eval e env)) Q E s :=
  wpAny_told (h.run A s _ ρ b hA F.bs F.oldY (F.vars fn) hd) fun v s' _ ⟨e, x⟩ => by subst e; exact hQ s' x
/-- a datum is stored -/
theorem put_val {A : Around} {i : Nat} {x : Str} {v : Value} {d : Dv} (fn : Fn ns env oc) (F : Fst h₀ ns env oc s0 X0 P O s ρ μ) (hi : ns[i]? = some x) (r : Rep s.heap (Y0 X0 env oc O) v d) {Q : Unit → Shared → Prop} {E : Value → Shared → Prop}
    (hQ : ∀ s', Fst h₀ ns env oc s0 X0 P O s' (ρ.set i (.val d)) (upd μ x v) → Stp env oc P O O s s' → Mv (locs env oc) noG s s' → Q () s') : wpAny (model prog w) A (storeName env x v) Q E s :=
  F.loc.store fn.kind (fn.stor x (List.mem_of_getElem? hi)) fun s' l m _ => by
    obtain ⟨F', st⟩ := F.put fn hi l m (e := .val d) ⟨v, rfl, r⟩ (by intro ds a j y es h; cases h)
    exact hQ s' F' st m

theorem ex_nil : Ex prog w h₀ ns env oc k [] xnil := by
  constructor; intro A s0 X0 P O s ρ μ out _ F h
  cases h
  exact wpAny_execs_nil ⟨μ, O, F, .refl _ _ _ _ _, .refl _ _⟩
theorem ex_cons {st : Stmt} {ss : List Stmt} {g f : XF} (h1 : St1 prog w h₀ ns env oc k st g) (h2 : Ex prog w h₀ ns env oc k ss f) : Ex prog w h₀ ns env oc k (st :: ss) (xseq g f) := by
  constructor; intro A s0 X0 P O s ρ μ out hA F h
  simp only [xseq, Option.bind_eq_some_iff] at h
  obtain ⟨o, ho, h⟩ := h
  refine wpAny_execs_cons (wpAny_mono (h1.run A s0 X0 P O s ρ μ o hA F ho) (fun fl s1 a => ?_) fun _ _ f => f)
  cases o with
  | next ρ' =>
    cases fl <;> try exact a.elim
    obtain ⟨μ', O', F', y, q⟩ := a
    exact wpAny_mono (h2.run A s0 X0 P O' s1 ρ' μ' out hA F' h) (fun fl s2 a => a.trans y q) fun _ _ f => f
  | brk ρ' =>
    cases h
    cases fl <;> first | exact a.elim | exact a
  | ret d =>
    cases h
    cases fl <;> first | exact a.elim | exact a
theorem ex_one {st : Stmt} {g : XF} (h1 : St1 prog w h₀ ns env oc k st g) : Ex prog w h₀ ns env oc k [st] g := by
  have := ex_cons h1 (ex_nil (h₀ := h₀) (ns := ns) (oc := oc) (k := k) (env := env) (prog := prog) (w := w))
  have e : xseq g xnil = g := by
    funext ρ
    unfold xseq xnil
    cases g ρ with
    | none => rfl
    | some o => cases o <;> rfl
  rw [e] at this; exact this
theorem st_set {x : Str} {e : Expr} {m : ME} {i : Nat} {p pos : Pos} (fn : Fn ns env oc) (hi : ns[i]? = some x) (h : Ev prog w h₀ Φ ns env k e m) (hs : swapsWith e (some (.Name x p)) pos.line env = pure false := by rfl) :
    St1 prog w h₀ ns env oc k (.Assign [.Name x p] e pos) (xset Φ i m) := by
  constructor; intro A s0 X0 P O s ρ μ out hA F ho
  simp only [xset, Option.map_eq_some_iff] at ho
  obtain ⟨d, hd, rfl⟩ := ho
  exact wpAny_Assign_Name (ev_in fn h hA F hd fun v s1 x1 r => put_val fn (F.ext' x1) hi r fun s2 F2 y2 _ => ⟨_, O, F2, (x1.stp fun _ h => .inl h).trans y2, pin_upd _ hi⟩) hs
theorem st_ret {e : Expr} {m : ME} {pos : Pos} (fn : Fn ns env oc) (h : Ev prog w h₀ Φ ns env k e m) : St1 prog w h₀ ns env oc k (.Return (some e) pos) (xret Φ m) := by
  constructor; intro A s0 X0 P O s ρ μ out hA F ho
  simp only [xret, Option.map_eq_some_iff] at ho
  obtain ⟨d, hd, rfl⟩ := ho
  exact wpAny_Return_some (ev_in fn h hA F hd fun v s1 x1 r => ⟨F.ext.trans x1, Rep.sub (X := Y0 X0 env oc O) (X' := X0) (fun b h => Or.inl h) (Nat.le_refl _) r⟩)
theorem st_brk {pos : Pos} : St1 prog w h₀ ns env oc k (.Break pos) xbrk := by
  constructor; intro A s0 X0 P O s ρ μ out hA F ho
  cases ho
  exact wpAny_Break ⟨μ, O, F, .refl _ _ _ _ _, .refl _ _⟩
theorem st_if {c : Expr} {m : ME} {a b : List Stmt} {fa fb : XF} {pos : Pos} (fn : Fn ns env oc) (h : Tst prog w h₀ Φ ns env k c m) (h1 : Ex prog w h₀ ns env oc k a fa) (h2 : Ex prog w h₀ ns env oc k b fb) :
    St1 prog w h₀ ns env oc k (.If c a b pos) (xif Φ m fa fb) := by
  constructor; intro A s0 X0 P O s ρ μ out hA F ho
  simp only [xif] at ho
  refine wpAny_If ?_
  split at ho
  · rename_i hc
    exact tst_in fn h hA F hc fun s1 x1 => wpAny_mono (h1.run A s0 X0 P O s1 ρ μ out hA (F.ext' x1) ho) (fun _ _ a => a.trans (x1.stp fun _ h => .inl h) (.refl _ _)) fun _ _ f => f
  · rename_i hc
    exact tst_in fn h hA F hc fun s1 x1 => wpAny_mono (h2.run A s0 X0 P O s1 ρ μ out hA (F.ext' x1) ho) (fun _ _ a => a.trans (x1.stp fun _ h => .inl h) (.refl _ _)) fun _ _ f => f
  · cases ho

/-- a new empty list is stored -/
theorem put_own {A : Around} {i : Nat} {x : Str} {a : Addr} {n : Nat} (fn : Fn ns env oc) (F : Fst h₀ ns env oc s0 X0 P O s ρ μ) (x1 : Ext s s') (hn : s.heap.get? a = none) (he : s'.heap.get? a = some (lstObj [] n)) (hi : ns[i]? = some x) {Q : Unit → Shared → Prop} {E : Value → Shared → Prop}
    (hQ : ∀ s'' O', Fst h₀ ns env oc s0 X0 P O' s'' (ρ.set i (.own [])) (upd μ x (.ref a)) → Stp env oc P O O' s s'' → Mv (locs env oc) noG s' s'' → Q () s'') : wpAny (model prog w) A (storeName env x (.ref a)) Q E s' := by
  have F1 : Fst h₀ ns env oc s0 X0 P (fun b => O b ∨ b = a) s' ρ μ := (F.grow x1 (N := fun b => b = a) (N' := fun _ => False) (fun b e => by subst e; exact ⟨hn, by rw [he]; rfl⟩) fun _ f => f.elim).same (fun b => by simp) fun b => Iff.rfl
  refine F1.loc.store fn.kind (fn.stor x (List.mem_of_getElem? hi)) fun s2 l m _ => ?_
  obtain ⟨F2, y2⟩ := F1.put fn hi l m (e := .own []) ⟨a, [], n, rfl, ⟨.inr rfl, fun hp => by have := F.live a (F.sub a hp); rw [hn] at this; cases this⟩, he, .nil⟩ (by
    intro ds a' j y es h1 h2 h3 h4 h5 h6
    cases h2
    have := F.get j y _ h4 h5
    obtain ⟨b, _, _, e, o, _⟩ := this
    rw [h6] at e; cases e
    have := F.live _ o.1; rw [hn] at this; cases this)
  exact hQ s2 _ F2 ((x1.stp fun b h => h.elim .inl fun e => .inr (e ▸ hn)).trans y2) m
theorem st_own {x : Str} {i : Nat} {p q pos : Pos} (fn : Fn ns env oc) (hi : ns[i]? = some x) (hs : swapsWith (.List [] q) (some (.Name x p)) pos.line env = pure false := by rfl) :
    St1 prog w h₀ ns env oc k (.Assign [.Name x p] (.List [] q) pos) (xown i) := by
  constructor; intro A s0 X0 P O s ρ μ out hA F ho
  cases ho
  refine wpAny_Assign_Name (wpAny_List (wpAny_pure ⟨by simp, ?_⟩)) hs
  exact put_own fn F (.push s _ (Nat.le_refl _)) (new_none _) (Heap.get?_push_size _ rfl) hi fun s2 O' F2 y2 _ => ⟨_, O', F2, y2, pin_upd _ hi⟩

theorem load_is {A : Around} {x : Str} {v : Value} {Q : Value → Shared → Prop} {E : Value → Shared → Prop} (hk : env.scope.kind = .function) (h : VarIs env s x v) (hQ : Q v s)
    (hc : (x == ("__classdict__" : Str)) = false) : wpAny (model prog w) A (loadName env x) Q E s := by
  rcases h with ⟨kd, m, n, e⟩ | ⟨kd | kd, c, l, i⟩
  · exact wpAny_loadName_local hk kd n e hQ
  · exact wpAny_loadName_cell hk kd l i hQ
  · exact wpAny_loadName_free hk kd l i hQ hc

theorem st_app {x : Str} {e : Expr} {m : ME} {i : Nat} {p ap cp pos : Pos} (fn : Fn ns env oc) (hi : ns[i]? = some x) (h : Ev prog w h₀ Φ ns env k e m)
    (hd : (x == ("__debug__" : Str)) = false := by rfl) (hc : (x == ("__classdict__" : Str)) = false := by rfl)
    (hbase : attributeBase (.Name x p) "append" env (eval (.Name x p) env) = eval (.Name x p) env := by rfl) (hst : starEach [e] env = [(false, eval e env)] := by exact star_one rfl) (hline : (ap.endLine == cp.line) = true := by rfl)
    (hi' : interactive env = false := by rfl) (hs : swapsWith (.Call (.Attribute (.Name x p) "append" ap) [e] [] cp) none pos.line env = pure false := by rfl) :
    St1 prog w h₀ ns env oc k (.Expr (.Call (.Attribute (.Name x p) "append" ap) [e] [] cp) pos) (xapp Φ i m) := by
  constructor; intro A s0 X0 P O s ρ μ out hA F ho
  simp only [xapp] at ho
  split at ho
  · rename_i ds hρ
    split at ho
    · rename_i hlen
      simp only [Option.map_eq_some_iff] at ho
      obtain ⟨d, hd', rfl⟩ := ho
      obtain ⟨a, vs, n, hμ, hOa, ha, rs⟩ := F.get i x _ hi hρ
      have vi : VarIs env s x (.ref a) := by
        obtain ⟨a', _, _, vi, e2, _⟩ := (F.vars fn).get i x _ hi hρ (by
          rcases fn.stor x (List.mem_of_getElem? hi) with h | h
          · exact .inl h
          · exact .inr (.inl h.1))
        rcases vi with ⟨k1, m1, n1, q1⟩ | ⟨k1, c, lc, ic⟩
        · obtain ⟨m2, n2, q2⟩ := F.loc.ns
          exact .inl ⟨k1, m2, n2, (q2 x k1).trans hμ⟩
        · rcases fn.stor x (List.mem_of_getElem? hi) with h | ⟨_, c', hc'⟩
          · rcases k1 with k1 | k1 <;> (rw [h] at k1; cases k1)
          · have := F.loc.cell x c' hc'
            rw [hμ] at this
            exact .inr ⟨k1, c', F.loc.look _ hc', this⟩
      refine wpAny_Expr ?_ hi' hs
      refine Call_method1 hbase hst hline (name_is fn.kind vi ?_ hd hc)
      refine ⟨"list", "list.append", PySem.F.plainAttrs_list, PySem.F.slot_list_append, type_list_append, ⟨_, ha, rfl⟩, fun b e => by cases e; exact ⟨_, ha, rfl⟩, ?_⟩
      refine Calls.callWith_builtin rfl (Calls.evalArgs_plain (Calls.spliced_cons (ev_in fn h hA F hd' fun v s1 x1 r => Calls.spliced_nil ?_)))
      refine wpAny_list_append_plain (l := a) (items := vs.toArray) ⟨n, x1.heap _ _ ha⟩ (fun h2 p2 hs2 => ?_) (by simp only [List.size_toArray]; show vs.length ≤ 16777216; have := rs.length; omega)
      obtain ⟨n2, e2⟩ := p2
      have F1 := F.ext' x1
      have m2 : Mv (fun b => b = a) noG s1 { s1 with heap := h2 } := mv_one hs2 rfl (Nat.le_refl _)
      have hal : ¬ locs env oc a := F.sep a hOa.1
      have hY : ∀ b, b = a → (Y0 X0 env oc O).off b := fun b e => .inr (.inr (e ▸ hOa.1))
      have live : ∀ b, (s1.heap.get? b).isSome = true → (h2.get? b).isSome = true := fun b hb => by
        obtain ⟨o, e⟩ := Option.isSome_iff_exists.mp hb
        by_cases hl : b = a
        · subst hl; rw [e2]; rfl
        · have := m2.heap b o hl e
          rw [show h2.get? b = some o from this]; rfl
      refine ⟨μ, O, ⟨by rw [List.length_set]; exact F.len, F1.loc.keep fun b o hb e => m2.heap b o (fun h => hal (h ▸ hb)) e, fun j y z h1 h2' => ?_, ?_, F.new, F.sep, fun b hb => live b (F1.live b hb), F.sub, m2.ext F1.ext (fun b e => F.new b (.inr (e ▸ hOa.1))) fun _ f => f.elim, F.base, Nat.le_trans F1.tok m2.toks, F.old⟩,
        (x1.stp fun _ h => .inl h).trans ⟨fun _ h => .inl h, live, m2.mono (fun b e => .inl (.inr (e ▸ hOa))) fun _ f => f⟩, .refl _ _⟩
      · by_cases hj : j = i
        · subst hj
          have hlt : j < ρ.length := by rw [← F.len]; exact (List.getElem?_eq_some_iff.mp hi).1
          rw [List.getElem?_set_self hlt] at h2'
          cases h2'
          rw [hi] at h1; cases h1
          rw [List.push_toArray] at e2
          exact ⟨a, _, n2, hμ, hOa, e2, m2.reps hY ((rs.ext x1).append (.cons r .nil))⟩
        · rw [List.getElem?_set_ne (Ne.symm hj)] at h2'
          have g := F1.get j y z h1 h2'
          cases z with
          | no => trivial
          | val d' => obtain ⟨v', e', r'⟩ := g; exact ⟨v', e', m2.rep hY r'⟩
          | own ds' =>
            obtain ⟨b, vs', n', e', o', g', r'⟩ := g
            refine ⟨b, vs', n', e', o', m2.heap b _ (fun h => ?_) g', m2.reps hY r'⟩
            subst h
            exact hj (F.apart j i y x _ _ _ h1 hi h2' hρ e' hμ)
      · intro p q y z ds' es' b h1 h2' h3 h4 h5 h6
        have own : ∀ p (ds' : List Dv), (ρ.set i (En.own (ds ++ [d])))[p]? = some (En.own ds') → ∃ ds'', ρ[p]? = some (En.own ds'') := fun p ds' hp => by
          by_cases hj : p = i
          · exact ⟨_, hj ▸ hρ⟩
          · rw [List.getElem?_set_ne (Ne.symm hj)] at hp; exact ⟨_, hp⟩
        obtain ⟨d3, h3⟩ := own _ _ h3
        obtain ⟨d4, h4⟩ := own _ _ h4
        exact F.apart p q y z _ _ b h1 h2' h3 h4 h5 h6
    · cases ho
  · cases ho
end
end Mine

namespace Mine
open PySem PySem.W PyProof.Rows

noncomputable def puts : List En → List Nat → List Dv → List En
  | ρ, i :: is, b :: bs => puts (ρ.set i (.val b)) is bs
  | ρ, _, _ => ρ
theorem puts_len : ∀ (ρ : List En) (is : List Nat) (bs : List Dv), (puts ρ is bs).length = ρ.length
  | ρ, [], bs => by cases bs <;> rfl
  | ρ, i :: is, [] => rfl
  | ρ, i :: is, b :: bs => by unfold puts; rw [puts_len, List.length_set]
theorem puts_get : ∀ (is : List Nat) (bs : List Dv) (ρ : List En) (i : Nat) (e : En), (puts ρ is bs)[i]? = some e → ρ[i]? = some e ∧ (is.length = bs.length → i ∉ is) ∨ ∃ (j : Nat) (b : Dv), is[j]? = some i ∧ bs[j]? = some b ∧ e = .val b
  | [], bs, ρ, i, e, h => by cases bs <;> exact .inl ⟨h, fun _ => by simp⟩
  | j :: is, [], ρ, i, e, h => .inl ⟨h, fun hl => by simp at hl⟩
  | j :: is, b :: bs, ρ, i, e, h => by
    unfold puts at h
    rcases puts_get is bs _ i e h with ⟨h, hn⟩ | ⟨k, c, h1, h2, h3⟩
    · by_cases hj : j = i
      · subst hj
        have hlt : j < ρ.length := by
          obtain ⟨hl, _⟩ := List.getElem?_eq_some_iff.mp h
          rw [List.length_set] at hl; exact hl
        rw [List.getElem?_set_self hlt] at h
        cases h
        exact .inr ⟨0, b, rfl, rfl, rfl⟩
      · rw [List.getElem?_set_ne hj] at h
        refine .inl ⟨h, fun hl => ?_⟩
        simp only [List.length_cons, Nat.add_right_cancel_iff] at hl
        simp only [List.mem_cons, not_or]
        exact ⟨fun e => hj e.symm, hn hl⟩
    · exact .inr ⟨k + 1, c, h1, h2, h3⟩
noncomputable def xloop (n : Nat) (is : List Nat) (body : XF) : List Dv → XF
  | [], ρ => some (.next ρ)
  | d :: ds, ρ => (bindT n d).bind fun bs => match body (puts ρ is bs) with
    | some (.next ρ') => xloop n is body ds ρ'
    | some (.brk ρ') => some (.next ρ')
    | some (.ret v) => some (.ret v)
    | none => none
noncomputable def xfor (Φ : Nat → List Dv → Option Dv) (n : Nat) (is : List Nat) (src : ME) (body : XF) : XF := fun ρ => ((ev Φ src ρ).bind items).bind fun ds => xloop n is body ds ρ
section
variable {prog : Program} {w : World} {h₀ : B0} {Φ : Nat → List Dv → Option Dv} {ns : List Str} {env : Env} {oc : List (Str × Addr)} {k : Nat}
variable {s0 : Shared} {X0 : Bd} {P O : Addr → Prop} {s s' : Shared} {ρ ρ' : List En} {μ μ' : Str → Option Value}

/-- data have been stored -/
theorem Fst.moved (F : Fst h₀ ns env oc s0 X0 P O s ρ μ) (l : Loc env oc s'.heap μ') (m : Mv (locs env oc) noG s s') (hl : ns.length = ρ'.length)
    (h : ∀ (i : Nat) (y : Str) (e : En), ns[i]? = some y → ρ'[i]? = some e → (μ' y = μ y ∧ ρ[i]? = some e) ∨ (∃ d v, e = .val d ∧ μ' y = some v ∧ Rep s'.heap (Y0 X0 env oc O) v d)) :
    Fst h₀ ns env oc s0 X0 P O s' ρ' μ' ∧ Stp env oc P O O s s' := by
  have hn : ∀ b, locs env oc b → s0.heap.get? b = none := fun b hb => F.new b (.inl hb)
  have kp : ∀ u z, EnO s.heap (Y0 X0 env oc O) (fun a => O a ∧ ¬ P a) u z → EnO s'.heap (Y0 X0 env oc O) (fun a => O a ∧ ¬ P a) u z := fun u z h =>
    EnO.mono (Y := Y0 X0 env oc O) (Y' := Y0 X0 env oc O) (fun b o n e => ⟨m.heap b o (fun h => n (Or.inr (Or.inl h))) e, n⟩) (Nat.le_refl _) (fun a ha => ⟨ha, fun o e => m.heap a o (F.sep a ha.1) e⟩) h
  have live : ∀ b, (s.heap.get? b).isSome = true → (s'.heap.get? b).isSome = true := fun b hb => by
    obtain ⟨o, e⟩ := Option.isSome_iff_exists.mp hb
    by_cases hl : locs env oc b
    · exact l.live hl
    · rw [m.heap b o hl e]; rfl
  refine ⟨⟨hl, l, fun j y z h1 h2 => ?_, ?_, F.new, F.sep, fun b hb => live b (F.live b hb), F.sub, m.ext F.ext hn fun _ f => f.elim, F.base, Nat.le_trans F.tok m.toks, F.old⟩, ⟨fun b h => .inl h, live, m.mono (fun b h => .inl (.inl h)) fun _ f => f⟩⟩
  · rcases h j y z h1 h2 with ⟨e, h3⟩ | ⟨d, v, rfl, e, r⟩
    · rw [e]; exact kp _ _ (F.get j y z h1 h3)
    · exact ⟨v, e, r⟩
  · intro p q y z ds es a h1 h2 h3 h4 h5 h6
    rcases h p y _ h1 h3 with ⟨e1, h3⟩ | ⟨_, _, e, _⟩
    · rcases h q z _ h2 h4 with ⟨e2, h4⟩ | ⟨_, _, e, _⟩
      · rw [e1] at h5; rw [e2] at h6
        exact F.apart p q y z ds es a h1 h2 h3 h4 h5 h6
      · cases e
    · cases e
/-- names that stand at places -/
noncomputable def At (ns : List Str) (is : List Nat) (xs : List Str) : Prop := is.map (fun i => ns[i]?) = xs.map some
theorem At.get {is : List Nat} {xs : List Str} (a : At ns is xs) {j i : Nat} (h : is[j]? = some i) : ∃ x, xs[j]? = some x ∧ ns[i]? = some x := by
  have e : (is.map (fun i => ns[i]?))[j]? = (xs.map some)[j]? := by rw [a]
  rw [List.getElem?_map, List.getElem?_map, h] at e
  cases hx : xs[j]? with
  | none => rw [hx] at e; cases e
  | some x => rw [hx] at e; simp at e; exact ⟨x, rfl, e⟩
theorem At.len {is : List Nat} {xs : List Str} (a : At ns is xs) : is.length = xs.length := by
  have := congrArg List.length a
  simpa using this
theorem Fst.puts (fn : Fn ns env oc) (F : Fst h₀ ns env oc s0 X0 P O s ρ μ) {is : List Nat} {xs : List Str} {vs : List Value} {bs : List Dv} (a : At ns is xs) (hnd : xs.Nodup) (l : Loc env oc s'.heap (upds μ xs vs)) (m : Mv (locs env oc) noG s s')
    (r : Reps s'.heap (Y0 X0 env oc O) vs bs) (hl : vs.length = xs.length) : Fst h₀ ns env oc s0 X0 P O s' (puts ρ is bs) (upds μ xs vs) ∧ Stp env oc P O O s s' := by
  refine F.moved l m (by rw [puts_len]; exact F.len) fun i y e h1 h2 => ?_
  rcases puts_get is bs ρ i e h2 with ⟨h, hn⟩ | ⟨j, b, h3, h4, rfl⟩
  · have hni := hn (by rw [a.len, ← hl, r.length])
    refine .inl ⟨upds_other xs vs μ y fun hy => ?_, h⟩
    obtain ⟨j, hj, e1⟩ := List.getElem_of_mem hy
    have hij : is[j]? = some (is[j]'(by rw [a.len]; exact hj)) := List.getElem?_eq_getElem _
    obtain ⟨x, hx, hnx⟩ := a.get hij
    rw [List.getElem?_eq_getElem hj, e1] at hx
    cases hx
    obtain ⟨p1, q1⟩ := List.getElem?_eq_some_iff.mp hnx
    obtain ⟨p2, q2⟩ := List.getElem?_eq_some_iff.mp h1
    have := nodup_inj fn.nodup p1 p2 (q1.trans q2.symm)
    exact hni (this ▸ List.getElem_mem _)
  · obtain ⟨x, hx, hnx⟩ := a.get h3
    rw [h1] at hnx; cases hnx
    obtain ⟨v, hv, rv⟩ := r.get h4
    exact .inr ⟨b, v, rfl, upds_get xs vs μ j y v hnd hx hv, rv⟩

/-- an iterator has gone on; what it holds has grown -/
theorem Fst.iter {f f' : Addr → Prop} {gs : Nat → Prop} (F : Fst h₀ ns env oc s0 X0 (fun b => P b ∨ f b) O s ρ μ) (m : Mv f gs s s') (hff : ∀ b, f b → f' b) (hnew : ∀ b, f' b → f b ∨ s.heap.get? b = none) (hgs : ∀ i, gs i → s0.gens[i]? = none) (hl : ∀ b, f' b → (s'.heap.get? b).isSome = true) :
    Fst h₀ ns env oc s0 X0 (fun b => P b ∨ f' b) (fun b => O b ∨ f' b) s' ρ μ where
  len := F.len
  loc := F.loc.keep fun b o hb e => m.heap b o (fun h => F.sep b (F.sub b (.inr h)) hb) e
  get := fun i y e h1 h2 => EnO.mono (Y := Y0 X0 env oc O) (Y' := Y0 X0 env oc fun b => O b ∨ f' b) (fun b o n e => ⟨m.heap b o (fun h => n (Or.inr (Or.inr (F.sub b (.inr h))))) e, fun h => n (h.elim .inl fun h => .inr (h.elim .inl fun h => .inr (h.elim (fun h => h) fun h => (hnew b h).elim (fun h => F.sub b (.inr h)) fun h => by rw [h] at e; cases e)))⟩) (Nat.le_refl _)
    (fun a ha => ⟨⟨.inl ha.1, fun h => h.elim (fun h => ha.2 (.inl h)) fun h => (hnew a h).elim (fun h => ha.2 (.inr h)) fun h => by have := F.live a ha.1; rw [h] at this; cases this⟩, fun o e => m.heap a o (fun h => ha.2 (.inr h)) e⟩) (F.get i y e h1 h2)
  apart := F.apart
  new := fun b hb => hb.elim (fun h => F.new b (.inl h)) fun h => h.elim (fun h => F.new b (.inr h)) fun h => (hnew b h).elim (fun h => F.new b (.inr (F.sub b (.inr h)))) F.nonew
  sep := fun b hb hL => hb.elim (fun h => F.sep b h hL) fun h => (hnew b h).elim (fun h => F.sep b (F.sub b (.inr h)) hL) fun h => by have := F.loc.live hL; rw [h] at this; cases this
  live := fun b hb => by
    by_cases h : f' b
    · exact hl b h
    · rcases hb with hb | hb
      · obtain ⟨o, e⟩ := Option.isSome_iff_exists.mp (F.live b hb)
        rw [m.heap b o (fun q => h (hff b q)) e]; rfl
      · exact absurd hb h
  sub := fun b hb => hb.elim (fun h => .inl (F.sub b (.inl h))) .inr
  ext := m.ext F.ext (fun b h => F.new b (.inr (F.sub b (.inr h)))) hgs
  base := F.base
  tok := Nat.le_trans F.tok m.toks
  old := F.old
/-- and is left -/
theorem Fst.left {fp : Addr → Prop} {gs : Nat → Prop} (F : Fst h₀ ns env oc s0 X0 (fun b => P b ∨ fp b) O s ρ μ) (m : Mv fp gs s s') (hgs : ∀ i, gs i → s0.gens[i]? = none) (hd : ∀ b, P b → ¬ fp b) :
    Fst h₀ ns env oc s0 X0 P (fun b => O b ∧ ¬ fp b) s' ρ μ where
  len := F.len
  loc := F.loc.keep fun b o hb e => m.heap b o (fun h => F.sep b (F.sub b (.inr h)) hb) e
  get := fun i y e h1 h2 => EnO.mono (Y := Y0 X0 env oc O) (Y' := Y0 X0 env oc fun b => O b ∧ ¬ fp b) (fun b o n e => ⟨m.heap b o (fun h => n (Or.inr (Or.inr (F.sub b (.inr h))))) e, fun h => n (h.elim .inl fun h => .inr (h.elim .inl fun h => .inr h.1))⟩) (Nat.le_refl _)
    (fun a ha => ⟨⟨⟨ha.1, fun h => ha.2 (.inr h)⟩, fun h => ha.2 (.inl h)⟩, fun o e => m.heap a o (fun h => ha.2 (.inr h)) e⟩) (F.get i y e h1 h2)
  apart := F.apart
  new := fun b hb => F.new b (hb.elim .inl fun h => .inr h.1)
  sep := fun b hb => F.sep b hb.1
  live := fun b hb => by
    obtain ⟨o, e⟩ := Option.isSome_iff_exists.mp (F.live b hb.1)
    rw [m.heap b o hb.2 e]; rfl
  sub := fun b hb => ⟨F.sub b (.inl hb), hd b hb⟩
  ext := m.ext F.ext (fun b h => F.new b (.inr (F.sub b (.inr h)))) hgs
  base := F.base
  tok := Nat.le_trans F.tok m.toks
  old := F.old
/-- a list is laid: it is a datum now -/
theorem Fst.freed (fn : Fn ns env oc) (F : Fst h₀ ns env oc s0 X0 P O s ρ μ) (i : Nat) : ∃ O', Fst h₀ ns env oc s0 X0 P O' s (free i ρ) μ ∧ ∀ b, O' b → O b := by
  unfold free
  split
  · rename_i ds hρ
    have hlt : i < ρ.length := (List.getElem?_eq_some_iff.mp hρ).1
    obtain ⟨x, hi⟩ : ∃ x, ns[i]? = some x := ⟨_, List.getElem?_eq_getElem (by rw [F.len]; exact hlt)⟩
    obtain ⟨a, vs, n, e, o, g, r⟩ := F.get i x _ hi hρ
    have sub : ∀ b, (Y0 X0 env oc fun b => O b ∧ b ≠ a).off b → (Y0 X0 env oc O).off b := fun b h => h.elim .inl fun h => .inr (h.elim .inl fun h => .inr h.1)
    refine ⟨fun b => O b ∧ b ≠ a, ⟨by rw [List.length_set]; exact F.len, F.loc, fun j y z h1 h2 => ?_, ?_, fun b hb => F.new b (hb.elim .inl fun h => .inr h.1), fun b hb => F.sep b hb.1, fun b hb => F.live b hb.1, fun b hb => ⟨F.sub b hb, fun h => o.2 (h ▸ hb)⟩, F.ext, F.base, F.tok, F.old⟩, fun b h => h.1⟩
    · by_cases hj : j = i
      · subst hj
        rw [List.getElem?_set_self hlt] at h2
        cases h2
        rw [hi] at h1; cases h1
        refine ⟨.ref a, e, .list g (fun h => ?_) (r.sub sub (Nat.le_refl _))⟩
        rcases h with h | h | h
        · have := F.old.at_ a h; rw [F.new a (.inr o.1)] at this; cases this
        · exact F.sep a o.1 h
        · exact h.2 rfl
      · rw [List.getElem?_set_ne (Ne.symm hj)] at h2
        have g' := F.get j y z h1 h2
        cases z with
        | no => trivial
        | val d => obtain ⟨v, e', r'⟩ := g'; exact ⟨v, e', r'.sub sub (Nat.le_refl _)⟩
        | own es =>
          obtain ⟨b, ws, m, e', o', g', r'⟩ := g'
          refine ⟨b, ws, m, e', ⟨⟨o'.1, fun h => ?_⟩, o'.2⟩, g', r'.sub sub (Nat.le_refl _)⟩
          subst h
          exact hj (F.apart j i y x es ds b h1 hi h2 hρ e' e)
    · intro p q y z ds' es b h1 h2 h3 h4 h5 h6
      have own : ∀ p (ds' : List Dv), (ρ.set i (En.val (.list ds)))[p]? = some (En.own ds') → ρ[p]? = some (En.own ds') := fun p ds' hp => by
        by_cases hj : p = i
        · subst hj; rw [List.getElem?_set_self hlt] at hp; cases hp
        · rw [List.getElem?_set_ne (Ne.symm hj)] at hp; exact hp
      exact F.apart p q y z ds' es b h1 h2 (own _ _ h3) (own _ _ h4) h5 h6
  · exact ⟨O, F, fun _ h => h⟩
theorem ex_free {ss : List Stmt} {f : XF} (fn : Fn ns env oc) (i : Nat) (h : Ex prog w h₀ ns env oc k ss f) : Ex prog w h₀ ns env oc k ss (xfree i f) := by
  constructor; intro A s0 X0 P O s ρ μ out hA F ho
  obtain ⟨O', F', hO⟩ := F.freed fn i
  exact wpAny_mono (h.run A s0 X0 P O' s _ μ out hA F' ho) (fun _ _ a => After.trans ((Ext.refl s).stp fun b h => .inl (hO b h)) (.refl _ _) a) fun _ _ f => f
end
end Mine

namespace Mine
open PySem PySem.W PyProof.Rows

section
variable {prog : Program} {w : World} {h₀ : B0} {Φ : Nat → List Dv → Option Dv} {ns : List Str} {env : Env} {oc : List (Str × Addr)} {k : Nat}

/-- a loop on its way -/
structure FInv (h₀ : B0) (ns : List Str) (env : Env) (oc : List (Str × Addr)) (s0 : Shared) (X0 : Bd) (P O : Addr → Prop) (s s2 : Shared) (St : (Addr → Prop) → Nat → Shared → Prop) (ds : List Dv) (Fo : Addr → Prop) (gs : Nat → Prop) (μ : Str → Option Value) (n : Nat) (is : List Nat) (f : XF) (out : Out)
    (m : Nat) (s' : Shared) (j : Nat) (ρ' : List En) (μ' : Str → Option Value) (O' f' : Addr → Prop) : Prop where
  at_ : m = ds.length - j
  le : j ≤ ds.length
  st : St f' j s'
  new : ∀ b, f' b → s.heap.get? b = none
  fst : Fst h₀ ns env oc s0 X0 (fun b => P b ∨ f' b) O' s' ρ' μ'
  off : ∀ b, O' b → (O b ∨ f' b) ∨ s2.heap.get? b = none
  live : ∀ b, (s2.heap.get? b).isSome = true → (s'.heap.get? b).isSome = true
  mv : Mv Fo gs s s'
  pin : Pin ns μ μ'
  to_do : xloop n is f (ds.drop j) ρ' = some out
theorem for_core {A : Around} {s0 : Shared} {X0 : Bd} {P O : Addr → Prop} {s : Shared} {ρ : List En} {μ : Str → Option Value} {out : Out} {ds : List Dv} {target iter : Expr} {body : List Stmt} {pos : Pos} {n : Nat} {xs : List Str} {is : List Nat} {f : XF} (fn : Fn ns env oc) (t : Tgt target n xs) (a : At ns is xs) (hnd : xs.Nodup)
    (hA : Rm k A) (F : Fst h₀ ns env oc s0 X0 P O s ρ μ)
    (hi : wpAny (model prog w) A (eval iter env) (fun x s₁ => wpAny (model prog w) A (pyIter x) (fun it s₂ => s.toks ≤ s₂.toks → Told prog w h₀ A (Y0 X0 env oc O) s ds it s₂) (fun _ _ => False) s₁) (fun _ _ => False) s)
    (hb : Ex prog w h₀ ns env oc k body f) (ho : xloop n is f ds ρ = some out) (hs : ∀ x, foldedSetIterable iter env x = pure x := by intro _; rfl) :
    wpAny (model prog w) A (exec (.For target iter body [] pos) env) (After h₀ ns env oc s0 X0 P O s μ out) (fun _ _ => False) s := by
  have hxn : ∀ x ∈ xs, x ∈ ns := fun x hx => by
    obtain ⟨j, hj, e1⟩ := List.getElem_of_mem hx
    obtain ⟨y, hy, hny⟩ := a.get (List.getElem?_eq_getElem (by rw [a.len]; exact hj))
    rw [List.getElem?_eq_getElem hj, e1] at hy
    cases hy
    exact List.mem_of_getElem? hny
  have hx : ∀ x ∈ xs, storable env oc x := fun x hx => fn.stor x (hxn x hx)
  refine wpAny_For (wpAny_with_toks (n := s.toks) (Nat.le_refl _) (wpAny_mono hi (fun x s1 h1 t1 => wpAny_with_toks t1 (wpAny_mono h1 (fun it s2 h2 t2 => ?_) fun _ _ f => f.elim)) fun _ _ f => f.elim)) hs
  obtain ⟨x2, I, fp, gs, St, rfl, S, st, hfp, hgs, hsz⟩ := h2 t2
  have hgs0 : ∀ i, gs i → s0.gens[i]? = none := fun i h => by
    cases e : s0.gens[i]? with
    | none => rfl
    | some o => have := hgs i h; rw [F.ext.gens i o e] at this; cases this
  have Pf : ∀ f : Addr → Prop, (∀ b, f b → s.heap.get? b = none) → ∀ b, P b → ¬ f b := fun f hf b h1 h2 => by have := F.live b (F.sub b h1); rw [hf b h2] at this; cases this
  have F1 := F.grow x2 (N := fp) (N' := fp) (fun b h => ⟨hfp b h, S.live fp 0 s2 st b h⟩) (fun _ h => h)
  have none2 : ∀ b, s2.heap.get? b = none → s.heap.get? b = none := fun b e => none_of fun h => by obtain ⟨o, h⟩ := Option.isSome_iff_exists.mp h; rw [x2.heap b o h] at e; cases e
  let Fo : Addr → Prop := fun b => (locs env oc b ∨ (O b ∧ ¬ P b)) ∨ s.heap.get? b = none
  let Inv : Nat → Shared → Prop := fun m s' => ∃ (j : Nat) (ρ' : List En) (μ' : Str → Option Value) (O' f' : Addr → Prop), FInv h₀ ns env oc s0 X0 P O s s2 St ds Fo gs μ n is f out m s' j ρ' μ' O' f'
  have fin : ∀ {O' f' : Addr → Prop} {s' s'' : Shared} {ρ' : List En} {μ' : Str → Option Value}, (∀ b, f' b → s.heap.get? b = none) → Pin ns μ μ' → Fst h₀ ns env oc s0 X0 (fun b => P b ∨ f' b) O' s' ρ' μ' → (∀ b, O' b → (O b ∨ f' b) ∨ s2.heap.get? b = none) → (∀ b, (s2.heap.get? b).isSome = true → (s'.heap.get? b).isSome = true) → Mv Fo gs s s' →
      Mv f' gs s' s'' → After h₀ ns env oc s0 X0 P O s μ (.next ρ') .next s'' := fun {O' f' s' s'' ρ' μ'} hfn pn F' off live mv m => by
    refine ⟨μ', _, F'.left m hgs0 (Pf f' hfn), ⟨fun b hb => ?_, fun b hb => ?_, ?_⟩, pn⟩
    · rcases off b hb.1 with (h | h) | h
      · exact .inl h
      · exact absurd h hb.2
      · exact .inr (none2 b h)
    · obtain ⟨o, e⟩ := Option.isSome_iff_exists.mp hb
      obtain ⟨o', e'⟩ := Option.isSome_iff_exists.mp (live b (by rw [x2.heap b o e]; rfl))
      rw [m.heap b o' (fun h => by rw [hfn b h] at e; cases e) e']; rfl
    · have mm := mv.trans (m.mono (F' := Fo) (fun b h => .inr (hfn b h)) fun _ h => h)
      exact ⟨mm.heap, fun i z _ e => mm.gens i z (fun h => by rw [hgs i h] at e; cases e) e, mm.bare, mm.os, mm.toks⟩
  refine codeAny_forLoop_any Inv ?_ (ds.length - 0) ⟨0, ρ, μ, _, fp, rfl, Nat.zero_le _, st, hfp, F1, fun b h => .inl h, fun _ h => h, x2.mv, .refl _ _, by simpa using ho⟩
  rintro m s' ⟨j, ρ', μ', O', f1, rfl, hj, st', hfn, F', off, live, mv, pn, hl⟩
  rcases Nat.lt_or_eq_of_le hj with hlt | rfl
  · have hdj : ds.drop j = ds[j] :: ds.drop (j + 1) := List.drop_eq_getElem_cons hlt
    rw [hdj] at hl
    simp only [xloop] at hl
    obtain ⟨bs, hbs, hl⟩ := Option.bind_eq_some_iff.mp hl
    refine S.item f1 j ds[j] s' _ _ (List.getElem?_eq_getElem hlt) st' fun v s5 f2 hff hfnew rv st5 m5 => ?_
    have none' : ∀ b, s'.heap.get? b = none → s2.heap.get? b = none := fun b e => none_of fun h => by have := live b h; rw [e] at this; cases this
    have hfn2 : ∀ b, f2 b → s.heap.get? b = none := fun b h => (hfnew b h).elim (hfn b) fun h => none2 b (none' b h)
    have F5 := F'.iter m5 hff hfnew hgs0 fun b h => S.live f2 (j + 1) s5 st5 b h
    have off2 : ∀ b, (O' b ∨ f2 b) → (O b ∨ f2 b) ∨ s2.heap.get? b = none := fun b h => h.elim (fun h => (off b h).elim (fun h => .inl (h.elim .inl fun h => .inr (hff b h))) .inr) fun h => .inl (.inr h)
    refine S.go f2 (j + 1) s5 _ _ _ _ st5 ?_
    have hYX : ∀ b, (Y0 X0 env oc O').off b → (Y0 X0 env oc O).off b ∨ f1 b ∨ s2.heap.get? b = none := fun b h => by
      rcases h with h | h | h
      · exact .inl (.inl h)
      · exact .inl (.inr (.inl h))
      · rcases off b h with (h | h) | h
        · exact .inl (.inr (.inr h))
        · exact .inr (.inl h)
        · exact .inr (.inr h)
    have rv5 : Rep s5.heap (Y0 X0 env oc fun b => O' b ∨ f2 b) v ds[j] := Rep.sub (X := ⟨fun b => (Y0 X0 env oc O').off b ∨ f2 b, X0.tok⟩) (X' := Y0 X0 env oc fun b => O' b ∨ f2 b)
      (fun b h => h.elim (fun h => .inl (.inl h)) fun h => h.elim (fun h => .inl (.inr (.inl h))) fun h => h.elim (fun h => .inl (.inr (.inr h))) .inr) (Nat.le_refl _) (rv (Y0 X0 env oc O') F'.oldY hYX (Nat.le_refl _))
    refine assign_tgt t hA.handled fn.kind hx hbs (fun b h => Or.inr (Or.inl h)) rv5 F5.loc fun s6 vs l6 r6 hl6 m6 => ?_
    obtain ⟨F6, y6⟩ := F5.puts fn a hnd l6 m6 r6 hl6
    have live6 : ∀ b, (s2.heap.get? b).isSome = true → (s6.heap.get? b).isSome = true := fun b hb => y6.live b (by
      by_cases h : f1 b
      · exact S.live f2 (j + 1) s5 st5 b (hff b h)
      · obtain ⟨o, e⟩ := Option.isSome_iff_exists.mp (live b hb)
        rw [m5.heap b o h e]; rfl)
    have livef : ∀ b, f2 b → (s6.heap.get? b).isSome = true := fun b h => y6.live b (S.live f2 (j + 1) s5 st5 b h)
    have lf : ∀ b, locs env oc b → ¬ f2 b := fun b hb h => F5.sep b (.inr h) hb
    have mv6 : Mv Fo gs s s6 := (mv.trans (m5.mono (F' := Fo) (fun b h => .inr (hfn b h)) fun _ h => h)).trans (m6.mono (F' := Fo) (fun b h => .inl (.inl h)) fun _ h => h.elim)
    have none6 : ∀ b, s6.heap.get? b = none → s2.heap.get? b = none := fun b e => none_of fun h => by have := live6 b h; rw [e] at this; cases this
    have key : ∀ {O'' : Addr → Prop} {s7 : Shared}, Stp env oc (fun b => P b ∨ f2 b) (fun b => O' b ∨ f2 b) O'' s6 s7 → (∀ b, O'' b → (O b ∨ f2 b) ∨ s2.heap.get? b = none) ∧ (∀ b, (s2.heap.get? b).isSome = true → (s7.heap.get? b).isSome = true) ∧ Mv Fo gs s s7 ∧ Mv (fun b => ¬ f2 b ∧ ((Y0 X0 env oc O).off b ∨ s2.heap.get? b = none)) noG s6 s7 := fun {O'' s7} y7 => by
      refine ⟨fun b h => (y7.off b h).elim (off2 b) fun e => .inr (none6 b e), fun b h => y7.live b (live6 b h), mv6.trans (y7.mv.mono (fun b h => ?_) fun _ h => h.elim), y7.mv.mono (fun b h => ⟨fun hf => ?_, ?_⟩) fun _ h => h⟩
      · rcases h with (h | ⟨h, hp⟩) | h
        · exact .inl (.inl h)
        · rcases off2 b h with (h | h) | h
          · exact .inl (.inr ⟨h, fun q => hp (.inl q)⟩)
          · exact absurd (.inr h) hp
          · exact .inr (none2 b h)
        · exact .inr (none2 b (none6 b h))
      · rcases h with (h | ⟨h, hp⟩) | h
        · exact lf b h hf
        · exact hp (.inr hf)
        · have := livef b hf; rw [h] at this; cases this
      · rcases h with (h | ⟨h, hp⟩) | h
        · exact .inl (.inr (.inl h))
        · rcases off2 b h with (h | h) | h
          · exact .inl (.inr (.inr h))
          · exact absurd (.inr h) hp
          · exact .inr h
        · exact .inr (none6 b h)
    have m56 : Mv (fun b => ¬ f2 b ∧ ((Y0 X0 env oc O).off b ∨ s2.heap.get? b = none)) noG s5 s6 := m6.mono (fun b h => ⟨lf b h, .inl (.inr (.inl h))⟩) fun _ h => h
    cases hf : f (puts ρ' is bs) with
    | none => rw [hf] at hl; cases hl
    | some o =>
      rw [hf] at hl
      refine wpAny_mono (hb.run A s0 X0 _ _ s6 _ _ o hA F6 hf) (fun fl s7 af => ?_) fun _ _ f => f.elim
      cases o with
      | next ρ7 =>
        cases fl <;> try exact af.elim
        obtain ⟨μ7, O7, F7, y7, q7⟩ := af
        obtain ⟨k1, k2, k3, k4⟩ := key y7
        exact ⟨ds.length - (j + 1), by omega, j + 1, ρ7, μ7, O7, f2, rfl, hlt, S.frame f2 (j + 1) s5 s7 st5 F7.bs (m56.trans k4), hfn2, F7, k1, k2, k3, (pn.trans (pin_upds _ hxn)).trans q7, hl⟩
      | brk ρ7 =>
        cases fl <;> try exact af.elim
        obtain ⟨μ7, O7, F7, y7, q7⟩ := af
        obtain ⟨k1, k2, k3, k4⟩ := key y7
        cases hl
        exact fin hfn2 ((pn.trans (pin_upds _ hxn)).trans q7) F7 k1 k2 k3 (Ext.refl s7).mv
      | ret v7 =>
        cases fl <;> try exact af.elim
        cases hl
        exact af
  · rw [List.drop_of_length_le (Nat.le_refl _)] at hl
    cases hl
    exact S.done f1 s' _ _ st' fun s5 m5 => wpAny_execs_nil (fin hfn pn F' off live mv m5)

theorem st_for {target iter : Expr} {body : List Stmt} {pos : Pos} {n : Nat} {xs : List Str} {is : List Nat} {mi : ME} {f : XF} (fn : Fn ns env oc) (t : Tgt target n xs) (a : At ns is xs) (hnd : xs.Nodup)
    (hi : It prog w h₀ Φ ns env k iter mi) (hb : Ex prog w h₀ ns env oc k body f) (hs : ∀ x, foldedSetIterable iter env x = pure x := by intro _; rfl) :
    St1 prog w h₀ ns env oc k (.For target iter body [] pos) (xfor Φ n is mi f) := by
  constructor; intro A s0 X0 P O s ρ μ out hA F ho
  simp only [xfor, Option.bind_eq_some_iff] at ho
  obtain ⟨ds, ⟨d, hd, hds⟩, ho⟩ := ho
  exact for_core fn t a hnd hA F (hi.run A s _ ρ d ds hA F.bs F.oldY (F.vars fn) hd hds) hb ho hs

end
end Mine

namespace Mine
open PySem PySem.W PyProof.Rows

/-! several names in one line -/
inductive Pt | ev (m : ME) | own
noncomputable def evPts (Φ : Nat → List Dv → Option Dv) : List Pt → List En → Option (List En)
  | [], _ => some []
  | .ev m :: r, ρ => (ev Φ m ρ).bind fun d => (evPts Φ r ρ).map (.val d :: ·)
  | .own :: r, ρ => (evPts Φ r ρ).map (.own [] :: ·)
noncomputable def putE : List En → List Nat → List En → List En
  | ρ, i :: is, e :: es => putE (ρ.set i e) is es
  | ρ, _, _ => ρ
noncomputable def xtup (Φ : Nat → List Dv → Option Dv) (is : List Nat) (ps : List Pt) : XF := fun ρ => (evPts Φ ps ρ).map fun zs => .next (putE ρ is zs)
/-- stored from the last on -/
noncomputable def xtupR (Φ : Nat → List Dv → Option Dv) (is : List Nat) (ps : List Pt) : XF := fun ρ => (evPts Φ ps ρ).map fun zs => .next (putE ρ is.reverse zs.reverse)
noncomputable def xunp (Φ : Nat → List Dv → Option Dv) (is : List Nat) (m : ME) : XF := fun ρ => (ev Φ m ρ).bind fun d => match d with
  | .tuple ds => if ds.length = is.length then some (.next (puts ρ is ds)) else none
  | .list ds => if ds.length = is.length then some (.next (puts ρ is ds)) else none
  | _ => none
theorem evPts_len {Φ : Nat → List Dv → Option Dv} : ∀ {ps : List Pt} {ρ : List En} {zs : List En}, evPts Φ ps ρ = some zs → zs.length = ps.length
  | [], _, _, h => by cases h; rfl
  | .ev m :: r, ρ, zs, h => by
    simp only [evPts, Option.bind_eq_some_iff, Option.map_eq_some_iff] at h
    obtain ⟨_, _, z, hz, rfl⟩ := h
    rw [List.length_cons, List.length_cons, evPts_len hz]
  | .own :: r, ρ, zs, h => by
    simp only [evPts, Option.map_eq_some_iff] at h
    obtain ⟨z, hz, rfl⟩ := h
    rw [List.length_cons, List.length_cons, evPts_len hz]

section
variable {prog : Program} {w : World} {h₀ : B0} {Φ : Nat → List Dv → Option Dv} {ns : List Str} {env : Env} {oc : List (Str × Addr)} {k : Nat}
variable {s0 : Shared} {X0 : Bd} {P O : Addr → Prop} {s s' : Shared} {ρ ρ' : List En} {μ μ' : Str → Option Value}

inductive PtsOk (prog : Program) (w : World) (h₀ : B0) (Φ : Nat → List Dv → Option Dv) (ns : List Str) (env : Env) (k : Nat) : List Expr → List Pt → Prop
  | nil : PtsOk prog w h₀ Φ ns env k [] []
  | ev {e : Expr} {m : ME} {es : List Expr} {ps : List Pt} : Ev prog w h₀ Φ ns env k e m → starEach (e :: es) env = (false, eval e env) :: starEach es env → PtsOk prog w h₀ Φ ns env k es ps → PtsOk prog w h₀ Φ ns env k (e :: es) (.ev m :: ps)
  | own {q : Pos} {es : List Expr} {ps : List Pt} : starEach (.List [] q :: es) env = (false, eval (.List [] q) env) :: starEach es env → PtsOk prog w h₀ Φ ns env k es ps → PtsOk prog w h₀ Φ ns env k (.List [] q :: es) (.own :: ps)

/-- what the parts give -/
structure Laid (X0 : Bd) (env : Env) (oc : List (Str × Addr)) (P O' : Addr → Prop) (s s' : Shared) (vs : List Value) (zs : List En) : Prop where
  len : vs.length = zs.length
  is_ : ∀ p ∈ vs.zip zs, EnO s'.heap (Y0 X0 env oc O') (fun a => O' a ∧ ¬ P a) (some p.1) p.2
  new : ∀ p ∈ vs.zip zs, ∀ ds, p.2 = .own ds → ∃ b, p.1 = .ref b ∧ s.heap.get? b = none
  apart : (vs.zip zs).Pairwise fun p q => ∀ ds es, p.2 = .own ds → q.2 = .own es → p.1 ≠ q.1

theorem pts_told {A : Around} {es : List Expr} {ps : List Pt} (fn : Fn ns env oc) (hp : PtsOk prog w h₀ Φ ns env k es ps) (hA : Rm k A) : ∀ {s : Shared} {O : Addr → Prop} {zs : List En}, Fst h₀ ns env oc s0 X0 P O s ρ μ → evPts Φ ps ρ = some zs → ∀ pos,
    wpAny (model prog w) A (spliced (backTo pos (starEach es env))) (fun vs s' => ∃ O', Fst h₀ ns env oc s0 X0 P O' s' ρ μ ∧ Ext s s' ∧ (∀ b, O' b → O b ∨ s.heap.get? b = none) ∧ (∀ b, O b → O' b) ∧ Laid X0 env oc P O' s s' vs zs) (fun _ _ => False) s := by
  induction hp with
  | nil =>
    intro s O zs F h pos
    cases h
    exact wpAny_pure ⟨O, F, .refl s, fun _ h => .inl h, fun _ h => h, ⟨rfl, by simp, by simp, by simp⟩⟩
  | @ev e m es ps h1 hs _ ih =>
    intro s O zs F h pos
    simp only [evPts, Option.bind_eq_some_iff, Option.map_eq_some_iff] at h
    obtain ⟨d, hd, z, hz, rfl⟩ := h
    rw [hs]
    show wpAny _ _ (spliced ((false, eval e env) :: backTo pos (starEach es env))) _ _ _
    refine Calls.spliced_cons (ev_in fn h1 hA F hd fun v s1 x1 r1 => ?_)
    refine wpAny_mono (ih (F.ext' x1) hz pos) (fun vs s2 ⟨O', F', x2, hO, hO2, L⟩ => ?_) fun _ _ f => f
    have none1 : ∀ b, s1.heap.get? b = none → s.heap.get? b = none := fun b e => none_of fun h => by obtain ⟨o, h⟩ := Option.isSome_iff_exists.mp h; rw [x1.heap b o h] at e; cases e
    refine ⟨O', F', x1.trans x2, fun b h => (hO b h).elim .inl fun h => .inr (none1 b h), hO2, ⟨by rw [List.length_cons, List.length_cons, L.len], ?_, ?_, ?_⟩⟩
    · intro p hp
      rw [List.zip_cons_cons, List.mem_cons] at hp
      rcases hp with rfl | hp
      · refine ⟨v, rfl, Rep.mono (X := Y0 X0 env oc O) (X' := Y0 X0 env oc O') (fun b o n e => ⟨x2.heap b o e, fun h => ?_⟩) (Nat.le_refl _) r1⟩
        rcases h with h | h | h
        · exact n (.inl h)
        · exact n (.inr (.inl h))
        · rcases hO b h with h | h
          · exact n (.inr (.inr h))
          · rw [h] at e; cases e
      · exact L.is_ p hp
    · intro p hp ds hds
      rw [List.zip_cons_cons, List.mem_cons] at hp
      rcases hp with rfl | hp
      · cases hds
      · obtain ⟨b, e1, e2⟩ := L.new p hp ds hds
        exact ⟨b, e1, none1 b e2⟩
    · rw [List.zip_cons_cons, List.pairwise_cons]
      exact ⟨fun p hp ds es h => (by cases h), L.apart⟩
  | @own q es ps hs _ ih =>
    intro s O zs F h pos
    simp only [evPts, Option.map_eq_some_iff] at h
    obtain ⟨z, hz, rfl⟩ := h
    rw [hs]
    show wpAny _ _ (spliced ((false, eval (.List [] q) env) :: backTo pos (starEach es env))) _ _ _
    refine Calls.spliced_cons (wpAny_List (wpAny_pure ⟨by simp, ?_⟩))
    generalize hs1 : ({ s with heap := s.heap.push { cls := .type "list", data := .seq ([] : List Value).toArray } } : Shared) = s1
    have x1 : Ext s s1 := by subst hs1; exact .push s _ (Nat.le_refl _)
    have e1 : s1.heap.get? s.heap.objs.size = some (lstObj [] 0) := by subst hs1; exact Heap.get?_push_size _ rfl
    have n0 := new_none s.heap
    generalize s.heap.objs.size = a at e1 n0
    have F1 : Fst h₀ ns env oc s0 X0 P (fun b => O b ∨ b = a) s1 ρ μ := (F.grow x1 (N := fun b => b = a) (N' := fun _ => False) (fun b e => by subst e; exact ⟨n0, by rw [e1]; rfl⟩) fun _ f => f.elim).same (fun b => by simp) fun b => Iff.rfl
    refine wpAny_mono (ih F1 hz pos) (fun vs s2 ⟨O', F', x2, hO, hO2, L⟩ => ?_) fun _ _ f => f
    have none1 : ∀ b, s1.heap.get? b = none → s.heap.get? b = none := fun b e => none_of fun h => by obtain ⟨o, h⟩ := Option.isSome_iff_exists.mp h; rw [x1.heap b o h] at e; cases e
    refine ⟨O', F', x1.trans x2, fun b h => ?_, fun b h => hO2 b (.inl h), ⟨by rw [List.length_cons, List.length_cons, L.len], ?_, ?_, ?_⟩⟩
    · rcases hO b h with (h | h) | h
      · exact .inl h
      · subst h; exact .inr n0
      · exact .inr (none1 b h)
    · intro p hp
      rw [List.zip_cons_cons, List.mem_cons] at hp
      rcases hp with rfl | hp
      · exact ⟨a, [], 0, rfl, ⟨hO2 a (.inr rfl), fun hp => by have := F.live a (F.sub a hp); rw [n0] at this; cases this⟩, x2.heap _ _ e1, .nil⟩
      · exact L.is_ p hp
    · intro p hp ds hds
      rw [List.zip_cons_cons, List.mem_cons] at hp
      rcases hp with rfl | hp
      · exact ⟨a, rfl, n0⟩
      · obtain ⟨b, e1, e2⟩ := L.new p hp ds hds
        exact ⟨b, e1, none1 b e2⟩
    · rw [List.zip_cons_cons, List.pairwise_cons]
      refine ⟨fun p hp ds es _ h e => ?_, L.apart⟩
      obtain ⟨b, e3, e2⟩ := L.new p hp es h
      dsimp only at e
      rw [e3] at e; cases e
      rw [e1] at e2; cases e2

theorem At.tail {i : Nat} {is : List Nat} {x : Str} {xs : List Str} (a : At ns (i :: is) (x :: xs)) : ns[i]? = some x ∧ At ns is xs := by
  simp only [At, List.map_cons, List.cons.injEq] at a
  exact a
/-- the stores, one after the other -/
theorem stores_told {A : Around} {E : Value → Shared → Prop} (fn : Fn ns env oc) : ∀ (xs : List Str) (is : List Nat) (vs : List Value) (zs : List En) {s : Shared} {ρ : List En} {μ : Str → Option Value} {ts : List (Value → Sem Unit)} {Q : Unit → Shared → Prop},
    (∀ (j : Nat) (t : Value → Sem Unit), ts[j]? = some t → ∃ x, xs[j]? = some x ∧ ∀ v s Q, wpAny (model prog w) A (storeName env x v) Q E s → wpAny (model prog w) A (t v) Q E s) → ts.length = xs.length →
    Fst h₀ ns env oc s0 X0 P O s ρ μ → At ns is xs → vs.length = xs.length → vs.length = zs.length →
    (∀ p ∈ vs.zip zs, EnO s.heap (Y0 X0 env oc O) (fun a => O a ∧ ¬ P a) (some p.1) p.2) → (∀ p ∈ vs.zip zs, ∀ ds, p.2 = .own ds → ∀ (j : Nat) (y : Str) (es : List Dv), ns[j]? = some y → ρ[j]? = some (.own es) → μ y ≠ some p.1) →
    ((vs.zip zs).Pairwise fun p q => ∀ ds es, p.2 = .own ds → q.2 = .own es → p.1 ≠ q.1) →
    (∀ s' μ', Fst h₀ ns env oc s0 X0 P O s' (putE ρ is zs) μ' → Stp env oc P O O s s' → Pin ns μ μ' → Q () s') → wpAny (model prog w) A (assignInOrder ts vs) Q E s
  | [], is, vs, zs, s, ρ, μ, ts, Q, ht, htl, F, a, hl, hl', hA, hB, hC, hQ => by
    have : vs = [] := List.length_eq_zero_iff.mp (by simpa using hl)
    subst this
    have : zs = [] := List.length_eq_zero_iff.mp (by simpa using hl'.symm)
    subst this
    have : ts = [] := List.length_eq_zero_iff.mp (by simpa using htl)
    subst this
    have : is = [] := List.length_eq_zero_iff.mp (by simpa using a.len)
    subst this
    exact wpAny_pure (hQ s μ F (.refl _ _ _ _ _) (.refl _ _))
  | x :: xs, is, vs, zs, s, ρ, μ, ts, Q, ht, htl, F, a, hl, hl', hA, hB, hC, hQ => by
    cases vs with
    | nil => simp at hl
    | cons v vs =>
      cases zs with
      | nil => simp at hl'
      | cons z zs =>
        cases is with
        | nil => have := a.len; simp at this
        | cons i is =>
          cases ts with
          | nil => simp at htl
          | cons t ts =>
            obtain ⟨hi, a'⟩ := a.tail
            obtain ⟨x', hx', htt⟩ := ht 0 t rfl
            cases hx'
            rw [List.zip_cons_cons, List.pairwise_cons] at hC
            refine wpAny_assignInOrder_more (htt v s _ (F.loc.store fn.kind (fn.stor x (List.mem_of_getElem? hi)) fun s1 l1 m1 _ => ?_))
            obtain ⟨F1, y1⟩ := F.put fn hi l1 m1 (hA (v, z) (by rw [List.zip_cons_cons]; exact .head _)) (fun ds b j y es e1 e2 _ h1 h2 h3 => hB (v, z) (by rw [List.zip_cons_cons]; exact .head _) ds e1 j y es h1 h2 (by rw [e2]; exact h3))
            refine stores_told fn xs is vs zs (fun j t hj => ht (j + 1) t hj) (by simpa using htl) F1 a' (by simpa using hl) (by simpa using hl') (fun p hp => ?_) (fun p hp ds hds j y es h1 h2 h3 => ?_) hC.2 fun s2 μ2 F2 y2 q2 => hQ s2 μ2 F2 (y1.trans y2) ((pin_upd _ hi).trans q2)
            · exact EnO.mono (Y := Y0 X0 env oc O) (Y' := Y0 X0 env oc O) (fun b o n e => ⟨m1.heap b o (fun h => n (Or.inr (Or.inl h))) e, n⟩) (Nat.le_refl _) (fun a ha => ⟨ha, fun o e => m1.heap a o (F.sep a ha.1) e⟩) (hA p (by rw [List.zip_cons_cons]; exact .tail _ hp))
            · by_cases hj : j = i
              · subst hj
                rw [hi] at h1; cases h1
                have hlt : j < ρ.length := by rw [← F.len]; exact (List.getElem?_eq_some_iff.mp hi).1
                rw [List.getElem?_set_self hlt] at h2; cases h2
                simp only [upd, if_true, Option.some.injEq] at h3
                exact hC.1 p hp es ds rfl hds h3
              · rw [List.getElem?_set_ne (Ne.symm hj)] at h2
                have : upd μ x v y = μ y := by
                  unfold upd; rw [if_neg]; rintro rfl
                  obtain ⟨p1, q1⟩ := List.getElem?_eq_some_iff.mp h1
                  obtain ⟨p2, q2⟩ := List.getElem?_eq_some_iff.mp hi
                  exact hj (nodup_inj fn.nodup p1 p2 (q1.trans q2.symm))
                rw [this] at h3
                exact hB p (by rw [List.zip_cons_cons]; exact .tail _ hp) ds hds j y es h1 h2 h3
end
end Mine

namespace Mine
local macro_rules | `(tactic| omega) => `(tactic| lia)
open PySem PySem.W PyProof.Rows

theorem zip_rev {α β : Type} : ∀ (l : List α) (r : List β), l.length = r.length → l.reverse.zip r.reverse = (l.zip r).reverse
  | [], [], _ => rfl
  | a :: l, b :: r, h => by
    have h' : l.length = r.length := by simpa using h
    rw [List.zip_cons_cons, List.reverse_cons, List.reverse_cons, List.reverse_cons, List.zip_append (by simpa using h'), zip_rev l r h']
    rfl
/-- `x += e`, `x -= e` with numbers -/
noncomputable def xaug (Φ : Nat → List Dv → Option Dv) (i : Nat) (sg : Bool) (m : ME) : XF := fun ρ => match ρ[i]?, ev Φ m ρ with
  | some (.val (.int a)), some (.int b) => some (.next (ρ.set i (.val (.int (if sg then a + b else a - b)))))
  | _, _ => none

section
variable {prog : Program} {w : World} {h₀ : B0} {Φ : Nat → List Dv → Option Dv} {ns : List Str} {env : Env} {oc : List (Str × Addr)} {k : Nat}
variable {s0 : Shared} {X0 : Bd} {P O : Addr → Prop} {s s' : Shared} {ρ ρ' : List En} {μ μ' : Str → Option Value}

theorem TgtL.stores {A : Around} {E : Value → Shared → Prop} {es : List Expr} {xs : List Str} (t : TgtL es xs) : ∀ (j : Nat) (f : Value → Sem Unit), ((assignEach es env).map (·.2))[j]? = some f → ∃ x, xs[j]? = some x ∧ ∀ v s Q, wpAny (model prog w) A (storeName env x v) Q E s → wpAny (model prog w) A (f v) Q E s := by
  induction t with
  | nil => intro j f h; simp [assignEach] at h
  | @cons x p es xs t ih =>
    intro j f h
    have e : (assignEach (.Name x p :: es) env).map (·.2) = assign (.Name x p) env :: (assignEach es env).map (·.2) := by simp [assignEach]
    rw [e] at h
    cases j with
    | zero => simp at h; subst h; exact ⟨x, rfl, fun v s Q h => wpAny_assign_Name h⟩
    | succ j => simp only [List.getElem?_cons_succ] at h ⊢; exact ih j f h

theorem st_tup {es ts : List Expr} {ps : List Pt} {xs : List Str} {is : List Nat} {kd kd' : Nat} {p q pos : Pos} (fn : Fn ns env oc) (t : TgtL ts xs) (a : At ns is xs) (hp : PtsOk prog w h₀ Φ ns env k es ps) (hl : es.length = xs.length) (hl2 : ps.length = xs.length) (hn : ps.length ≤ 1000)
    (hs : swapsWithSole [.Tuple ts kd p] (.Tuple es kd' q) pos.line env = pure false := by rfl) (hw : swappedStores [.Tuple ts kd p] (.Tuple es kd' q) env = pure none := by rfl) :
    St1 prog w h₀ ns env oc k (.Assign [.Tuple ts kd p] (.Tuple es kd' q) pos) (xtup Φ is ps) := by
  constructor; intro A s0 X0 P O s ρ μ out hA F ho
  simp only [xtup, Option.map_eq_some_iff] at ho
  obtain ⟨zs, hz, rfl⟩ := ho
  have hzl := evPts_len hz
  refine Assign_Tuple (wpAny_Tuple (wpAny_mono (pts_told fn hp hA F hz q) (fun vs s1 ⟨O1, F1, x1, hO, _, L⟩ => ?_) fun _ _ f => f.elim)) hs hw
  have hvl : vs.length = xs.length := by rw [L.len, hzl, hl2]
  refine ⟨by show vs.length ≤ 16777216; omega, ?_⟩
  obtain ⟨l1, l2, l3⟩ := t.len (env := env)
  refine wpAny_assign_Tuple (items := vs.toArray) hA.handled ⟨_, Heap.get?_push_size _ rfl, rfl, _, rfl⟩ (by rw [l2, List.size_toArray]; omega) l3 fun h' he => ?_
  have x2 : Ext s1 { s1 with heap := h' } := .heap' (t := s1.toks) (fun b o e => he b o (Nat.ne_of_lt (by rw [Heap.size_push]; exact Nat.lt_succ_of_lt (Heap.lt_size e))) (Heap.get?_push_of_some _ e)) (Nat.le_refl _)
  have F2 := F1.ext' x2
  refine stores_told fn xs is vs zs (t.stores) (by simpa using l2) F2 a hvl L.len (fun p hp => ?_) (fun p hp ds hds j y es h1 h2 h3 => ?_) L.apart fun s3 μ3 F3 y3 q3 => ⟨μ3, O1, F3, (x1.stp hO).trans ((x2.stp fun _ h => .inl h).trans y3), q3⟩
  · exact EnO.mono (Y := Y0 X0 env oc O1) (Y' := Y0 X0 env oc O1) (fun b o n e => ⟨x2.heap b o e, n⟩) (Nat.le_refl _) (fun a ha => ⟨ha, fun o e => x2.heap a o e⟩) (L.is_ p hp)
  · obtain ⟨b, e1, e2⟩ := L.new p hp ds hds
    obtain ⟨a', _, _, e3, _, g, _⟩ := F.get j y _ h1 h2
    rw [h3, e1] at e3; cases e3
    rw [g] at e2; cases e2
theorem st_tupR {es ts : List Expr} {ps : List Pt} {xs : List Str} {is : List Nat} {kd kd' : Nat} {p q pos : Pos} (fn : Fn ns env oc) (a : At ns is xs) (hp : PtsOk prog w h₀ Φ ns env k es ps) (hl2 : ps.length = xs.length) (hn : ps.length ≤ 1000)
    (hw : swappedStores [.Tuple ts kd p] (.Tuple es kd' q) env = pure (some xs)) (hs : swapsWithSole [.Tuple ts kd p] (.Tuple es kd' q) pos.line env = pure false := by rfl) :
    St1 prog w h₀ ns env oc k (.Assign [.Tuple ts kd p] (.Tuple es kd' q) pos) (xtupR Φ is ps) := by
  constructor; intro A s0 X0 P O s ρ μ out hA F ho
  simp only [xtupR, Option.map_eq_some_iff] at ho
  obtain ⟨zs, hz, rfl⟩ := ho
  have hzl := evPts_len hz
  refine Assign_Tuple_swapped (names := xs) (wpAny_Tuple (wpAny_mono (pts_told fn hp hA F hz q) (fun vs s1 ⟨O1, F1, x1, hO, _, L⟩ => ?_) fun _ _ f => f.elim)) hs hw
  have hvl : vs.length = xs.length := by rw [L.len, hzl, hl2]
  refine ⟨by show vs.length ≤ 16777216; omega, ?_⟩
  have hvs : vs.toArray.size = xs.length := by rw [List.size_toArray]; exact hvl
  rw [← hvs]
  refine wpAny_unpackItems_tuple (items := vs.toArray) hA.handled ⟨_, Heap.get?_push_size _ rfl, rfl, _, rfl⟩ fun h' he => ?_
  have x2 : Ext s1 { s1 with heap := h' } := .heap' (t := s1.toks) (fun b o e => he b o (Nat.ne_of_lt (by rw [Heap.size_push]; exact Nat.lt_succ_of_lt (Heap.lt_size e))) (Heap.get?_push_of_some _ e)) (Nat.le_refl _)
  have F2 := F1.ext' x2
  have hzip : vs.reverse.zip zs.reverse = (vs.zip zs).reverse := zip_rev _ _ L.len
  have mem : ∀ p ∈ vs.reverse.zip zs.reverse, p ∈ vs.zip zs := fun p hp => by rw [hzip] at hp; exact List.mem_reverse.mp hp
  refine stores_told fn xs.reverse is.reverse vs.reverse zs.reverse (fun j f hj => ?_) (by simp) F2 (by unfold At at a ⊢; rw [List.map_reverse, List.map_reverse, a]) (by simpa using hvl) (by simpa using L.len) (fun p hp => ?_) (fun p hp ds hds j y es h1 h2 h3 => ?_) ?_ fun s3 μ3 F3 y3 q3 => ⟨μ3, O1, F3, (x1.stp hO).trans ((x2.stp fun _ h => .inl h).trans y3), q3⟩
  · rw [List.getElem?_map, Option.map_eq_some_iff] at hj
    obtain ⟨x, hx, rfl⟩ := hj
    exact ⟨x, hx, fun v s Q h => wpAny_bindName h⟩
  · exact EnO.mono (Y := Y0 X0 env oc O1) (Y' := Y0 X0 env oc O1) (fun b o n e => ⟨x2.heap b o e, n⟩) (Nat.le_refl _) (fun a ha => ⟨ha, fun o e => x2.heap a o e⟩) (L.is_ p (mem p hp))
  · obtain ⟨b, e1, e2⟩ := L.new p (mem p hp) ds hds
    obtain ⟨a', _, _, e3, _, g, _⟩ := F.get j y _ h1 h2
    rw [h3, e1] at e3; cases e3
    rw [g] at e2; cases e2
  · rw [hzip, List.pairwise_reverse]
    exact L.apart.imp fun h ds es h1 h2 e => h es ds h2 h1 e.symm

theorem assign_tup_list {A : Around} {E : Value → Shared → Prop} {elts : List Expr} {kd : Nat} {pos : Pos} {t : Addr} {items : Array Value} {Q : Unit → Shared → Prop} (hh : A.handled = none) (ht : s.heap.IsList t items)
    (hn : (assignEach elts env).length = items.size) (hstar : (assignEach elts env).findIdx? (·.1) = none)
    (h : ∀ h', Heap.ExtBut s.heap.objs.size s.heap h' → wpAny (model prog w) A (assignInOrder ((assignEach elts env).map (·.2)) items.toList) Q E { s with heap := h' }) :
    wpAny (model prog w) A (assign (.Tuple elts kd pos) env (.ref t)) Q E s := by
  rw [arm_assign_Tuple]
  refine wpAny_bind (wpAny_standAt ?_)
  unfold unpack
  rw [hn, hstar]
  exact wpAny_bind (wpAny_holding (PySem.W.kun_itemsOf hh ht h))
theorem st_unp {e : Expr} {ts : List Expr} {m : ME} {xs : List Str} {is : List Nat} {kd : Nat} {p pos : Pos} (fn : Fn ns env oc) (t : TgtL ts xs) (a : At ns is xs) (hnd : xs.Nodup) (h : Ev prog w h₀ Φ ns env k e m)
    (hs : swapsWithSole [.Tuple ts kd p] e pos.line env = pure false := by rfl) (hw : swappedStores [.Tuple ts kd p] e env = pure none := by rfl) :
    St1 prog w h₀ ns env oc k (.Assign [.Tuple ts kd p] e pos) (xunp Φ is m) := by
  constructor; intro A s0 X0 P O s ρ μ out hA F ho
  simp only [xunp, Option.bind_eq_some_iff] at ho
  obtain ⟨d, hd, ho⟩ := ho
  have hxn : ∀ x ∈ xs, x ∈ ns := fun x hx => by
    obtain ⟨j, hj, e1⟩ := List.getElem_of_mem hx
    obtain ⟨y, hy, hny⟩ := a.get (List.getElem?_eq_getElem (by rw [a.len]; exact hj))
    rw [List.getElem?_eq_getElem hj, e1] at hy
    cases hy
    exact List.mem_of_getElem? hny
  have hx : ∀ x ∈ xs, storable env oc x := fun x hx => fn.stor x (hxn x hx)
  obtain ⟨l1, l2, l3⟩ := t.len (env := env)
  have fin : ∀ {s1 : Shared} {h' : Heap} {vs : List Value} {ds : List Dv}, Ext s s1 → Heap.ExtBut s1.heap.objs.size s1.heap h' → Reps s1.heap (Y0 X0 env oc O) vs ds → ds.length = is.length → out = .next (puts ρ is ds) →
      wpAny (model prog w) A (assignInOrder ((assignEach ts env).map (·.2)) vs) (fun _ => After h₀ ns env oc s0 X0 P O s μ out .next) (fun _ _ => False) { s1 with heap := h' } := fun {s1 h' vs ds} x1 he qa hdl hout => by
    have hvs := qa.length
    have x2 : Ext s1 { s1 with heap := h' } := .heap' (t := s1.toks) (fun b o e => he b o (Nat.ne_of_lt (Heap.lt_size e)) e) (Nat.le_refl _)
    have F2 := F.ext' (x1.trans x2)
    have hl : vs.length = xs.length := by rw [hvs, hdl, a.len]
    refine assign_list t fn.kind hx hl F2.loc fun s3 l3 m3 => ?_
    obtain ⟨F3, y3⟩ := F2.puts fn a hnd l3 m3 (m3.reps (fun b h => Or.inr (Or.inl h)) (qa.ext x2)) hl
    subst hout
    exact ⟨_, O, F3, ((x1.trans x2).stp fun _ h => .inl h).trans y3, pin_upds _ hxn⟩
  refine Assign_Tuple (ev_in fn h hA F hd fun v s1 x1 r => ?_) hs hw
  cases d with
  | tuple ds =>
    simp only at ho
    split at ho
    · rename_i hdl
      obtain ⟨ta, vs, n, rfl, ea, na, qa⟩ := r.tuple_inv
      have hvs := qa.length
      exact wpAny_assign_Tuple (items := vs.toArray) hA.handled ⟨_, ea, rfl, n, rfl⟩ (by rw [l2, List.size_toArray, hvs, hdl, a.len]) l3 fun h' he => fin x1 he qa hdl (by cases ho; rfl)
    · cases ho
  | list ds =>
    simp only at ho
    split at ho
    · rename_i hdl
      cases r with
      | @list ta vs n _ ea na qa =>
        have hvs := qa.length
        exact assign_tup_list (items := vs.toArray) hA.handled ⟨_, ea, rfl, n, rfl⟩ (by rw [l2, List.size_toArray, hvs, hdl, a.len]) l3 fun h' he => fin x1 he qa hdl (by cases ho; rfl)
    · cases ho
  | _ => cases ho

theorem st_aug {x : Str} {e : Expr} {m : ME} {i : Nat} {sg : Bool} {p pos : Pos} (fn : Fn ns env oc) (hi : ns[i]? = some x) (h : Ev prog w h₀ Φ ns env k e m) (hc : (x == ("__classdict__" : Str)) = false := by rfl) :
    St1 prog w h₀ ns env oc k (.AugAssign (.Name x p) (if sg then .Add else .Sub) e pos) (xaug Φ i sg m) := by
  constructor; intro A s0 X0 P O s ρ μ out hA F ho
  simp only [xaug] at ho
  split at ho
  · rename_i a b hρ hd
    cases ho
    have cv : canVar env x := by
      rcases fn.stor x (List.mem_of_getElem? hi) with h | h
      · exact .inl h
      · exact .inr (.inl h.1)
    obtain ⟨v, vi, r⟩ := (F.vars fn).get i x _ hi hρ cv
    cases r with
    | int _ t =>
      refine wpAny_AugAssign_Name (load_is fn.kind vi (ev_in fn h hA F hd fun v1 s1 x1 r1 => ?_) hc)
      cases r1 with
      | int _ u =>
        have x2 : Ext s1 { s1 with toks := s1.toks + 1 } := .tk s1 (Nat.le_succ _)
        have F2 := F.ext' (x1.trans x2)
        cases sg
        · exact isub_int (put_val fn F2 hi (.int _ _) fun s3 F3 y3 _ => ⟨_, O, F3, ((x1.trans x2).stp fun _ h => .inl h).trans y3, pin_upd _ hi⟩)
        · exact wpAny_iadd_int (put_val fn F2 hi (.int _ _) fun s3 F3 y3 _ => ⟨_, O, F3, ((x1.trans x2).stp fun _ h => .inl h).trans y3, pin_upd _ hi⟩)
  · cases ho
end
end Mine

namespace Mine
open PySem PySem.W PyProof.Rows

section
variable {prog : Program} {w : World} {h₀ : B0} {Φ : Nat → List Dv → Option Dv} {ns : List Str} {env : Env} {oc : List (Str × Addr)} {k : Nat}
variable {s0 : Shared} {X0 : Bd} {P O : Addr → Prop} {s s' : Shared} {ρ ρ' : List En} {μ μ' : Str → Option Value}

/-- `x = [.. for ..]`, the stores exchanged -/
theorem st_comp {elt target iter : Expr} {ifs : List Expr} {scope : Scope} {n : Nat} {me mi mt : ME} {y : Str} {i : Nat} {py pos spos : Pos} (fn : Fn ns env oc) (hi : ns[i]? = some y) (c : Comp prog w h₀ Φ ns env k elt target iter ifs scope n me mi mt)
    (hs : swapsWith (.ListComp elt [⟨target, iter, ifs, 0⟩] scope pos) (some (.Name y py)) spos.line env = pure true := by rfl) :
    St1 prog w h₀ ns env oc k (.Assign [.Name y py] (.ListComp elt [⟨target, iter, ifs, 0⟩] scope pos) spos) (xset Φ i (.comp me n mi mt)) := by
  constructor; intro A s0 X0 P O s ρ μ out hA F ho
  simp only [xset, Option.map_eq_some_iff] at ho
  obtain ⟨d, hd, rfl⟩ := ho
  have : ∃ es, d = .list es := by
    simp only [ev, Option.map_eq_some_iff, Option.bind_eq_some_iff] at hd
    obtain ⟨_, _, l, _, e⟩ := hd
    exact ⟨l, e.symm⟩
  obtain ⟨es, rfl⟩ := this
  rw [exec_Assign_Name_used _ _ _ _ hs]
  refine wpAny_bind (wpAny_standAt (wpAny_bind ?_))
  show wpAny _ A (do let _ ← comprehension (.ListComp elt [⟨target, iter, ifs, 0⟩] scope pos) scope env _ (newList []) false (eval iter env) (some (assign (.Name y py) env))) _ _ s
  refine wpAny_bind (wpAny_mono (wpAny_comprehension_free (use := some (assign (.Name y py) env)) (Q := fun _ s' => After h₀ ns env oc s0 X0 P O s μ (.next (ρ.set i (.val (.list es)))) .next s') rfl c.plain (closureFor_is fun x hx => c.envk.cells x (c.free x hx)) c.kind (fun x hx hl => once_lookup c.once (by rw [← hl]; exact hx))
    (comp_core (RR := fun acc C => compPost (model prog w) A _ (some (assign (.Name y py) env)) _ acc C) c hA F.bs F.oldY (F.vars fn) hd fun D C s' m vs nn Y x' hn hD nD nC hDC r hY hYC hYt => ?_)) (fun _ s' hq => wpAny_pure (wpAny_pure hq)) fun _ _ e => e)
  show wpAny _ A (assign (.Name y py) env (.ref D)) _ _ _
  have hCl : ¬ locs env oc C := fun h => by have := F.loc.live h; rw [nC] at this; cases this
  have hDl : ¬ locs env oc D := fun h => by have := F.loc.live h; rw [nD] at this; cases this
  refine wpAny_assign_Name ((F.loc.keep fun b o _ e => x'.heap b o e).store fn.kind (fn.stor y (List.mem_of_getElem? hi)) fun s2 l2 m2 _ => ?_)
  refine ⟨m, hn.at' fun o e => m2.heap C o hCl e, fun h' hs' => ?_⟩
  have l3 := l2.keep (h' := h') fun b o hb e => hs'.extBut b o (fun q => hCl (q ▸ hb)) e
  have m3 : Mv (locs env oc) noG s { s2 with heap := h' } := ⟨fun b o n e => hs'.extBut b o (fun q => by rw [q, nC] at e; cases e) (m2.heap b o n (x'.heap b o e)), fun i x n e => m2.gens i x n (x'.gens i x e), fun b => m2.bare (x'.bare b), m2.os.trans x'.os, Nat.le_trans x'.toks m2.toks⟩
  obtain ⟨F3, y3⟩ := F.moved (ρ' := ρ.set i (.val (.list es))) l3 m3 (by rw [List.length_set]; exact F.len) fun j z e h1 h2 => by
    by_cases hj : j = i
    · subst hj
      have hlt : j < ρ.length := by rw [← F.len]; exact (List.getElem?_eq_some_iff.mp hi).1
      rw [List.getElem?_set_self hlt] at h2; cases h2
      rw [hi] at h1; cases h1
      refine .inr ⟨_, .ref D, rfl, by simp [upd], .list (hs'.extBut D _ hDC (m2.heap D _ hDl hD)) (F.oldY.off nD) (Reps.mono (X := Y) (X' := Y0 X0 env oc O) (fun b o n e => ⟨hs'.extBut b o (fun q => n (q ▸ hYC)) (m2.heap b o (fun h => n (hY b (Or.inr (Or.inl h)))) e), fun q => n (hY b q)⟩) (by rw [hYt]; exact Nat.le_refl _) r)⟩
    · rw [List.getElem?_set_ne (Ne.symm hj)] at h2
      refine .inl ⟨?_, h2⟩
      unfold upd; rw [if_neg]; rintro rfl
      obtain ⟨p1, q1⟩ := List.getElem?_eq_some_iff.mp h1
      obtain ⟨p2, q2⟩ := List.getElem?_eq_some_iff.mp hi
      exact hj (nodup_inj fn.nodup p1 p2 (q1.trans q2.symm))
  exact ⟨_, O, F3, y3, pin_upd _ hi⟩

/-! functions -/
noncomputable def Con (prog : Program) (w : World) (h₀ : B0) (fv : Value) (k : Nat) (f : List Dv → Option Dv) : Prop :=
  ∀ (A : Around) (s : Shared) (X : Bd) (vs : List Value) (ds : List Dv) (d : Dv), Rm k A → Bs h₀ s → Old X s → Reps s.heap X vs ds → f ds = some d →
    wpAny (model prog w) A (call fv vs) (fun v s' => s.toks ≤ s'.toks → Ext s s' ∧ Rep s'.heap X v d) (fun _ _ => False) s
structure FnOk (h : Heap) (a : Addr) (fd : FuncData) : Prop where
  obj : ∃ o, h.get? a = some o ∧ o.data = .func fd
  lim : h.NoLimit
  code : h.CodeRec fd.code fd.qualname
theorem ev_call {a : Addr} {fd : FuncData} {j : Nat} {g : List Dv → Option Dv} {x : Str} {e : Expr} {es : List Expr} {m : ME} {p pos : Pos} (hg : Glob prog w h₀ env x (.ref a)) (ok : FnOk h₀.heap a fd) (con : Con prog w h₀ (.ref a) k g) (hΦ : Φ j = g)
    (h : Evs prog w h₀ Φ ns env k (e :: es) m) (hs : starEach (e :: es) env = (false, eval e env) :: starEach es env := by exact star_cons rfl) : Ev prog w h₀ Φ ns env k (.Call (.Name x p) (e :: es) [] pos) (.call j m) := by
  constructor; intro A s X ρ d hA hB hO V he
  simp only [ev, Option.bind_eq_some_iff] at he
  obtain ⟨ds, hds, he⟩ := he
  rw [hΦ] at he
  rw [arm_eval_Call_Name']
  refine wpAny_bind (hg A s p _ _ hB ?_)
  obtain ⟨o, ho, hd⟩ := ok.obj
  refine Calls.callWith_function (o := o) (fd := fd) (args_told h hA hB hO V (lst_some hds) hs fun vs s1 x1 r1 => ⟨⟨x1.heap _ _ (hB.keep _ _ ho), hd⟩, ?_⟩)
  exact wpAny_told (con A s1 X vs ds d hA (hB.ext x1) (hO.ext x1) r1 he) fun v s2 _ ⟨x2, r2⟩ _ => ⟨x1.trans x2, r2⟩

theorem store_all {A : Around} {E : Value → Shared → Prop} (f : Str × Value → PUnit → Sem (ForInStep PUnit)) (hf : ∀ n v u, f (n, v) u = (do storeName env n v; pure (.yield ⟨⟩))) (hk : env.scope.kind = .function) :
    ∀ (xs : List Str) (vs : List Value) {s : Shared} {μ : Str → Option Value} {Q : PUnit → Shared → Prop}, xs.length = vs.length → Loc env oc s.heap μ → (∀ x ∈ xs, storable env oc x) →
      (∀ s', Loc env oc s'.heap (upds μ xs vs) → Mv (locs env oc) noG s s' → (∀ x, xs.head? = some x → env.kindOf x = some .local → s.toks + 1 ≤ s'.toks) → Q ⟨⟩ s') → wpAny (model prog w) A (forIn (xs.zip vs) ⟨⟩ f) Q E s
  | [], vs, s, μ, Q, _, l, _, h => by
    rw [List.zip_nil_left, List.forIn_nil]; exact wpAny_pure (h s (by cases vs <;> exact l) (Ext.refl s).mv (by simp))
  | x :: xs, [], s, μ, Q, hl, _, _, _ => by simp at hl
  | x :: xs, v :: vs, s, μ, Q, hl, l, hx, h => by
    rw [List.zip_cons_cons, List.forIn_cons, hf]
    refine wpAny_bind (wpAny_bind (l.store hk (hx x (.head _)) fun s1 l1 m1 t1 => wpAny_pure ?_))
    refine store_all f hf hk xs vs (by simpa using hl) l1 (fun y hy => hx y (.tail _ hy)) fun s2 l2 m2 _ => h s2 l2 (m1.trans m2) fun y hy ky => ?_
    simp at hy; subst hy
    rw [← t1 ky]; exact m2.toks

/-- what a body gives back -/
noncomputable def bodyOf (n r : Nat) (f : XF) (ds : List Dv) : Option Dv := if ds.length = n then (match f (ds.map .val ++ List.replicate r .no) with | some (.ret d) => some d | _ => none) else none

theorem fn_loc {fd : FuncData} {a : Addr} {h : Heap} (ho : once fd.scope.names) : Loc (callEnvC fd h.objs.size a) (cellsFrom (h.objs.size + 1) fd.scope.names []) (pushCells (h.push { cls := .type "frame", data := .dict #[] }) fd.scope.names) (fun _ => none) := by
  have ok := cellsFrom_ok fd.scope.names (h.push { cls := .type "frame", data := .dict #[] }) (h.objs.size + 1) [] ⟨fun _ _ hm => (nomatch hm), List.Pairwise.nil⟩ (by rw [Heap.size_push]; exact Nat.le_refl _)
  rw [Heap.size_push] at ok
  refine ⟨⟨_, (Heap.Ns.new h (.type "frame")).keeps (pushCells_keeps _ _), fun _ _ => rfl⟩, fun x c hc => (ok.empty x c hc).1, ok.apart, fun p hp => ?_, fun p hp => lookup_pair (cells_once _ _ ho) hp, fun p hp => once_lookup ho (cells_mem _ _ _ _ hp)⟩
  have := (ok.empty p.1 p.2 hp).2
  exact Nat.ne_of_gt this

theorem con_of_ex {fd : FuncData} {body : List Stmt} {xs rest : List Str} {a : Addr} {tok : Nat} {f : XF} (ok : FnOk h₀.heap a fd) (hbody : fd.body = .stmts body) (hclo : fd.closure = []) (hk : fd.scope.kind = .function) (hco : fd.scope.isCoroutine = false) (hgen : fd.scope.isGenerator = false)
    (honce : once fd.scope.names) (hns : ∀ x ∈ xs ++ rest, (x, NameKind.local) ∈ fd.scope.names ∨ (x, NameKind.cell) ∈ fd.scope.names) (hnd : (xs ++ rest).Nodup)
    (hbind : ∀ vs : List Value, vs.length = xs.length → bindArgs fd ⟨vs, []⟩ = pure (xs.zip vs)) (htok : tok ≤ h₀.tok ∨ (tok ≤ h₀.tok + 1 ∧ ∃ x, xs.head? = some x ∧ (x, NameKind.local) ∈ fd.scope.names))
    (hex : ∀ C, Fn (xs ++ rest) (callEnvC fd C a) (cellsFrom (C + 1) fd.scope.names []) → Ex prog w ⟨h₀.heap, tok⟩ (xs ++ rest) (callEnvC fd C a) (cellsFrom (C + 1) fd.scope.names []) k body f) :
    Con prog w h₀ (.ref a) (k + 1) (bodyOf xs.length rest.length f) := by
  intro A s X vs ds d hA hB hO r hf
  unfold bodyOf at hf
  split at hf
  · rename_i hl
    split at hf
    · rename_i d' hfd
      cases hf
      obtain ⟨o, ho, hdata⟩ := ok.obj
      have hvl : vs.length = xs.length := by rw [r.length, hl]
      refine wpAny_call (codeAny_call_function hA.room (hB.keep _ _ ho) hdata hco hgen hbody (ok.code.keeps hB.keep) ?_)
      rw [hbind vs hvl, hclo]
      refine wpAny_pure (wpAny_with_toks (n := s.toks) (Nat.le_refl _) ?_)
      simp only [newFunctionEnv, Option.isSome_none, Bool.false_eq_true, if_false]
      refine wpAny_bind (wpAny_alloc ?_)
      refine wpAny_bind (wpAny_layCells _ (fun name kind cells => by cases hkc : kind == NameKind.cell <;> simp [hkc]) _ _ _ _ ?_)
      rw [show ({ s with heap := s.heap.push { cls := .type "frame", data := .dict #[] } } : Shared).heap.objs.size = s.heap.objs.size + 1 from Heap.size_push ..]
      have hkd : ∀ x kd, (x, kd) ∈ fd.scope.names → (callEnvC fd s.heap.objs.size a).kindOf x = some kd := fun x kd h => once_lookup honce h
      have fn : Fn (xs ++ rest) (callEnvC fd s.heap.objs.size a) (cellsFrom (s.heap.objs.size + 1) fd.scope.names []) := ⟨hk, hnd, fun x hx => by
        rcases hns x hx with h | h
        · exact .inl (hkd x _ h)
        · exact .inr ⟨hkd x _ h, cells_has _ _ _ h⟩⟩
      have l0 := fn_loc (a := a) (h := s.heap) honce
      have hnew : ∀ b, locs (callEnvC fd s.heap.objs.size a) (cellsFrom (s.heap.objs.size + 1) fd.scope.names []) b → s.heap.get? b = none := fun b hb => by
        have : s.heap.objs.size ≤ b := by
          rcases hb with rfl | ⟨x, hb⟩
          · exact Nat.le_refl _
          · exact Nat.le_of_succ_le (cells_ge _ _ _ _ hb)
        cases e : s.heap.get? b with
        | none => rfl
        | some o => exact absurd (Heap.lt_size e) (Nat.not_lt.mpr this)
      refine wpAny_bind (store_all (env := callEnvC fd s.heap.objs.size a) _ (fun _ _ _ => rfl) hk xs vs hvl.symm l0 (fun x hx => fn.stor x (List.mem_append_left _ hx)) fun s2 l2 m2 t2 => wpAny_pure fun ht => ?_)
      have x1 : Ext s { s with heap := pushCells (s.heap.push { cls := .type "frame", data := .dict #[] }) fd.scope.names } := .heap' (t := s.toks) (fun b o e => pushCells_keeps _ _ b o (Heap.get?_push_of_some _ e)) (Nat.le_refl _)
      have x2 : Ext s s2 := m2.ext x1 hnew fun _ f => f.elim
      have F : Fst ⟨h₀.heap, tok⟩ (xs ++ rest) (callEnvC fd s.heap.objs.size a) (cellsFrom (s.heap.objs.size + 1) fd.scope.names []) s X (fun _ => False) (fun _ => False) s2 (ds.map .val ++ List.replicate rest.length .no) (upds (fun _ => none) xs vs) :=
        { len := by simp [hl]
          loc := l2
          get := fun i x e h1 h2 => by
            by_cases hi : i < xs.length
            · rw [List.getElem?_append_left hi] at h1
              rw [List.getElem?_append_left (by rw [List.length_map, hl]; exact hi), List.getElem?_map, Option.map_eq_some_iff] at h2
              obtain ⟨d, hd, rfl⟩ := h2
              obtain ⟨v, hv, rv⟩ := r.get hd
              exact ⟨v, upds_get xs vs _ i x v (List.nodup_append.mp hnd).1 h1 hv, Rep.mono (X := X) (X' := Y0 X _ _ _) (fun b o n e => ⟨x2.heap b o e, fun h => h.elim n fun h => h.elim (fun h => by rw [hnew b h] at e; cases e) fun h => h⟩) (Nat.le_refl _) rv⟩
            · rw [List.getElem?_append_right (by rw [List.length_map, hl]; omega)] at h2
              have := List.mem_of_getElem? h2
              rw [List.mem_replicate] at this
              rw [this.2]; trivial
          apart := fun i j x y ds' es a _ _ h3 _ _ _ => by
            have hm := List.mem_of_getElem? h3
            rw [List.mem_append, List.mem_map, List.mem_replicate] at hm
            rcases hm with ⟨_, _, h⟩ | ⟨_, h⟩ <;> cases h
          new := fun b hb => hb.elim (hnew b) fun f => f.elim
          sep := fun _ f => f.elim
          live := fun _ f => f.elim
          sub := fun _ f => f.elim
          ext := x2
          base := hB.keep
          tok := by
            rcases htok with h | ⟨h, x, hx, hx'⟩
            · exact Nat.le_trans h (Nat.le_trans hB.tok x2.toks)
            · have := t2 x hx (hkd x _ hx')
              have h3 := hB.tok
              exact Nat.le_trans h (Nat.le_trans (Nat.succ_le_succ h3) this)
          old := hO }
      refine ⟨(ok.lim.keeps hB.keep).keeps x2.heap, ?_⟩
      refine codeAny_func (wpAny_mono ((hex _ fn).run (A.deeper _) s X _ _ s2 _ _ _ (hA.deeper _) F hfd) (fun fl s3 af => ?_) fun _ _ f => f.elim)
      cases fl <;> try exact af.elim
      exact fun _ => af
    · cases hf
  · cases hf
end
end Mine

namespace Mine
open PySem PySem.W PyProof.Rows

noncomputable def vchk (env : Env) (x : Str) : Bool := match env.kindOf x with | some .local | some .cell | some .free => true | _ => false
noncomputable def nmok (x : Str) : Bool := !(x == ("__debug__" : Str)) && !(x == ("__classdict__" : Str))
theorem canVar_of {env : Env} {x : Str} (h : vchk env x = true) : canVar env x := by
  unfold vchk at h
  split at h
  · rename_i e; exact .inl e
  · rename_i e; exact .inr (.inl e)
  · rename_i e; exact .inr (.inr e)
  · cases h
theorem nmok_d {x : Str} (h : nmok x = true) : (x == ("__debug__" : Str)) = false := by
  unfold nmok at h; simp only [Bool.and_eq_true, Bool.not_eq_true'] at h; exact h.1
theorem nmok_c {x : Str} (h : nmok x = true) : (x == ("__classdict__" : Str)) = false := by
  unfold nmok at h; simp only [Bool.and_eq_true, Bool.not_eq_true'] at h; exact h.2
noncomputable def isOwn : NameKind → Bool | .local => true | .cell => true | _ => false
noncomputable def isFree : NameKind → Bool | .free => true | _ => false
noncomputable def nodupB : List Str → Bool
  | [] => true
  | x :: r => !(r.any fun y => x == y) && nodupB r
theorem str_beq {x y : Str} (h : x = y) : (x == y) = true := by subst h; simp
theorem nodupB_ok : ∀ {l : List Str}, nodupB l = true → l.Nodup
  | [], _ => List.nodup_nil
  | x :: r, h => by
    unfold nodupB at h
    simp only [Bool.and_eq_true, Bool.not_eq_true'] at h
    rw [List.nodup_cons]
    refine ⟨fun hm => ?_, nodupB_ok h.2⟩
    have : (r.any fun y => x == y) = true := List.any_eq_true.mpr ⟨x, hm, str_beq rfl⟩
    rw [h.1] at this; cases this
noncomputable def ownIn (names : List (Str × NameKind)) (x : Str) : Bool := names.any fun p => p.1 == x && isOwn p.2
theorem ownIn_ok {names : List (Str × NameKind)} {x : Str} (h : ownIn names x = true) : (x, NameKind.local) ∈ names ∨ (x, NameKind.cell) ∈ names := by
  obtain ⟨⟨y, kd⟩, hm, hp⟩ := List.any_eq_true.mp h
  simp only [Bool.and_eq_true] at hp
  have : y = x := by simpa using hp.1
  subst this
  cases kd <;> first
    | exact .inl hm
    | exact .inr hm
    | (have := hp.2; cases this)
noncomputable def compChk (ns xs : List Str) (env : Env) (names : List (Str × NameKind)) : Bool :=
  nodupB (names.map (·.1)) && nodupB xs && xs.all (ownIn names) && ns.all (fun y => !ownIn names y) && names.all fun p => !isFree p.2 || (match env.kindOf p.1 with | some .cell | some .free => true | _ => false)

section
variable {prog : Program} {w : World} {h₀ : B0} {Φ : Nat → List Dv → Option Dv} {ns : List Str} {env : Env} {oc : List (Str × Addr)} {k : Nat}

theorem ev_v (i : Nat) {x : Str} {pos : Pos} (hk : env.scope.kind = .function := by rfl) (hi : ns[i]? = some x := by rfl) (hc : vchk env x = true := by rfl) (hn : nmok x = true := by rfl) : Ev prog w h₀ Φ ns env k (.Name x pos) (.var i) :=
  ev_var hk hi (canVar_of hc) (nmok_d hn) (nmok_c hn)
theorem ev_vo (i : Nat) {x : Str} {slice : Expr} {ms : ME} {p pos : Pos} (h2 : Ev prog w h₀ Φ ns env k slice ms) (hk : env.scope.kind = .function := by rfl) (hi : ns[i]? = some x := by rfl) (hc : vchk env x = true := by rfl) (hn : nmok x = true := by rfl)
    (hs : ∀ a b c p, slice ≠ .Slice a b c p := by intro _ _ _ _ h; cases h) : Ev prog w h₀ Φ ns env k (.Subscript (.Name x p) slice pos) (.oidx i ms) :=
  ev_oidx hk hi (canVar_of hc) h2 (nmok_d hn) (nmok_c hn) hs

theorem comp_of {elt target iter : Expr} {ifs : List Expr} {scope : Scope} {n : Nat} {me mi mt : ME} {xs : List Str} (K : EnvK env) (src : It prog w h₀ Φ ns env k iter mi) (t : Tgt target n xs)
    (he : ∀ C, EnvK (compE scope env C) → Ev prog w h₀ Φ (ns ++ xs) (compE scope env C) k elt me) (hi : (∀ C, EnvK (compE scope env C)) → Ifs prog w h₀ Φ (ns ++ xs) k (compE scope env) ifs mt) (hk : scope.kind = .function := by rfl) (hc : compChk ns xs env scope.names = true := by rfl)
    (plain : ∀ x, foldedSetIterable iter env x = pure x := by intro _; rfl) : Comp prog w h₀ Φ ns env k elt target iter ifs scope n me mi mt := by
  unfold compChk at hc
  simp only [Bool.and_eq_true, List.all_eq_true, Bool.not_eq_true', Bool.or_eq_true] at hc
  obtain ⟨⟨⟨⟨h1, h2⟩, h3⟩, h4⟩, h5⟩ := hc
  have ho : once scope.names := nodupB_ok h1
  have K' : ∀ C, EnvK (compE scope env C) := fun C => comp_envK ho hk
  refine ⟨src, ⟨xs, t, fun C => he C (K' C), hi K', fun y hy => ownIn_ok (h3 y hy), nodupB_ok h2⟩, hk, ho, fun y hy kd hm => ?_, fun y hm => ?_, plain, K⟩
  · have := h4 y hy
    unfold ownIn at this
    constructor <;> rintro rfl <;>
    · have h : (scope.names.any fun p => p.1 == y && isOwn p.2) = true := List.any_eq_true.mpr ⟨_, hm, by simp [isOwn]⟩
      rw [h] at this; cases this
  · rcases h5 _ hm with h | h
    · cases h
    · split at h
      · rename_i e; exact .inl e
      · rename_i e; exact .inr e
      · cases h

theorem fn_envK {fd : FuncData} {C a : Addr} (hk : fd.scope.kind = .function) (ho : once fd.scope.names) (hf : ∀ p ∈ fd.scope.names, isFree p.2 = false) : EnvK (callEnvC fd C a) := by
  refine ⟨hk, ho, fun x hx => ?_⟩
  rcases hx with hx | hx
  · obtain ⟨c, hc⟩ := cells_has _ (C + 1) x (mem_of_lookup hx)
    have := lookup_pair (cells_once _ (C + 1) ho) hc
    show (List.lookup x (cellsFrom (C + 1) fd.scope.names [])).isSome = true
    rw [this]; rfl
  · have := hf _ (mem_of_lookup hx)
    cases this

theorem pts_ev {e : Expr} {m : ME} {es : List Expr} {ps : List Pt} (h : Ev prog w h₀ Φ ns env k e m) (r : PtsOk prog w h₀ Φ ns env k es ps) (hs : starEach (e :: es) env = (false, eval e env) :: starEach es env := by exact star_cons rfl) : PtsOk prog w h₀ Φ ns env k (e :: es) (.ev m :: ps) := .ev h hs r
theorem pts_own {q : Pos} {es : List Expr} {ps : List Pt} (r : PtsOk prog w h₀ Φ ns env k es ps) (hs : starEach (.List [] q :: es) env = (false, eval (.List [] q) env) :: starEach es env := by exact star_cons rfl) : PtsOk prog w h₀ Φ ns env k (.List [] q :: es) (.own :: ps) := .own hs r
/-- a name of the top or of the builtins -/
structure Gl (h : Heap) (x : Str) (v : Value) : Prop where
  is_ : ∃ mg, h.Ns mainGlobals mg ∧ (mg x = some v ∨ (mg x = none ∧ ∃ mb, h.Ns builtinsNs mb ∧ mb x = some v))
theorem glob_of {x : Str} {v : Value} (G : Gl h₀.heap x v) (hk : env.scope.kind = .function := by rfl) (hg : env.globals = mainGlobals := by rfl) (hb : env.builtins = builtinsNs := by rfl) (hx : env.kindOf x = some .globalImplicit := by rfl) (hd : (x == ("__debug__" : Str)) = false := by rfl) :
    Glob prog w h₀ env x v := by
  intro A s pos Q E hB hQ
  obtain ⟨mg, ng, h | ⟨h, mb, nb, hv⟩⟩ := G.is_
  · exact Calls.Name_function_global hk hx (Calls.loadGlobal_global (by rw [hg]; exact ng.keeps hB.keep) h hQ) hd
  · exact Calls.Name_function_global hk hx (Calls.loadGlobal_builtin (by rw [hg]; exact ng.keeps hB.keep) h (by rw [hb]; exact nb.keeps hB.keep) hv hQ) hd

theorem Con.le {fv : Value} {k' : Nat} {f : List Dv → Option Dv} (c : Con prog w h₀ fv k' f) (h : k' ≤ k) : Con prog w h₀ fv k f := fun A s X vs ds d hA => c A s X vs ds d (hA.le h)

noncomputable def fnChk (xs rest : List Str) (names : List (Str × NameKind)) : Bool := nodupB (names.map (·.1)) && nodupB (xs ++ rest) && (xs ++ rest).all (ownIn names) && names.all fun p => !isFree p.2
theorem bind1 {fd : FuncData} {x : Str} {vs : List Value} (h : vs.length = 1) (p : ∀ v, bindArgs fd ⟨[v], []⟩ = pure ([x].zip [v])) : bindArgs fd ⟨vs, []⟩ = pure ([x].zip vs) := by
  obtain ⟨v, rfl⟩ := List.length_eq_one_iff.mp h
  exact p v
theorem bind2 {fd : FuncData} {x y : Str} {vs : List Value} (h : vs.length = 2) (p : ∀ u v, bindArgs fd ⟨[u, v], []⟩ = pure ([x, y].zip [u, v])) : bindArgs fd ⟨vs, []⟩ = pure ([x, y].zip vs) := by
  cases vs with
  | nil => cases h
  | cons u vs =>
    obtain ⟨v, rfl⟩ := List.length_eq_one_iff.mp (Nat.succ.inj h)
    exact p u v
theorem con_fn {fd : FuncData} {body : List Stmt} {xs rest : List Str} {a : Addr} {tok : Nat} {f : XF} (ok : FnOk h₀.heap a fd)
    (hbind : ∀ vs : List Value, vs.length = xs.length → bindArgs fd ⟨vs, []⟩ = pure (xs.zip vs)) (htok : tok ≤ h₀.tok ∨ (tok ≤ h₀.tok + 1 ∧ ∃ x, xs.head? = some x ∧ (x, NameKind.local) ∈ fd.scope.names))
    (hex : ∀ C, Fn (xs ++ rest) (callEnvC fd C a) (cellsFrom (C + 1) fd.scope.names []) → EnvK (callEnvC fd C a) → Ex prog w ⟨h₀.heap, tok⟩ (xs ++ rest) (callEnvC fd C a) (cellsFrom (C + 1) fd.scope.names []) k body f)
    (hbody : fd.body = .stmts body := by rfl) (hclo : fd.closure = [] := by rfl) (hk : fd.scope.kind = .function := by rfl) (hco : fd.scope.isCoroutine = false := by rfl) (hgen : fd.scope.isGenerator = false := by rfl)
    (hc : fnChk xs rest fd.scope.names = true := by rfl) :
    Con prog w h₀ (.ref a) (k + 1) (bodyOf xs.length rest.length f) := by
  unfold fnChk at hc
  simp only [Bool.and_eq_true, List.all_eq_true, Bool.not_eq_true'] at hc
  obtain ⟨⟨⟨h1, h2⟩, h3⟩, h4⟩ := hc
  exact con_of_ex ok hbody hclo hk hco hgen (nodupB_ok h1) (fun x hx => ownIn_ok (h3 x hx)) (nodupB_ok h2) hbind htok fun C fn => hex C fn (fn_envK hk (nodupB_ok h1) h4)
end
end Mine

namespace Mine
open PySem PySem.W PyProof.Rows
/-- the escaping reader hands on the units (to be proved by hand) -/
structure GenOk (prog : Program) (w : World) (h₀ : B0) (a : Addr) : Prop where
  run : ∀ {Φ : Nat → List Dv → Option Dv} {ns : List Str} {env : Env} {k : Nat} {e : Expr} {m : ME} {p pos : Pos}, 1 ≤ k → Glob prog w h₀ env "_iter_escaped_chars" (.ref a) → Ev prog w h₀ Φ ns env k e m → notStar e = true →
    It prog w h₀ Φ ns env k (.Call (.Name "_iter_escaped_chars" p) [e] [] pos) (.gen m)
end Mine

namespace Mine
open PySem PySem.W PyProof.Rows

section
variable {prog : Program} {w : World} {h₀ : B0} {Φ : Nat → List Dv → Option Dv} {ns : List Str} {env : Env} {k : Nat}
theorem repF_get {h : Heap} {X : Bd} {es : List DictEntry} : ∀ {fs : List (Nat × Dv)} {j : Nat} {d : Dv}, RepF h X es fs → fs.lookup j = some d → ∃ v, getL (fname j) es = some (some v) ∧ Rep h X v d
  | _, _, _, .nil, e => by cases e
  | _, j, d, .cons (k := i) (v := v) g r q, e => by
    rw [List.lookup_cons] at e
    split at e
    · rename_i hb
      have : j = i := by simpa using hb
      subst this
      cases e
      exact ⟨v, g, r⟩
    · exact repF_get q e
theorem rep_handed {h : Heap} {X : Bd} {v : Value} {d : Dv} (r : Rep h X v d) : handedIn v = true := by cases r <;> rfl
/-- a field of a thing -/
theorem ev_attr {K : Frag} {C : Addr} {cd : ClassData} (j : Nat) {value : Expr} {m : ME} {pos : Pos} (X : K.In h₀.heap) (hga : findIn K (.ref C) "__getattribute__" = some (some (.builtin "object.__getattribute__")))
    (hc : clsIn K C = some cd) (hd : cd.hasDict = true) (hf : findIn K (.ref C) (fname j) = some none) (h : Ev prog w h₀ Φ ns env k value m)
    (he : eval (.Attribute value (fname j) pos) env = (do { let o ← eval value env; standAt pos.atName; let r ← holding [o] (getAttr o (fname j) true); letTemporaryGo value o r; pure r })) :
    Ev prog w h₀ Φ ns env k (.Attribute value (fname j) pos) (.op (.attr C j) (.cons m .nil)) := by
  constructor; intro A s Y ρ d hA hB hO V hev
  obtain ⟨ds, hds, hap⟩ := ev_op_inv hev
  obtain ⟨d1, rfl, h1⟩ := ev_cons1 hds
  cases d1 with
  | obj C' fs =>
    rw [op_attr] at hap
    split at hap
    · rename_i e; subst e
      refine Attribute_any_ (wpAny_told (h.run A s Y ρ _ hA hB hO V h1) fun v s1 _ ⟨x1, r1⟩ => ?_) he
      cases r1 with
      | @obj x da _ es n _ e1 n1 e2 n2 rf _ =>
        obtain ⟨u, hu, ru⟩ := repF_get rf hap
        have X1 : K.In s1.heap := fun a o e => (hB.ext x1).keep _ _ (X a o e)
        refine get_value X1 (ox := instObj C' da) (od := some (dictOf es n)) ⟨e1, rfl, rfl, e2⟩ hga ?_ (rep_handed ru) fun ht => ⟨x1.trans (.tk s1 (Nat.le_succ _)), ru⟩
        unfold findObj
        rw [hc, hf]
        show (PySem.W.ownOf cd (some (dictOf es n)) (fname j)).bind _ = _
        unfold PySem.W.ownOf
        rw [hd, if_pos rfl]
        show (lookIn (fname j) (dictOf es n)).bind _ = _
        rw [lookIn_dict, hu]
        rfl
    · cases hap
  | _ => cases hap
end
end Mine

namespace Mine
open PySem PySem.W PyProof.Rows

section
variable {prog : Program} {w : World} {h₀ : B0} {Φ : Nat → List Dv → Option Dv} {ns : List Str} {env : Env} {k : Nat}
/-- a method of a thing, one argument -/
theorem ev_mcall {K : Frag} {C f : Addr} {fd : FuncData} {j : Nat} {g : List Dv → Option Dv} {nm : Str} {o e : Expr} {mo me : ME} {apos pos : Pos} (hnm : nm ∈ mnames) (X : K.In h₀.heap)
    (hga : findIn K (.ref C) "__getattribute__" = some (some (.builtin "object.__getattribute__"))) (hk : findIn K (.ref C) "__getattr__" = some none) (hf : findIn K (.ref C) nm = some (some (.ref f))) (ht : typeIn K (.ref f) = some (.type "function"))
    (ok : FnOk h₀.heap f fd) (con : Con prog w h₀ (.ref f) k g) (hΦ : Φ j = g) (hobj : ∀ d1 d2 r, g [d1, d2] = some r → ∃ fs, d1 = .obj C fs) (h1 : Ev prog w h₀ Φ ns env k o mo) (h2 : Ev prog w h₀ Φ ns env k e me)
    (hbase : attributeBase o nm env (eval o env) = eval o env) (hst : notStar e = true := by rfl) (hline : (apos.endLine == pos.line) = true := by rfl) :
    Ev prog w h₀ Φ ns env k (.Call (.Attribute o nm apos) [e] [] pos) (.call j (.cons mo (.cons me .nil))) := by
  constructor; intro A s Y ρ d hA hB hO V he
  simp only [ev, Option.bind_eq_some_iff] at he
  obtain ⟨ds, hds, he⟩ := he
  obtain ⟨d1, d2, rfl, e1, e2⟩ := ev_cons2 (Φ := Φ) (m1 := mo) (m2 := me) (ρ := ρ) (ds := ds) (by simp only [ev]; exact lst_some hds)
  rw [hΦ] at he
  obtain ⟨fs, rfl⟩ := hobj _ _ _ he
  rw [arm_eval_Call, hbase]
  refine wpAny_bind (wpAny_told (h1.run A s Y ρ _ hA hB hO V e1) fun v s1 _ ⟨x1, r1⟩ => ?_)
  have ra := r1
  cases r1 with
  | @obj x da _ es n _ g1 n1 g2 n2 rf hno =>
    refine wpAny_bind (wpAny_standAt ?_)
    obtain ⟨ob, hob, hdat⟩ := ok.obj
    have X1 : K.In s1.heap := fun a o e => (hB.ext x1).keep _ _ (X a o e)
    have fin : wpAny (model prog w) A (callWith pos (.ref f) [.ref x] (backTo pos (starEach [e] env)) []) (fun v s' => s.toks ≤ s'.toks → Ext s s' ∧ Rep s'.heap Y v d) (fun _ _ => False) s1 := by
      rw [star_one hst]
      refine Calls.callWith_function (o := ob) (fd := fd) (Calls.evalArgs_plain (Calls.spliced_cons (wpAny_told (h2.run A s1 Y ρ _ hA (hB.ext x1) (hO.ext x1) (V.ext x1) e2) fun y s2 _ ⟨x2, r2⟩ => Calls.spliced_nil ?_)))
      have y2 := x1.trans x2
      refine ⟨⟨y2.heap _ _ (hB.keep _ _ hob), hdat⟩, ?_⟩
      exact wpAny_told (con A s2 Y [.ref x, y] _ d hA (hB.ext y2) (hO.ext y2) (.cons (ra.ext x2) (.cons r2 .nil)) he) fun v s3 _ ⟨x3, r3⟩ _ => ⟨y2.trans x3, r3⟩
    have hform : methodCallForm (([e] : List Expr).length + ([] : List Keyword).length) (backTo pos (starEach [e] env)) (backToKw pos (keywordEach [] env)) = true := by rw [star_one hst]; rfl
    have hpos : methodCallPos true o env apos pos = pure pos := by unfold methodCallPos; simp [hline]
    unfold methodCall
    rw [hform]
    refine wpAny_bind (wpAny_holding (method_fn X1 (ox := instObj C da) (od := some (dictOf es n)) ⟨g1, rfl, rfl, g2⟩ hga hk hf ht ?_ ?_))
    · show (lookIn nm (dictOf es n)).map _ = _
      rw [lookIn_dict, hno nm hnm]; rfl
    · exact wpAny_bind (wpAny_of_eq hpos fin)
end
end Mine

namespace Mine
open PySem PySem.W PyProof.Rows

section
variable {prog : Program} {w : World} {A : Around} {E : Value → Shared → Prop} {s : Shared}

/-- an end of iteration is raised -/
theorem raise_stop {α β : Type} {k : β → Sem α} {Q : α → Shared → Prop} (hh : A.handled = none)
    (h : ∀ h' e ob, (∀ b o, s.heap.get? b = some o → h'.get? b = some o) → h'.get? e = some ob → ob.cls = .type "StopIteration" → E (.ref e) { s with heap := h' }) :
    wpAny (model prog w) A (do let e ← newExc (.type "StopIteration") []; let r ← raiseNew e; k r : Sem α) Q E s := by
  refine wpAny_bind ?_
  unfold newExc newTuple
  refine wpAny_bind (wpAny_newObj_type ?_ (by size_fits))
  refine wpAny_bind (m := firstArgMember _ _) (wpAny_of_eq (a := Value.none) (by first | rfl | (simp only [firstArgMember]; rfl)) ?_)
  refine wpAny_newObj_type ?_ (by size_fits)
  unfold raiseNew
  refine wpAny_bind ?_
  refine wpAny_bind (wpAny_handled ?_)
  rw [hh]
  first
    | refine wpAny_throw ?_
    | refine wpAny_bind (wpAny_pure (wpAny_throw ?_))
  exact h _ _ _ (fun b o hb => Heap.get?_push_of_some _ (Heap.get?_push_of_some _ hb)) (Heap.get?_push_size _ rfl) rfl

/-- the next item of a generator; what is left behind asks for no cleaning -/
theorem next_gen {a : Addr} {g n : Nat} {gs : GenState} {P : Nat → Shared → Shared → Prop} {Y : Protocol} {Q : Option Value → Shared → Prop} (hh : A.handled = none) (hl : s.heap.NoLimit) (hroom : A.depth < recursionLimit)
    (hg : s.heap.IsGen a g) (hgs : s.gens[g]? = some gs)
    (hgo : gs.Goes (model prog w) A.in1 (fun n s₀ r s₁ => r = .ok (.ret .none) ∧ P n s₀ s₁) Y n (.send .none) (s.setGen g .running))
    (hY : ∀ v s₁ gs', gs'.bare = true → Y (n - 1) (s.setGen g .running) v s₁ (fun r' s'' => match n with
        | 0 => False
        | m + 1 => gs'.Goes (model prog w) A.in1 (fun n s₀ r s₁ => r = .ok (.ret .none) ∧ P n s₀ s₁) Y m r' s'') → Q (some v) (s₁.setGen g gs'))
    (hP : ∀ s₁, P n (s.setGen g .running) s₁ → ∀ h', (∀ b o, s₁.heap.get? b = some o → h'.get? b = some o) → Q none { s₁.setGen g .finished with heap := h' }) :
    wpAny (model prog w) A (pyNext (.ref a)) Q E s := by
  unfold pyNext
  refine wpAny_bind (wpAny_attempt (wpAny_callSpecial?_slot (name := Str.ofString "__next__") hg.typeIs slot_gen_next (wpAny_call_entry slot_gen_next hg.typeIs entry_gen_next ?_ (args_gen_next _))))
  show wpAny _ A.in1 (Builtin.Generator.genWake (.ref a) (.send .none)) _ _ s
  unfold Builtin.Generator.genWake
  refine wpAny_bind (wpAny_holding (wpAny_genNumber hg (wpAny_bind (wpAny_genState hgs ?_))))
  cases gs with
  | running => exact hgo.elim
  | finished => exact hgo.elim
  | _ =>
    refine wpAny_bind (wpAny_roomToWake hl hroom ?_)
    show wpAny _ A.in1 (.resume g (.send .none) [] _) _ _ s
    refine wpAny_resumeQ hgs hgo (fun x s₁ hx => ?_) fun v s₁ gs' hb hv => ?_
    · obtain ⟨rfl, hp⟩ := hx
      show wpAny _ A.in1 (newExc (.type "StopIteration") [] >>= _) _ _ _
      refine raise_stop (A := A.in1) hh fun h' e ob hk he hc => ?_
      exact wpAny_bind (wpAny_isInstance (T := "StopIteration") (b := true) ⟨_, he, hc⟩ isSubtype_stop (wpAny_pure (hP s₁ hp _ hk)))
    · exact wpAny_pure ⟨v, rfl, wpAny_pure (hY v s₁ gs' hb hv)⟩
end
end Mine

namespace Mine
open PySem PySem.W PyProof.Rows

section
variable {prog : Program} {w : World} {A : Around} {R : GenEnd} {Y : Protocol} {n : Nat} {s₀ : Shared} {c : Code} {fs : List Frame} {s : Shared} {env : Env}
  {K : Flow → Sem Fin} {H : Value → Sem Fin} {gd : Bool → Bool} {lv : List Value → List Value}

theorem seg_piece {α β : Type} {m : Sem α} {k : α → Sem β} {K : β → Sem Fin}
    (h : wpAny (model prog w) (A.over c fs) m (fun a s' => Seg (model prog w) A R Y n s₀ c ((k a).wrap K H gd lv) fs s') (fun _ _ => False) s) : Seg (model prog w) A R Y n s₀ c ((m >>= k).wrap K H gd lv) fs s :=
  seg_bind_wrap (wpAny_mono h (fun _ _ x => x) fun _ _ f => f.elim)

/-- a whole statement that yields nothing -/
theorem seg_plain {st : Stmt} {rest : List Stmt} (h : wpAny (model prog w) (A.over c fs) (exec st env) (fun f s' => f = .next ∧ Seg (model prog w) A R Y n s₀ c ((execs rest env).wrap K H gd lv) fs s') (fun _ _ => False) s) :
    Seg (model prog w) A R Y n s₀ c ((execs (st :: rest) env).wrap K H gd lv) fs s := by
  refine seg_execs_cons (seg_wrap (wpAny_mono h (fun f s' x => ?_) fun _ _ f => f.elim))
  obtain ⟨rfl, x⟩ := x
  exact x

theorem seg_if {test : Expr} {body orelse : List Stmt} {pos : Pos}
    (h : wpAny (model prog w) (A.over c fs) (isTrue test env (eval test env)) (fun b s' => Seg (model prog w) A R Y n s₀ c ((execs (if b then body else orelse) env).wrap K H gd lv) fs s') (fun _ _ => False) s) :
    Seg (model prog w) A R Y n s₀ c ((exec (.If test body orelse pos) env).wrap K H gd lv) fs s := by
  rw [exec_If]
  refine seg_piece (wpAny_standAt ?_)
  refine seg_piece (wpAny_mono h (fun b s' x => ?_) fun _ _ f => f)
  cases b
  · exact x
  · exact x

/-- what a loop's end goes back to -/
noncomputable def forBack (env : Env) (K : Flow → Sem Fin) (H : Value → Sem Fin) (gd : Bool → Bool) (lv : List Value → List Value) : Result → Sem Fin := fun r =>
  ((match r with | .ok f => (.pure f : Sem Flow) | .error e => .raise e).onRaise fun (x : Value) => do
        if (← field x 1) == Value.none then unsupported "frame.own-activation:exception-without-traceback"
        setFlight x env.frame).wrap K H gd lv

theorem seg_for {target iter : Expr} {body : List Stmt} {pos : Pos}
    (h : wpAny (model prog w) (A.over c fs) (eval iter env) (fun x s₁ => wpAny (model prog w) (A.over c fs) (pyIter x) (fun it s₂ => ∀ p, Seg (model prog w) A R Y n s₀ (.forLoop target it body [] env) ((model prog w).den (.forLoop target it body [] env))
      (.ret (forBack env K H gd lv) none (gd false) (lv []) c p [] :: fs) s₂) (fun _ _ => False) s₁) (fun _ _ => False) s)
    (hs : ∀ x, foldedSetIterable iter env x = pure x := by intro _; rfl) :
    Seg (model prog w) A R Y n s₀ c ((exec (.For target iter body [] pos) env).wrap K H gd lv) fs s := by
  rw [exec_For]
  refine seg_piece (wpAny_standAt ?_)
  refine seg_piece (wpAny_mono h (fun x s₁ h₁ => ?_) fun _ _ f => f)
  refine seg_piece (wpAny_of_eq (hs x) ?_)
  refine seg_piece (wpAny_standAt ?_)
  refine seg_piece (wpAny_holding (wpAny_mono h₁ (fun it s₂ h₂ => ?_) fun _ _ f => f))
  exact seg_call h₂

noncomputable def loopErr (env : Env) : Value → Sem Fin := fun e => (do noteFrame e env; theTreesLotGoes e : Sem Unit).wrap (fun _ => .raise e) .raise id id

theorem seg_forLoop {target : Expr} {it : Value} {body : List Stmt}
    (h : wpAny (model prog w) (A.over (.forLoop target it body [] env) fs) (pyNext it) (fun r s₁ => match r with
      | none => Seg (model prog w) A R Y n s₀ (.block [] env) (leafOf (.ok .next)) fs s₁
      | some v => wpAny (model prog w) (A.over (.forLoop target it body [] env) fs) (letOwnedTupleGo target it v) (fun _ s₁' => wpAny (model prog w) (A.over (.forLoop target it body [] env) fs) (assign target env v) (fun _ s₂ =>
          Seg (model prog w) A R Y n s₀ (.forLoop target it body [] env) ((execs body env).wrap (fun f => match f with
            | .next | .cont => .pure (.again (.forLoop target it body [] env))
            | .brk => .pure (.done .next)
            | .ret v => .pure (.done (.ret v))) (loopErr env) id id) fs s₂) (fun _ _ => False) s₁') (fun _ _ => False) s₁) (fun _ _ => False) s) :
    Seg (model prog w) A R Y n s₀ (.forLoop target it body [] env) ((model prog w).den (.forLoop target it body [] env)) fs s := by
  show Seg _ A R Y n s₀ _ ((forTurn target it body [] env).onRaise (fun x => do noteFrame x env; theTreesLotGoes x)) fs s
  unfold forTurn
  rw [Sem.onRaise_eq_wrap]
  refine seg_piece (wpAny_standAt ?_)
  refine seg_piece (wpAny_onRaise (wpAny_mono h (fun r s₁ h₁ => ?_) fun _ _ f => f.elim))
  cases r with
  | none => exact seg_again rfl h₁
  | some v =>
    refine seg_piece (wpAny_mono h₁ (fun _ s₁' h₁' => ?_) fun _ _ f => f)
    refine seg_piece (wpAny_mono h₁' (fun _ s₂ h₂ => ?_) fun _ _ f => f)
    rw [Sem.bind_eq_wrap', Sem.wrap_wrap]
    rw [Sem.wrap_congr (execs body env) _ _ (K' := fun f => match f with
            | .next | .cont => .pure (.again (.forLoop target it body [] env))
            | .brk => .pure (.done .next)
            | .ret v => .pure (.done (.ret v))) (H' := loopErr env)
        (fun f => by cases f <;> rfl)
        (fun e => by unfold loopErr; exact Sem.bind_eq_wrap _ _)]
    exact h₂
end
end Mine

namespace Mine
open PySem PySem.W PyProof.Rows

noncomputable def gns : List Str := ["addr", "pos", "escape", "ch"]
structure GEnv (env : Env) : Prop where
  kind : env.scope.kind = .function
  co : env.scope.isCoroutine = false
  inter : interactive env = false
  names : ∀ x ∈ gns, env.kindOf x = some .local
/-- the reader's names -/
structure GV (env : Env) (h : Heap) (x : List Nat) (p : Int) (e : Bool) (c : Option Nat) : Prop where
  ex : ∃ μ, Loc env [] h μ ∧ (∃ t, μ "addr" = some (.str (mkS x) t)) ∧ (∃ t, μ "pos" = some (.int p t)) ∧ μ "escape" = some (.bool e) ∧ (∀ d, c = some d → ∃ t, μ "ch" = some (.str (mkS [d]) t))
noncomputable def gro (x : List Nat) (p : Int) (e : Bool) (c : Option Nat) : List En := [.val (.str x), .val (.int p), .val (.bool e), match c with | some d => .val (.str [d]) | none => .no]

theorem locs_nil {env : Env} {b : Addr} : locs env [] b ↔ b = env.locals := ⟨fun h => h.elim id fun ⟨_, h⟩ => by simp at h, .inl⟩
theorem GV.keep {env : Env} {h h' : Heap} {x : List Nat} {p : Int} {e : Bool} {c : Option Nat} (v : GV env h x p e c) (hk : ∀ o, h.get? env.locals = some o → h'.get? env.locals = some o) : GV env h' x p e c :=
  let ⟨μ, l, r⟩ := v.ex; ⟨μ, l.keep fun b o hb eo => by rw [locs_nil.mp hb] at eo ⊢; exact hk o eo, r⟩

section
variable {prog : Program} {w : World} {env : Env} {s : Shared} {x : List Nat} {p : Int} {e : Bool} {c : Option Nat}
theorem GV.vars (G : GEnv env) (v : GV env s.heap x p e c) (X : Bd) : Vars env s X gns (gro x p e c) := by
  obtain ⟨μ, l, ⟨ta, ea⟩, ⟨tp, ep⟩, ee, ec⟩ := v.ex
  obtain ⟨m, n, hm⟩ := l.ns
  have vi : ∀ y ∈ gns, ∀ u, μ y = some u → VarIs env s y u := fun y hy u hu => .inl ⟨G.names y hy, m, n, (hm y (G.names y hy)).trans hu⟩
  refine ⟨rfl, fun i y en h1 h2 _ => ?_⟩
  have hy : y ∈ gns := List.mem_of_getElem? h1
  match i, h1, h2 with
  | 0, h1, h2 => cases h1; cases h2; exact ⟨_, vi _ hy _ ea, .str' _ _⟩
  | 1, h1, h2 => cases h1; cases h2; exact ⟨_, vi _ hy _ ep, .int _ _⟩
  | 2, h1, h2 => cases h1; cases h2; exact ⟨_, vi _ hy _ ee, .bool _⟩
  | 3, h1, h2 =>
    cases h1
    cases c with
    | none => cases h2; trivial
    | some d =>
      cases h2
      obtain ⟨t, et⟩ := ec d rfl
      exact ⟨_, vi _ hy _ et, .str' _ _⟩
  | i + 4, h1, _ => simp [gns] at h1

theorem loc_put {A : Around} {μ : Str → Option Value} {y : Str} {u : Value} {Q : Unit → Shared → Prop} {E : Value → Shared → Prop} (hk : env.scope.kind = .function) (hy : env.kindOf y = some .local) (l : Loc env [] s.heap μ)
    (h : ∀ h', Loc env [] h' (upd μ y u) → Heap.SameBut env.locals s.heap h' → Q () { s with heap := h', toks := s.toks + 1 }) : wpAny (model prog w) A (storeName env y u) Q E s := by
  obtain ⟨m, n, hm⟩ := l.ns
  refine wpAny_storeName_local hy n (fun h' hn hs => h h' ⟨⟨_, hn, fun z hz => ?_⟩, by simp, .nil, by simp, by simp, by simp⟩ hs) (by rw [hk]; rfl)
  unfold upd
  split
  · rfl
  · exact hm z hz
theorem upd_ne {μ : Str → Option Value} {y z : Str} {u : Value} (h : (z == y) = false) : upd μ y u z = μ z := by
  unfold upd; rw [if_neg]; rintro rfl; simp at h
theorem upd_eq {μ : Str → Option Value} {y : Str} {u : Value} : upd μ y u y = some u := by simp [upd]

/-- `escape = b` -/
theorem esc_stmt {A : Around} {b : Bool} {p1 p2 p3 : Pos} {k : Nat} (G : GEnv env) (v : GV env s.heap x p e c) :
    wpAny (model prog w) A (exec (.Assign [.Name "escape" p1] (.Constant (.bool b) k p2) p3) env) (fun f s' => f = .next ∧ GV env s'.heap x p b c ∧ Mv (fun a => a = env.locals) noG s s') (fun _ _ => False) s := by
  obtain ⟨μ, l, ⟨ta, ea⟩, ⟨tp, ep⟩, ee, ec⟩ := v.ex
  refine wpAny_Assign_Name (wpAny_pure (loc_put G.kind (G.names _ (by simp [gns])) l fun h' l' hs => ⟨rfl, ⟨_, l', ⟨ta, ?_⟩, ⟨tp, ?_⟩, upd_eq, fun d hd => ?_⟩, mv_one hs rfl (Nat.le_succ _)⟩)) (by rfl)
  · rw [upd_ne (by decide +kernel)]; exact ea
  · rw [upd_ne (by decide +kernel)]; exact ep
  · obtain ⟨t, et⟩ := ec d hd
    exact ⟨t, by rw [upd_ne (by decide +kernel)]; exact et⟩
end
end Mine

namespace Mine
local macro_rules | `(tactic| omega) => `(tactic| lia)
open PySem PySem.W PyProof.Rows

noncomputable def gF (L e it : Addr) : Addr → Prop := fun b => b = L ∨ b = e ∨ b = it
noncomputable def genY (us : List Dv) (h₀ : B0) (L e it : Addr) : Protocol := fun m s₀ v s' kap =>
  (∃ d, us[us.length - 1 - m]? = some d ∧ Rep s'.heap ⟨fun b => (s₀.heap.get? b).isSome = true ∨ gF L e it b, 0⟩ v d) ∧ Mv (gF L e it) noG s₀ s' ∧ (∀ b, gF L e it b → (s'.heap.get? b).isSome = true) ∧
  ∀ s'' : Shared, (∀ b, gF L e it b → ∀ o, s'.heap.get? b = some o → s''.heap.get? b = some o) → Bs h₀ s'' → kap (.send .none) s''
noncomputable def genR (L e it : Addr) : GenEnd := fun n s₀ r s₁ => r = .ok (.ret .none) ∧ (n = 0 ∧ Mv (gF L e it) noG s₀ s₁)

noncomputable def yTup2 (q : Nat → Pos) : Expr := .Tuple [.Name "pos" (q 1), .BinOp (.Constant (.str "\\") 0 (q 2)) .Add (.Name "ch" (q 3)) (q 4)] 0 (q 5)
noncomputable def yTup1 (q : Nat → Pos) : Expr := .Tuple [.Name "pos" (q 17), .Name "ch" (q 18)] 0 (q 19)
noncomputable def genIf (q : Nat → Pos) : Stmt :=
  .If (.Name "escape" (q 0)) [.Expr (.Yield (some (yTup2 q)) (q 6)) (q 7), .Assign [.Name "escape" (q 8)] (.Constant (.bool false) 0 (q 9)) (q 10)]
    [.If (.Compare (.Name "ch" (q 11)) [.Eq] [.Constant (.str "\\") 0 (q 12)] (q 13)) [.Assign [.Name "escape" (q 14)] (.Constant (.bool true) 0 (q 15)) (q 16)] [.Expr (.Yield (some (yTup1 q)) (q 20)) (q 21)] (q 22)] (q 23)

section
variable {prog : Program} {w : World} {A : Around} {h₀ : B0} {us : List Dv} {L e it : Addr} {n : Nat} {s₀ : Shared} {c : Code} {fs : List Frame} {s : Shared} {env : Env}
  {K : Flow → Sem Fin} {H : Value → Sem Fin} {gd : Bool → Bool} {lv : List Value → List Value} {x : List Nat} {p : Int} {esc : Bool} {ch : Option Nat}

theorem mvF {a b : Shared} (m : Mv (fun b => b = L) noG a b) : Mv (gF L e it) noG a b := m.mono (fun _ h => .inl h) fun _ h => h

theorem gen_yield {ye : Expr} {me : ME} {d : Dv} {yp pos : Pos} (hL : env.locals = L) (G : GEnv env) (hev : Ev prog w h₀ (fun _ _ => none) gns env 0 ye me) (hB : Rm 0 (A.over c fs)) (v : GV env s.heap x p esc ch) (hd : ev (fun _ _ => none) me (gro x p esc ch) = some d)
    (hu : us[us.length - 1 - n]? = some d) (mv : Mv (gF L e it) noG s₀ s) (hl : ∀ b, gF L e it b → (s.heap.get? b).isSome = true) (hbs : Bs h₀ s) (hfs : splitAtGen fs = none) (hgd : gd false = false) (hfg : fs.any Frame.guarded = false)
    (next : ∀ s'', GV env s''.heap x p esc ch → (∀ b, gF L e it b → ∀ o, s.heap.get? b = some o → s''.heap.get? b = some o) → Bs h₀ s'' → Seg (model prog w) A (genR L e it) (genY us h₀ L e it) n s'' c (K .next) fs s'') :
    Seg (model prog w) A (genR L e it) (genY us h₀ L e it) (n + 1) s₀ c ((exec (.Expr (.Yield (some ye) yp) pos) env).wrap K H gd lv) fs s := by
  have live : ∀ b, (s₀.heap.get? b).isSome = true → (s.heap.get? b).isSome = true := fun b hb => by
    by_cases h : gF L e it b
    · exact hl b h
    · obtain ⟨o, eo⟩ := Option.isSome_iff_exists.mp hb
      rw [mv.heap b o h eo]; rfl
  refine seg_Expr_Yield hfs hgd hfg (wpAny_told (hev.run _ s ⟨fun b => (s₀.heap.get? b).isSome = true ∨ gF L e it b, 0⟩ _ d hB hbs ⟨fun b hb => hb.elim (live b) (hl b), Nat.zero_le _⟩ (v.vars G _) hd) fun u s1 _ ⟨x1, r1⟩ kap hk => ?_) G.co G.inter
  refine ⟨⟨d, hu, r1⟩, mv.trans x1.mv, fun b hb => ?_, fun s'' hs hb => hk .none s'' ?_⟩
  · obtain ⟨o, eo⟩ := Option.isSome_iff_exists.mp (hl b hb)
    rw [x1.heap b o eo]; rfl
  · exact next s'' (v.keep fun o eo => hs _ (.inl hL) o (x1.heap _ o eo)) (fun b hb o eo => hs b hb o (x1.heap b o eo)) hb

theorem tup1_ev {q : Nat → Pos} (G : GEnv env) : Ev prog w h₀ (fun _ _ => none) gns env 0 (yTup1 q) (.op .tup (.cons (.var 1) (.cons (.var 3) .nil))) := by
  have vc : ∀ y ∈ gns, vchk env y = true := fun y hy => by unfold vchk; rw [G.names y hy]
  exact ev_tup' 2 (evs_cons (ev_v 1 (hk := G.kind) (hi := rfl) (hc := vc _ (by simp [gns]))) (evs_cons (ev_v 3 (hk := G.kind) (hi := rfl) (hc := vc _ (by simp [gns]))) evs_nil)) (by rfl) (by decide)
theorem tup2_ev {q : Nat → Pos} (G : GEnv env) : Ev prog w h₀ (fun _ _ => none) gns env 0 (yTup2 q) (.op .tup (.cons (.var 1) (.cons (.op (.bin .add) (.cons (.const (.str [92])) (.cons (.var 3) .nil))) .nil))) := by
  have vc : ∀ y ∈ gns, vchk env y = true := fun y hy => by unfold vchk; rw [G.names y hy]
  exact ev_tup' 2 (evs_cons (ev_v 1 (hk := G.kind) (hi := rfl) (hc := vc _ (by simp [gns]))) (evs_cons (ev_bin (o := .add) (ev_const_str (by decide +kernel)) (ev_v 3 (hk := G.kind) (hi := rfl) (hc := vc _ (by simp [gns])))) evs_nil)) (by rfl) (by decide)
theorem tst_ev {q : Nat → Pos} (G : GEnv env) : Tst prog w h₀ (fun _ _ => none) gns env 0 (.Compare (.Name "ch" (q 11)) [.Eq] [.Constant (.str "\\") 0 (q 12)] (q 13)) (.op (.cmp .eq) (.cons (.var 3) (.cons (.const (.str [92])) .nil))) := by
  have vc : ∀ y ∈ gns, vchk env y = true := fun y hy => by unfold vchk; rw [G.names y hy]
  exact tst_cmp (o := .eq) (ev_v 3 (hk := G.kind) (hi := rfl) (hc := vc _ (by simp [gns]))) (ev_const_str (by decide +kernel))

/-- one turn -/
theorem gen_turn {q : Nat → Pos} {cc : Nat} (hL : env.locals = L) (hLn : h₀.heap.get? L = none) (G : GEnv env) (hB : Rm 0 (A.over c fs)) (i : Nat) (hcc : cc < 1114112) (v : GV env s.heap x i esc (some cc)) (r : List Nat)
    (hu : us.drop (us.length - (units (cc :: r) i esc).length) = units (cc :: r) i esc) (hul : (units (cc :: r) i esc).length ≤ us.length)
    (mv : Mv (gF L e it) noG s₀ s) (hl : ∀ b, gF L e it b → (s.heap.get? b).isSome = true) (hbs : Bs h₀ s) (hfs : splitAtGen fs = none) (hfg : fs.any Frame.guarded = false)
    (next : ∀ s₀' s'' esc', (us.drop (us.length - (units r (i + 1) esc').length) = units r (i + 1) esc') → ((units r (i + 1) esc').length ≤ us.length) → (escEnd (cc :: r) esc = escEnd r esc') → GV env s''.heap x i esc' (some cc) → (∀ b, b ≠ L → gF L e it b → ∀ o, s.heap.get? b = some o → s''.heap.get? b = some o) → Mv (gF L e it) noG s₀' s'' → (∀ b, gF L e it b → (s''.heap.get? b).isSome = true) → Bs h₀ s'' →
      Seg (model prog w) A (genR L e it) (genY us h₀ L e it) (units r (i + 1) esc').length s₀' c (K .next) fs s'') :
    Seg (model prog w) A (genR L e it) (genY us h₀ L e it) (units (cc :: r) i esc).length s₀ c ((execs [genIf q] env).wrap K H id id) fs s := by
  have vc : ∀ y ∈ gns, vchk env y = true := fun y hy => by unfold vchk; rw [G.names y hy]
  have pick : ∀ d m, us.drop (us.length - (m + 1)) = d :: units r (i + 1) false → m + 1 ≤ us.length → us[us.length - 1 - m]? = some d ∧ us.drop (us.length - m) = units r (i + 1) false := fun d m h hm => by
    have h0 : (us.drop (us.length - (m + 1)))[0]? = some d := by rw [h]; rfl
    rw [List.getElem?_drop] at h0
    have h1 : (us.drop (us.length - (m + 1))).drop 1 = units r (i + 1) false := by rw [h]; rfl
    rw [List.drop_drop] at h1
    refine ⟨?_, ?_⟩
    · rw [← h0]; congr 1; omega
    · rw [← h1]; congr 1; omega
  have hnl : ∀ bb o, h₀.heap.get? bb = some o → bb ≠ L := fun bb o e h => by rw [h, hLn] at e; cases e
  have after : ∀ {K1 : Flow → Sem Fin} {b : Bool} {p1 p2 p3 : Pos} {m : Nat} {t0 t : Shared} {ee : Bool}, K1 .next = K .next → GV env t.heap x i ee (some cc) → Mv (gF L e it) noG t0 t → (∀ b, gF L e it b → (t.heap.get? b).isSome = true) → Bs h₀ t → (∀ b, b ≠ L → gF L e it b → ∀ o, s.heap.get? b = some o → t.heap.get? b = some o) →
      (us.drop (us.length - (units r (i + 1) b).length) = units r (i + 1) b) → ((units r (i + 1) b).length ≤ us.length) → m = (units r (i + 1) b).length → escEnd (cc :: r) esc = escEnd r b →
      Seg (model prog w) A (genR L e it) (genY us h₀ L e it) m t0 c ((execs [.Assign [.Name "escape" p1] (.Constant (.bool b) 0 p2) p3] env).wrap K1 H id id) fs t := fun {K1 b p1 p2 p3 m t0 t ee} hK vt mt lt bt kt hd hlen hm he => by
    subst hm
    refine seg_plain (wpAny_mono (esc_stmt G vt) (fun f t1 h1 => ?_) fun _ _ f => f)
    obtain ⟨rfl, v1, m1⟩ := h1
    rw [hL] at m1
    have lt1 : ∀ bb, gF L e it bb → (t1.heap.get? bb).isSome = true := fun bb hb => by
      obtain ⟨o, eo⟩ := Option.isSome_iff_exists.mp (lt bb hb)
      by_cases h : bb = L
      · subst h
        obtain ⟨μ, l, _⟩ := v1.ex
        exact l.live (.inl hL.symm)
      · rw [m1.heap bb o h eo]; rfl
    have nx := next t0 t1 b hd hlen he v1 (fun bb hne hb o eo => m1.heap bb o hne (kt bb hne hb o eo)) (mt.trans (mvF m1)) lt1 ⟨fun bb o eo => m1.heap bb o (hnl bb o eo) (bt.keep bb o eo), Nat.le_trans bt.tok m1.toks⟩
    rw [← hK] at nx
    exact ⟨rfl, seg_execs_nil nx⟩
  refine seg_execs_cons (seg_if (wpAny_isTrue_value (wpAny_told ((ev_v (prog := prog) (w := w) (h₀ := h₀) (Φ := fun _ _ => none) (ns := gns) (k := 0) 2 (hk := G.kind) (hi := rfl) (hc := vc _ (by simp [gns]))).run _ s ⟨fun _ => False, 0⟩ _ (.bool esc) hB hbs ⟨fun _ f => f.elim, Nat.zero_le _⟩ (v.vars G _) rfl) fun u s1 _ ⟨x1, r1⟩ => ?_) (by rfl)))
  cases r1.bool_inv
  have v1 : GV env s1.heap x i esc (some cc) := v.keep fun o eo => x1.heap _ o eo
  have l1 : ∀ b, gF L e it b → (s1.heap.get? b).isSome = true := fun b hb => by
    obtain ⟨o, eo⟩ := Option.isSome_iff_exists.mp (hl b hb)
    rw [x1.heap b o eo]; rfl
  refine wpAny_truthy_bool ?_
  have m1 := mv.trans x1.mv
  cases esc with
  | true =>
    have hu' : units (cc :: r) i true = .tuple [.int i, .str [92, cc]] :: units r (i + 1) false := rfl
    rw [hu'] at hu hul ⊢
    rw [List.length_cons] at hu hul ⊢
    obtain ⟨pk, pd⟩ := pick _ _ hu hul
    show Seg _ A _ _ _ s₀ c ((execs [.Expr (.Yield (some (yTup2 q)) (q 6)) (q 7), .Assign [.Name "escape" (q 8)] (.Constant (.bool false) 0 (q 9)) (q 10)] env).wrap _ H id id) fs s1
    refine seg_execs_cons (gen_yield hL G (tup2_ev G) hB v1 (d := .tuple [.int i, .str [92, cc]]) (by rfl) pk m1 l1 (hbs.ext x1) hfs rfl hfg fun s'' v'' k'' b'' => ?_)
    exact after (K1 := _) rfl v'' (Ext.refl s'').mv (fun b hb => by
      obtain ⟨o, eo⟩ := Option.isSome_iff_exists.mp (l1 b hb)
      rw [k'' b hb o eo]; rfl) b'' (fun b _ hb o eo => k'' b hb o (x1.heap b o eo)) pd (by omega) rfl rfl
  | false =>
    show Seg _ A _ _ _ s₀ c ((execs [.If (.Compare (.Name "ch" (q 11)) [.Eq] [.Constant (.str "\\") 0 (q 12)] (q 13)) [.Assign [.Name "escape" (q 14)] (.Constant (.bool true) 0 (q 15)) (q 16)] [.Expr (.Yield (some (yTup1 q)) (q 20)) (q 21)] (q 22)] env).wrap _ H id id) fs s1
    have hb : ev (fun _ _ => none) (.op (.cmp .eq) (.cons (.var 3) (.cons (.const (.str [92])) .nil))) (gro x i false (some cc)) = some (.bool (cc == 92)) := by
      show (if (([cc].all fun c => decide (c < 1114112)) && ([92].all fun c => decide (c < 1114112))) = true then some (([cc] : List Nat) == [92]) else none).map Dv.bool = _
      simp [hcc]
    refine seg_execs_cons (seg_if (wpAny_told ((tst_ev (q := q) G).run _ s1 ⟨fun _ => False, 0⟩ _ (cc == 92) hB (hbs.ext x1) ⟨fun _ f => f.elim, Nat.zero_le _⟩ (v1.vars G _) hb) fun b s2 _ ⟨eb, x2⟩ => ?_))
    subst eb
    have v2 : GV env s2.heap x i false (some cc) := v1.keep fun o eo => x2.heap _ o eo
    have l2 : ∀ b, gF L e it b → (s2.heap.get? b).isSome = true := fun b hb => by
      obtain ⟨o, eo⟩ := Option.isSome_iff_exists.mp (l1 b hb)
      rw [x2.heap b o eo]; rfl
    have m2 := m1.trans (x2.mv (F := gF L e it) (G := noG))
    by_cases h92 : cc = 92
    · have : (cc == 92) = true := by simpa using h92
      rw [this]
      have hu' : units (cc :: r) i false = units r (i + 1) true := by simp [units, h92]
      rw [hu'] at hu hul ⊢
      show Seg _ A _ _ _ s₀ c ((execs [.Assign [.Name "escape" (q 14)] (.Constant (.bool true) 0 (q 15)) (q 16)] env).wrap _ H id id) fs s2
      exact after (K1 := _) rfl v2 m2 l2 ((hbs.ext x1).ext x2) (fun b _ hb o eo => x2.heap b o (x1.heap b o eo)) hu hul rfl (by rw [escEnd, this])
    · have : (cc == 92) = false := by simpa using h92
      rw [this]
      have hu' : units (cc :: r) i false = .tuple [.int i, .str [cc]] :: units r (i + 1) false := by simp [units, h92]
      rw [hu'] at hu hul ⊢
      rw [List.length_cons] at hu hul ⊢
      obtain ⟨pk, pd⟩ := pick _ _ hu hul
      show Seg _ A _ _ _ s₀ c ((execs [.Expr (.Yield (some (yTup1 q)) (q 20)) (q 21)] env).wrap _ H id id) fs s2
      refine seg_execs_cons (gen_yield hL G (tup1_ev G) hB v2 (d := .tuple [.int i, .str [cc]]) (by rfl) pk m2 l2 ((hbs.ext x1).ext x2) hfs rfl hfg fun s'' v'' k'' b'' => ?_)
      show Seg _ A _ _ _ s'' c (K .next) fs s''
      exact next s'' s'' false pd (by omega) (by rw [escEnd, this]) v'' (fun b _ hb o eo => k'' b hb o (x2.heap b o (x1.heap b o eo))) (Ext.refl s'').mv (fun b hb => by
        obtain ⟨o, eo⟩ := Option.isSome_iff_exists.mp (l2 b hb)
        rw [k'' b hb o eo]; rfl) b''
end
end Mine

namespace Mine
open PySem PySem.W PyProof.Rows

noncomputable def gTgt (q : Nat → Pos) : Expr := .Tuple [.Name "pos" (q 30), .Name "ch" (q 31)] 0 (q 32)

section
variable {prog : Program} {w : World} {A : Around} {h₀ : B0} {us : List Dv} {L e it : Addr} {n : Nat} {s₀ : Shared} {fs : List Frame} {s : Shared} {env : Env} {x : List Nat} {p : Int} {esc : Bool} {ch : Option Nat}

/-- the loop -/
theorem gen_loop {q : Nat → Pos} {St : Nat → Heap → Prop} {Mid : Nat → Addr → Heap → Prop} (hL : env.locals = L) (hLn : h₀.heap.get? L = none) (G : GEnv env) (heL : e ≠ L) (hiL : it ≠ L)
    (he0 : h₀.heap.get? e = none) (hi0 : h₀.heap.get? it = none)
    (hB : Rm 0 (A.over (.forLoop (gTgt q) (.ref e) [genIf q] [] env) fs)) (hx : x.all (fun c => decide (c < 1114112)) = true)
    (W : WalksT prog w (A.over (.forLoop (gTgt q) (.ref e) [genIf q] [] env) fs) e [e, it] [e, it] x.length (fun i vals => ∃ t v, (∃ c u, (mkS x).cps[i]? = some c ∧ v = .str ⟨#[c]⟩ u) ∧ vals = #[.int i t, v]) St Mid)
    (hlive : ∀ i h, St i h → (h.get? e).isSome = true ∧ (h.get? it).isSome = true)
    (hfs : splitAtGen fs = none) (hfg : fs.any Frame.guarded = false)
    (hend : ∀ p' c' s₀' s', GV env s'.heap x p' false c' → Mv (gF L e it) noG s₀' s' → Bs h₀ s' → Seg (model prog w) A (genR L e it) (genY us h₀ L e it) 0 s₀' (.block [] env) (leafOf (.ok .next)) fs s') :
    ∀ (r : List Nat) (i : Nat) (esc : Bool) (p : Int) (c0 : Option Nat) (s₀ s : Shared), x.drop i = r → i + r.length = x.length → St i s.heap → GV env s.heap x p esc c0 → escEnd r esc = false → Mv (gF L e it) noG s₀ s → Bs h₀ s →
      us.drop (us.length - (units r i esc).length) = units r i esc → (units r i esc).length ≤ us.length →
      Seg (model prog w) A (genR L e it) (genY us h₀ L e it) (units r i esc).length s₀ (.forLoop (gTgt q) (.ref e) [genIf q] [] env) ((model prog w).den (.forLoop (gTgt q) (.ref e) [genIf q] [] env)) fs s := by
  have liveF : ∀ {h : Heap} {xx : List Nat} {pp : Int} {ee : Bool} {cc : Option Nat}, GV env h xx pp ee cc → (h.get? e).isSome = true ∧ (h.get? it).isSome = true → ∀ b, gF L e it b → (h.get? b).isSome = true := fun {h xx pp ee cc} v hl b hb => by
    rcases hb with rfl | rfl | rfl
    · obtain ⟨μ, l, _⟩ := v.ex
      exact l.live (.inl hL.symm)
    · exact hl.1
    · exact hl.2
  intro r
  induction r with
  | nil =>
    intro i esc p c0 s₀ s hr hi st v hesc mv hbs hu hul
    have : esc = false := hesc
    subst this
    have hix : i = x.length := by simpa using hi
    subst hix
    refine seg_forLoop (wpAny_with_toks (n := s.toks) (Nat.le_refl _) (W.done s _ _ st fun h' tk hk ht => ?_))
    have m1 : Mv (gF L e it) noG s { s with heap := h', toks := tk } := ⟨fun b o n e => hk b o (fun hm => n (by simp at hm; exact .inr hm)) e, fun _ _ _ e => e, _root_.id, rfl, ht⟩
    refine hend p c0 s₀ _ (v.keep fun o eo => hk _ o (fun hm => by
      simp only [List.mem_cons, List.not_mem_nil, or_false] at hm
      rcases hm with h | h
      · exact heL (h.symm.trans hL)
      · exact hiL (h.symm.trans hL)) eo) (mv.trans m1) ⟨fun b o eo => hk b o (fun hm => by
      simp only [List.mem_cons, List.not_mem_nil, or_false] at hm
      rcases hm with rfl | rfl
      · rw [he0] at eo; cases eo
      · rw [hi0] at eo; cases eo) (hbs.keep b o eo), Nat.le_trans hbs.tok ht⟩
  | cons cc r ih =>
    intro i esc p c0 s₀ s hr hi st v hesc mv hbs hu hul
    have hlt : i < x.length := by simp at hi; omega
    have hxi : x[i]? = some cc := by
      have h0 : (x.drop i)[0]? = some cc := by rw [hr]; rfl
      rw [List.getElem?_drop] at h0; simpa using h0
    have hcc : cc < 1114112 := by
      rw [List.all_eq_true] at hx
      simpa using hx cc (List.mem_of_getElem? hxi)
    have hr' : x.drop (i + 1) = r := by
      have : (x.drop i).drop 1 = r := by rw [hr]; rfl
      rw [List.drop_drop] at this; exact this
    refine seg_forLoop (wpAny_with_toks (n := s.toks) (Nat.le_refl _) (W.item i s _ _ hlt st fun T vals h1 tk1 hP _ hT hm1 hk1 ht1 => ?_))
    obtain ⟨ti, v1, ⟨c1, u1, hc1, rfl⟩, rfl⟩ := hP
    have : c1 = cc := by
      have : (mkS x).cps[i]? = x[i]? := by simp [mkS]
      rw [this, hxi] at hc1; exact (Option.some.inj hc1).symm
    subst this
    have hTw := W.apart i T _ hm1
    refine W.go _ _ _ i T _ _ _ hm1 fun h2 st2 hk2 => ?_
    have hT2 : h2.IsTuple T #[.int i ti, .str ⟨#[c1]⟩ u1] := by
      obtain ⟨o, ho, r1⟩ := hT
      exact ⟨o, hk2 T o hTw ho, r1⟩
    have tl : TgtL [.Name "pos" (q 30), .Name "ch" (q 31)] ["pos", "ch"] := .cons (.cons .nil)
    obtain ⟨tl1, tl2, tl3⟩ := tl.len (env := env)
    refine wpAny_assign_Tuple hB.handled hT2 (by rw [tl2]; rfl) tl3 fun h3 he3 => ?_
    have k3 : ∀ b o, h2.get? b = some o → h3.get? b = some o := fun b o eo => he3 b o (Nat.ne_of_lt (Heap.lt_size eo)) eo
    have k13 : ∀ b o, b ∉ [e, it] → s.heap.get? b = some o → h3.get? b = some o := fun b o hb eo => k3 b o (hk2 b o hb (hk1 b o hb eo))
    have Lw : env.locals ∉ [e, it] := fun hm => by
      simp only [List.mem_cons, List.not_mem_nil, or_false] at hm
      rcases hm with h | h
      · exact heL (h.symm.trans hL)
      · exact hiL (h.symm.trans hL)
    obtain ⟨μ, l, ⟨ta, ea⟩, _, ee, _⟩ := v.ex
    have l3 : Loc env [] h3 μ := l.keep fun b o hb eo => by rw [locs_nil.mp hb] at eo ⊢; exact k13 _ o Lw eo
    refine assign_list (oc := []) tl G.kind (fun y hy => .inl (G.names y (by simp at hy; rcases hy with rfl | rfl <;> simp [gns]))) rfl l3 fun s4 l4 m4 => ?_
    have v4 : GV env s4.heap x i esc (some c1) := by
      refine ⟨_, l4, ⟨ta, ?_⟩, ⟨ti, ?_⟩, ?_, fun d hd => ⟨u1, ?_⟩⟩
      · rw [upds_other _ _ _ _ (by decide +kernel)]; exact ea
      · exact upds_get _ _ _ 0 _ _ (nodupB_ok (by decide +kernel)) rfl rfl
      · rw [upds_other _ _ _ _ (by decide +kernel)]; exact ee
      · cases hd; exact upds_get _ _ _ 1 _ _ (nodupB_ok (by decide +kernel)) rfl rfl
    have m4' : Mv (fun b => b = L) noG ({ s with heap := h3, toks := tk1 } : Shared) s4 := m4.mono (fun b hb => (locs_nil.mp hb).trans hL) fun _ h => h
    have m3 : Mv (gF L e it) noG s { s with heap := h3, toks := tk1 } := ⟨fun b o n eo => k13 b o (fun hm => n (by simp at hm; exact .inr hm)) eo, fun _ _ _ e => e, _root_.id, rfl, ht1⟩
    have st3 : St (i + 1) h3 := W.frame _ _ _ st2 fun b _ o eo => k3 b o eo
    have st4 : St (i + 1) s4.heap := W.frame _ _ _ st3 fun b hb o eo => m4'.heap b o (fun h => by
      simp only [List.mem_cons, List.not_mem_nil, or_false] at hb
      rcases hb with rfl | rfl
      · exact heL h
      · exact hiL h) eo
    have hb4 : Bs h₀ s4 := ⟨fun b o eo => m4'.heap b o (fun h => by rw [h, hLn] at eo; cases eo) (k13 b o (fun hm => by
      simp only [List.mem_cons, List.not_mem_nil, or_false] at hm
      rcases hm with rfl | rfl
      · rw [he0] at eo; cases eo
      · rw [hi0] at eo; cases eo) (hbs.keep b o eo)), Nat.le_trans hbs.tok (Nat.le_trans ht1 m4'.toks)⟩
    refine gen_turn hL hLn G hB i hcc v4 r hu hul ((mv.trans m3).trans (mvF m4')) (liveF v4 (hlive _ _ st4)) hb4 hfs hfg fun s₀' s'' esc' hd hlen he v'' hk'' mv'' hl'' hb'' => ?_
    refine seg_again rfl (ih (i + 1) esc' i (some c1) s₀' s'' hr' (by simp at hi; omega) (W.frame _ _ _ st4 fun b hb o eo => ?_) v'' (by rw [← he]; exact hesc) mv'' hb'' hd hlen)
    simp only [List.mem_cons, List.not_mem_nil, or_false] at hb
    rcases hb with rfl | rfl
    · exact hk'' _ heL (.inr (.inl rfl)) o eo
    · exact hk'' _ hiL (.inr (.inr rfl)) o eo
end
end Mine

namespace Mine
open PySem PySem.W PyProof.Rows

noncomputable def genBody (q : Nat → Pos) (last : List Stmt) : List Stmt :=
  [.Assign [.Name "pos" (q 40)] (.Constant (.int 0) 0 (q 41)) (q 42), .Assign [.Name "escape" (q 43)] (.Constant (.bool false) 0 (q 44)) (q 45),
   .For (gTgt q) (.Call (.Name "enumerate" (q 46)) [.Name "addr" (q 47)] [] (q 48)) [genIf q] [] (q 49), .If (.Name "escape" (q 50)) last [] (q 51)]

section
variable {prog : Program} {w : World} {A : Around} {h₀ : B0} {env : Env}

structure Rs (A : Around) : Prop where
  handled : A.handled = none
  depth : A.depth + 5 ≤ 880
  units : A.units + 50 ≤ 9700
theorem rm_func {body : List Stmt} (r : Rs A) : Rm 0 (A.over (.func body env) []) :=
  ⟨r.handled, by have := r.depth; show A.depth + 0 + 1 + 10 * 0 ≤ 880; omega, by have := r.units; show A.units + 0 + 3 + 100 * 0 ≤ 9700; omega⟩
theorem rm_loop {body bd : List Stmt} {t : Expr} {it : Value} {K : Result → Sem PySem.Fin} {p : Pos} (r : Rs A) : Rm 0 (A.over (.forLoop t it bd [] env) [.ret K none false [] (.func body env) p []]) :=
  ⟨r.handled, by have := r.depth; show A.depth + 1 + 0 + 10 * 0 ≤ 880; omega, by have := r.units; show A.units + 3 + 0 + 100 * 0 ≤ 9700; omega⟩

/-- the first turn and all behind it -/
theorem gen_first {q : Nat → Pos} {last : List Stmt} {s : Shared} {μ : Str → Option Value} {x : List Nat} {t : Tok} {L : Addr} (hL : env.locals = L) (hLn : h₀.heap.get? L = none) (G : GEnv env) (g : Glob prog w h₀ env "enumerate" (.type "enumerate")) (hA : Rs A) (l : Loc env [] s.heap μ) (ha : μ "addr" = some (.str (mkS x) t))
    (hx : genFit x = true) (hbs : Bs h₀ s) :
    Seg (model prog w) A (genR L (s.heap.objs.size + 1) s.heap.objs.size) (genY (units x 0 false) h₀ L (s.heap.objs.size + 1) s.heap.objs.size) (units x 0 false).length s (.func (genBody q last) env) ((model prog w).den (.func (genBody q last) env)) [] s := by
  have hlt : L < s.heap.objs.size := by
    obtain ⟨o, e⟩ := Option.isSome_iff_exists.mp (l.live (b := L) (.inl hL.symm))
    exact Heap.lt_size e
  have fresh : ∀ b, s.heap.objs.size ≤ b → h₀.heap.get? b = none := fun b hb => none_of fun h => by
    obtain ⟨o, e⟩ := Option.isSome_iff_exists.mp h
    exact absurd (Heap.lt_size (hbs.keep b o e)) (Nat.not_lt.mpr hb)
  unfold genFit at hx
  simp only [Bool.and_eq_true, decide_eq_true_eq, Bool.not_eq_true'] at hx
  obtain ⟨⟨hx1, hx2⟩, hx3⟩ := hx
  refine seg_func ?_
  unfold genBody
  refine seg_plain (wpAny_Assign_Name (wpAny_Constant_int (loc_put G.kind (G.names "pos" (by simp [gns])) l fun h1 l1 hs1 => ⟨rfl, ?_⟩)) (by rfl))
  refine seg_plain (wpAny_Assign_Name (wpAny_pure (loc_put G.kind (G.names "escape" (by simp [gns])) l1 fun h2 l2 hs2 => ⟨rfl, ?_⟩)) (by rfl))
  have hz : h2.objs.size = s.heap.objs.size := by rw [hs2.1]; exact hs1.1
  have v2 : GV env h2 x 0 false none := ⟨_, l2, ⟨t, by rw [upd_ne (by decide +kernel), upd_ne (by decide +kernel)]; exact ha⟩, ⟨_, by rw [upd_ne (by decide +kernel)]; exact upd_eq⟩, upd_eq, fun d hd => by cases hd⟩
  have ex2 : ∀ b o, b ≠ L → s.heap.get? b = some o → h2.get? b = some o := fun b o hb e => hs2.extBut b o (fun h => hb (h.trans hL)) (hs1.extBut b o (fun h => hb (h.trans hL)) e)
  generalize hs2' : ({ s with heap := h2, toks := s.toks + 1 + 1 + 1 } : Shared) = s2
  have eh : s2.heap = h2 := by rw [← hs2']
  rw [← eh] at v2 ex2 hz
  have m2 : Mv (gF L (s.heap.objs.size + 1) s.heap.objs.size) noG s s2 := by
    refine ⟨fun b o n e => ex2 b o (fun h => n (.inl h)) e, ?_, ?_, ?_, ?_⟩
    · intro i y _ e; rw [← hs2']; exact e
    · intro b; rw [← hs2']; exact b
    · rw [← hs2']
    · rw [← hs2']; show s.toks ≤ s.toks + 1 + 1 + 1; omega
  have hbs2 : Bs h₀ s2 := ⟨fun b o e => ex2 b o (fun h => by rw [h, hLn] at e; cases e) (hbs.keep b o e), Nat.le_trans hbs.tok m2.toks⟩
  obtain ⟨μ2, l2', ⟨ta, ea⟩, _⟩ := v2.ex
  obtain ⟨mm, nn, hm⟩ := l2'.ns
  have va : VarIs env s2 "addr" (.str (mkS x) ta) := .inl ⟨G.names _ (by simp [gns]), mm, nn, (hm _ (G.names _ (by simp [gns]))).trans ea⟩
  have hR1 : Rm 0 (A.over (.func (genBody q last) env) []) := rm_func hA
  refine seg_execs_cons (seg_for ?_)
  rw [arm_eval_Call_Name']
  refine wpAny_bind (g _ s2 _ _ _ hbs2 ?_)
  refine PySem.callWith_type (by rfl) (Calls.evalArgs_plain (Calls.spliced_cons (name_is G.kind va (Calls.spliced_nil ?_) (by decide +kernel) (by decide +kernel))))
  refine call_enumerate_str fun h3 he hit hsz hk => ?_
  rw [hz] at he hit ⊢
  have hei : s.heap.objs.size + 1 ≠ s.heap.objs.size := Nat.succ_ne_self _
  have W : ∀ B : Around, B.handled = none → ∃ (St : Nat → Heap → Prop) (Mid : Nat → Addr → Heap → Prop), WalksT prog w B (s.heap.objs.size + 1) [s.heap.objs.size + 1, s.heap.objs.size] [s.heap.objs.size + 1, s.heap.objs.size] x.length (fun i vals => ∃ t v, (∃ c u, (mkS x).cps[i]? = some c ∧ v = .str ⟨#[c]⟩ u) ∧ vals = #[.int i t, v]) St Mid ∧ St 0 h3 ∧
      (∀ i h, St i h → (h.get? (s.heap.objs.size + 1)).isSome = true ∧ (h.get? s.heap.objs.size).isSome = true) := fun B hh => by
    have hsz : (mkS x).cps.size = x.length := mkS_len x
    cases ha : (mkS x).cps.all (· < 128) with
    | true =>
      have hit' : h3.IsStrIter s.heap.objs.size "str_ascii_iterator" (mkS x) ta 0 := by simpa [strIterType, ha] using hit
      have D := Draws.strAscii (prog := prog) (w := w) (A := B.in1) hh s.heap.objs.size (mkS x) ta
      rw [hsz] at D
      refine ⟨_, _, WalksT.enumerateD D (s.heap.objs.size + 1) hei (by simp) (by simp), ⟨⟨_, he⟩, hit'⟩, fun i h hst => ?_⟩
      obtain ⟨⟨old, q1⟩, ⟨o, q2, _⟩⟩ := hst
      exact ⟨by rw [show h.get? (s.heap.objs.size + 1) = _ from q1]; rfl, by rw [q2]; rfl⟩
    | false =>
      have hit' : h3.IsStrIter s.heap.objs.size "str_iterator" (mkS x) ta 0 := by simpa [strIterType, ha] using hit
      have D := Draws.strWide (prog := prog) (w := w) (A := B.in1) hh s.heap.objs.size (mkS x) ta
      rw [hsz] at D
      refine ⟨_, _, WalksT.enumerateD D (s.heap.objs.size + 1) hei (by simp) (by simp), ⟨⟨_, he⟩, hit'⟩, fun i h hst => ?_⟩
      obtain ⟨⟨old, q1⟩, ⟨o, q2, _⟩⟩ := hst
      exact ⟨by rw [show h.get? (s.heap.objs.size + 1) = _ from q1]; rfl, by rw [q2]; rfl⟩
  obtain ⟨St1, Mid1, W1, st1, _⟩ := W _ hR1.handled
  refine W1.self 0 _ _ _ st1 fun p => ?_
  have hR2 := fun K => rm_loop (body := genBody q last) (bd := [genIf q]) (t := gTgt q) (it := .ref (s.heap.objs.size + 1)) (K := K) (p := p) (env := env) hA
  obtain ⟨St2, Mid2, W2, st2, hlive⟩ := W _ (hR2 (forBack env _ _ id id)).handled
  have x3 : Ext s2 { s2 with heap := h3 } := .heap' (t := s2.toks) hk (Nat.le_refl _)
  refine gen_loop hL hLn G (Nat.ne_of_gt (Nat.lt_succ_of_lt hlt)) (Nat.ne_of_gt hlt) (fresh _ (Nat.le_succ _)) (fresh _ (Nat.le_refl _)) (hR2 _) hx2 W2 hlive rfl rfl (fun p' c' s₀' s' v' m' b' => ?_) x 0 false 0 none s { s2 with heap := h3 } (by simp) (by simp) st2 (v2.keep fun o eo => hk _ o eo) hx3 (m2.trans x3.mv) (hbs2.ext x3) (by simp) (Nat.le_refl _)
  refine seg_leaf (.ok .next) ?_
  have vc : ∀ y ∈ gns, vchk env y = true := fun y hy => by unfold vchk; rw [G.names y hy]
  show Seg _ A _ _ _ s₀' (.func (genBody q last) env) ((execs [.If (.Name "escape" (q 50)) last [] (q 51)] env).wrap _ _ id id) [] s'
  refine seg_execs_cons (seg_if (wpAny_isTrue_value (wpAny_told ((ev_v (prog := prog) (w := w) (h₀ := h₀) (Φ := fun _ _ => none) (ns := gns) (k := 0) 2 (hk := G.kind) (hi := rfl) (hc := vc _ (by simp [gns]))).run _ s' ⟨fun _ => False, 0⟩ _ (.bool false) hR1 b' ⟨fun _ f => f.elim, Nat.zero_le _⟩ (v'.vars G _) rfl) fun u s1 _ ⟨x1, r1⟩ => ?_) (by rfl)))
  cases r1.bool_inv
  refine wpAny_truthy_bool ?_
  exact seg_end (.ok (.ret .none)) ⟨rfl, rfl, m'.trans x1.mv⟩
end
end Mine

namespace Mine
open PySem PySem.W PyProof.Rows

section
variable {prog : Program} {w : World} {A : Around} {h₀ : B0}

structure GNew (h₀ : B0) (x : List Nat) (a L : Addr) (g : Nat) (env : Env) (body : List Stmt) (f : Addr → Prop) (i : Nat) (s : Shared) : Prop where
  zero : i = 0
  own : f = (fun b => b = a ∨ b = L)
  gen : s.gens[g]? = some (.fresh (.func body env))
  loc : ∃ μ, Loc env [] s.heap μ ∧ ∃ t, μ "addr" = some (.str (mkS x) t)
structure GOn (prog : Program) (w : World) (A : Around) (h₀ : B0) (x : List Nat) (a L : Addr) (g : Nat) (f : Addr → Prop) (i : Nat) (s : Shared) (e it : Addr) (gs : GenState) : Prop where
  own : f = (fun b => b = a ∨ gF L e it b)
  ne : a ≠ e
  ni : a ≠ it
  e0 : h₀.heap.get? e = none
  i0 : h₀.heap.get? it = none
  gen : s.gens[g]? = some gs
  le : i ≤ (units x 0 false).length
  live : ∀ b, gF L e it b → (s.heap.get? b).isSome = true
  goes : ∀ s'', (∀ b, gF L e it b → ∀ o, s.heap.get? b = some o → s''.heap.get? b = some o) → Bs h₀ s'' → gs.Goes (model prog w) A.in1 (genR L e it) (genY (units x 0 false) h₀ L e it) ((units x 0 false).length - i) (.send .none) s''
noncomputable def GSt (prog : Program) (w : World) (A : Around) (h₀ : B0) (x : List Nat) (a L : Addr) (g : Nat) (env : Env) (body : List Stmt) : (Addr → Prop) → Nat → Shared → Prop := fun f i s =>
  s.heap.IsGen a g ∧ Bs h₀ s ∧ (GNew h₀ x a L g env body f i s ∨ ∃ e it gs, GOn prog w A h₀ x a L g f i s e it gs)

theorem gens_set {s s₁ : Shared} {g : Nat} {gs : GenState} {F : Addr → Prop} (hg : s.gens[g]? = some gs) (m : Mv F noG (s.setGen g .running) s₁) (x : GenState) : (s₁.setGen g x).gens[g]? = some x := by
  have h1 := m.gens g .running (fun h => h) (setGen_self hg)
  exact setGen_self h1
theorem bare_set {gens : Array GenState} {g : Nat} {x : GenState} (h : AllBare gens) (hx : x.bare = true) : AllBare (gens.setIfInBounds g x) := fun y hy => by
  rcases Array.mem_or_eq_of_mem_setIfInBounds hy with h1 | rfl
  · exact h y h1
  · exact hx
theorem mv_set {s s₁ : Shared} {g : Nat} {F F' : Addr → Prop} {x : GenState} (m : Mv F noG (s.setGen g .running) s₁) (hb : x.bare = true) (hF : ∀ b, F b → F' b ∨ s.heap.get? b = none) : Mv F' (· = g) s (s₁.setGen g x) := by
  refine ⟨fun b o n e => m.heap b o (fun h => (hF b h).elim n fun q => by rw [q] at e; cases e) e, fun i y n e => ?_, fun hb' => ?_, m.os, m.toks⟩
  · have h1 : (s.setGen g .running).gens[i]? = some y := by
      show (s.gens.setIfInBounds g _)[i]? = _
      rw [Array.getElem?_setIfInBounds_ne (Ne.symm n)]; exact e
    have h2 := m.gens i y (fun h => h) h1
    show (s₁.gens.setIfInBounds g _)[i]? = _
    rw [Array.getElem?_setIfInBounds_ne (Ne.symm n)]; exact h2
  · have h1 : AllBare (s.setGen g .running).gens := bare_set hb' rfl
    exact bare_set (m.bare h1) hb

theorem gen_src {q : Nat → Pos} {last : List Stmt} {env : Env} {x : List Nat} {a L : Addr} {g : Nat} {X : Bd} {H : Heap} (hL : env.locals = L) (hLn : h₀.heap.get? L = none) (han : h₀.heap.get? a = none) (haL : a ≠ L) (G : GEnv env)
    (gl : Glob prog w h₀ env "enumerate" (.type "enumerate")) (hA : Rm 1 A) (lim : h₀.heap.NoLimit) (hx : genFit x = true) :
    Src prog w h₀ A X H a (· = g) (units x 0 false) (GSt prog w A h₀ x a L g env (genBody q last)) := by
  have hA1 : Rs A.in1 := ⟨hA.handled, by have := hA.depth; show A.depth + 5 ≤ 880; omega, by have := hA.units; show A.units + 1 + 50 ≤ 9700; omega⟩
  have new0 : ∀ {s : Shared} {b : Addr}, Bs h₀ s → s.heap.get? b = none → h₀.heap.get? b = none := fun {s b} hb e => none_of fun h => by
    obtain ⟨o, h⟩ := Option.isSome_iff_exists.mp h
    rw [hb.keep b o h] at e; cases e
  refine ⟨?_, ?_, ?_, ?_, ?_, ?_⟩
  · rintro f i s ⟨hg, hbs, ⟨_, rfl, _, μ, l, _⟩ | ⟨e, it, gs, rfl, _, _, _, _, _, _, hl, _⟩⟩ b hb
    · rcases hb with rfl | rfl
      · obtain ⟨o, _, _, e, _⟩ := hg; rw [e]; rfl
      · exact l.live (.inl hL.symm)
    · rcases hb with rfl | hb
      · obtain ⟨o, _, _, e, _⟩ := hg; rw [e]; rfl
      · exact hl b hb
  · rintro f i s s' ⟨hg, hbs, hc⟩ hbs' m
    have kp : ∀ b, f b → ∀ o, s.heap.get? b = some o → s'.heap.get? b = some o := fun b hb o e => m.heap b o (fun h => h.1 hb) e
    have hfa : f a := by rcases hc with ⟨_, rfl, _⟩ | ⟨e, it, gs, rfl, _⟩ <;> exact .inl rfl
    refine ⟨let ⟨o, nm, qn, ho, r⟩ := hg; ⟨o, nm, qn, kp a hfa o ho, r⟩, hbs', ?_⟩
    rcases hc with ⟨rfl, rfl, hgs, μ, l, ha⟩ | ⟨e, it, gs, rfl, h1, h2, h3, h4, hgs, hi, hl, hgo⟩
    · exact .inl ⟨rfl, rfl, m.gens _ _ (fun h => h) hgs, μ, l.keep fun b o hb e => kp b (.inr ((locs_nil.mp hb).trans hL)) o e, ha⟩
    · refine .inr ⟨e, it, gs, rfl, h1, h2, h3, h4, m.gens _ _ (fun h => h) hgs, hi, fun b hb => ?_, fun s'' hk hb => hgo s'' (fun b hb o e => hk b hb o (kp b (.inr hb) o e)) hb⟩
      obtain ⟨o, e⟩ := Option.isSome_iff_exists.mp (hl b hb)
      rw [kp b (.inr hb) o e]; rfl
  · rintro f i d s Q E hd ⟨hg, hbs, hc⟩ hQ
    have hi : i < (units x 0 false).length := by
      rcases Nat.lt_or_ge i (units x 0 false).length with h | h
      · exact h
      · rw [List.getElem?_eq_none h] at hd; cases hd
    have step : ∀ (e it : Addr) (gs : GenState), (∀ b, f b → b = a ∨ gF L e it b) → (∀ b, (b = a ∨ gF L e it b) → f b ∨ s.heap.get? b = none) → a ≠ e → a ≠ it → h₀.heap.get? e = none → h₀.heap.get? it = none → s.gens[g]? = some gs →
        gs.Goes (model prog w) A.in1 (genR L e it) (genY (units x 0 false) h₀ L e it) ((units x 0 false).length - i) (.send .none) (s.setGen g .running) → wpAny (model prog w) A (pyNext (.ref a)) Q E s := fun e it gs hf1 hf2 hae hai he0 hi0 hgs hgo => by
      obtain ⟨m, hm⟩ : ∃ m, (units x 0 false).length - i = m + 1 := ⟨(units x 0 false).length - i - 1, by omega⟩
      rw [hm] at hgo
      refine next_gen (P := fun n s₀ s₁ => n = 0 ∧ Mv (gF L e it) noG s₀ s₁) hA.handled (lim.keeps hbs.keep) hA.room hg hgs hgo (fun v s₁ gs' hb hy => ?_) fun s₁ hp => by cases hp.1
      obtain ⟨⟨d', hd', rd⟩, mv, live, kap⟩ := hy
      have : d' = d := by
        have e1 : (units x 0 false).length - 1 - (m + 1 - 1) = i := by omega
        rw [e1, hd] at hd'; exact (Option.some.inj hd').symm
      subst this
      have na : ¬ gF L e it a := fun h => by
        rcases h with h | h | h
        · exact haL h
        · exact hae h
        · exact hai h
      have la : (s.heap.get? a).isSome = true := by obtain ⟨o, _, _, e, _⟩ := hg; rw [e]; rfl
      have mm := mv_set (F' := f) mv hb fun b h => hf2 b (.inr h)
      have hbs1 : Bs h₀ s₁ := ⟨fun b o eo => mv.heap b o (fun h => by
        rcases h with rfl | rfl | rfl
        · rw [hLn] at eo; cases eo
        · rw [he0] at eo; cases eo
        · rw [hi0] at eo; cases eo) (hbs.keep b o eo), Nat.le_trans hbs.tok mv.toks⟩
      refine hQ v (s₁.setGen g gs') (fun b => b = a ∨ gF L e it b) hf1 hf2 (fun Y hY _ _ => ?_) ⟨?_, ⟨hbs1.keep, hbs1.tok⟩, .inr ⟨e, it, gs', rfl, hae, hai, he0, hi0, gens_set hgs mv gs', by omega, live, fun s'' hk hb' => ?_⟩⟩ mm
      · refine Rep.sub (X := ⟨fun b => ((s.setGen g .running).heap.get? b).isSome = true ∨ gF L e it b, 0⟩) (fun b h => ?_) (Nat.zero_le _) rd
        rcases h with h | rfl | h
        · exact .inl (hY.at_ b h)
        · exact .inl la
        · exact .inr h
      · obtain ⟨o, nm, qn, ho, r⟩ := hg
        exact ⟨o, nm, qn, mv.heap a o na ho, r⟩
      · have := kap s'' hk hb'
        have e2 : (units x 0 false).length - (i + 1) = m := by omega
        rw [e2]; exact this
    rcases hc with ⟨rfl, rfl, hgs, μ, l, t, ha⟩ | ⟨e, it, gs, rfl, h1, h2, h3, h4, hgs, hi, hl, hgo⟩
    · have la : a < s.heap.objs.size := by obtain ⟨o, _, _, e, _⟩ := hg; exact Heap.lt_size e
      have n1 : s.heap.get? (s.heap.objs.size + 1) = none := Heap.get?_none_of_le (Nat.le_succ _)
      have n0 : s.heap.get? s.heap.objs.size = none := new_none _
      refine step (s.heap.objs.size + 1) s.heap.objs.size _ (fun b h => h.elim .inl fun h => .inr (.inl h)) (fun b h => ?_) (Nat.ne_of_lt (Nat.lt_succ_of_lt la)) (Nat.ne_of_lt la) (new0 hbs n1) (new0 hbs n0) hgs ⟨rfl, ?_⟩
      · rcases h with h | h | rfl | rfl
        · exact .inl (.inl h)
        · exact .inl (.inr h)
        · exact .inr n1
        · exact .inr n0
      · exact gen_first (s := s.setGen g .running) hL hLn G gl hA1 l ha hx ⟨hbs.keep, hbs.tok⟩
    · exact step e it gs (fun b h => h) (fun b h => .inl h) h1 h2 h3 h4 hgs (hgo _ (fun b _ o e => e) ⟨hbs.keep, hbs.tok⟩)
  · rintro f s Q E ⟨hg, hbs, hc⟩ hQ
    have step : ∀ (e it : Addr) (gs : GenState), (∀ b, gF L e it b → f b ∨ s.heap.get? b = none) → h₀.heap.get? e = none → h₀.heap.get? it = none → s.gens[g]? = some gs →
        gs.Goes (model prog w) A.in1 (genR L e it) (genY (units x 0 false) h₀ L e it) 0 (.send .none) (s.setGen g .running) → wpAny (model prog w) A (pyNext (.ref a)) Q E s := fun e it gs hf he0 hi0 hgs hgo => by
      refine next_gen (P := fun n s₀ s₁ => n = 0 ∧ Mv (gF L e it) noG s₀ s₁) hA.handled (lim.keeps hbs.keep) hA.room hg hgs hgo (fun v s₁ gs' hb hy => ?_) fun s₁ hp h' hk => ?_
      · obtain ⟨_, mv, live, kap⟩ := hy
        exact (kap s₁ (fun b _ o e => e) ⟨fun b o eo => mv.heap b o (fun h => by
          rcases h with rfl | rfl | rfl
          · rw [hLn] at eo; cases eo
          · rw [he0] at eo; cases eo
          · rw [hi0] at eo; cases eo) (hbs.keep b o eo), Nat.le_trans hbs.tok mv.toks⟩).elim
      · have mm := mv_set (F' := f) (x := .finished) hp.2 rfl hf
        exact hQ _ ⟨fun b o n e => hk b o (mm.heap b o n e), mm.gens, mm.bare, mm.os, mm.toks⟩
    rcases hc with ⟨h0, rfl, hgs, μ, l, t, ha⟩ | ⟨e, it, gs, rfl, h1, h2, h3, h4, hgs, hi, hl, hgo⟩
    · have n1 : s.heap.get? (s.heap.objs.size + 1) = none := Heap.get?_none_of_le (Nat.le_succ _)
      have n0 : s.heap.get? s.heap.objs.size = none := new_none _
      refine step (s.heap.objs.size + 1) s.heap.objs.size _ (fun b h => ?_) (new0 hbs n1) (new0 hbs n0) hgs ⟨rfl, ?_⟩
      · rcases h with h | rfl | rfl
        · exact .inl (.inr h)
        · exact .inr n1
        · exact .inr n0
      · have := gen_first (q := q) (last := last) (s := s.setGen g .running) hL hLn G gl hA1 l ha hx ⟨hbs.keep, hbs.tok⟩
        rw [h0] at this; exact this
    · refine step e it gs (fun b h => .inl (.inr h)) h3 h4 hgs ?_
      have := hgo (s.setGen g .running) (fun b _ o e => e) ⟨hbs.keep, hbs.tok⟩
      rw [Nat.sub_self] at this; exact this
  · rintro f i s Q E ⟨hg, _⟩ hQ
    exact wpAny_pyIter_gen hg hQ
  · rintro f i s target v Q E ⟨hg, _⟩ hQ
    obtain ⟨o, nm, qn, ho, hc, _⟩ := hg
    exact go_plain ho hc (by decide) hQ
end
end Mine

namespace Mine
open PySem PySem.W PyProof.Rows

section
variable {prog : Program} {w : World} {h₀ : B0}

theorem gen_ok {fd : FuncData} {q : Nat → Pos} {last : List Stmt} {a : Addr} (ok : FnOk h₀.heap a fd) (gl : Gl h₀.heap "enumerate" (.type "enumerate"))
    (hbind : ∀ v : Value, bindArgs fd ⟨[v], []⟩ = pure [(("addr" : Str), v)])
    (hbody : fd.body = .stmts (genBody q last) := by rfl) (hclo : fd.closure = [] := by rfl) (hk : fd.scope.kind = .function := by rfl) (hco : fd.scope.isCoroutine = false := by rfl) (hgen : fd.scope.isGenerator = true := by rfl)
    (hc : fnChk gns [] fd.scope.names = true := by rfl) (hl : gns.all (fun x => match fd.scope.names.lookup x with | some .local => true | _ => false) = true := by rfl) (hoc : ∀ n, cellsFrom n fd.scope.names [] = [] := by intro _; rfl)
    (hint : ∀ C, interactive (callEnvC fd C a) = false := by intro _; rfl) (hg : fd.globals = mainGlobals := by rfl) (hb : fd.builtins = builtinsNs := by rfl) (hx : fd.scope.names.lookup ("enumerate" : Str) = some .globalImplicit := by rfl) : GenOk prog w h₀ a := by
  constructor
  intro Φ ns env k e m p pos hk1 hgl he hst
  constructor
  intro A s X ρ d ds hA hB hO V hd hi
  unfold fnChk at hc
  simp only [Bool.and_eq_true, List.all_eq_true, Bool.not_eq_true'] at hc
  obtain ⟨⟨⟨h1, h2⟩, h3⟩, h4⟩ := hc
  have honce : once fd.scope.names := nodupB_ok h1
  simp only [ev] at hd
  split at hd
  · rename_i x hm
    split at hd
    · rename_i hfit
      cases hd
      have hds : ds = units x 0 false ∧ ds.length ≤ 100000 := by
        unfold items at hi
        simp only at hi
        split at hi
        · rename_i hlen; cases hi; exact ⟨rfl, hlen⟩
        · cases hi
      obtain ⟨rfl, hlen⟩ := hds
      obtain ⟨o, ho, hdata⟩ := ok.obj
      rw [arm_eval_Call_Name']
      refine wpAny_bind (hgl A s p _ _ hB ?_)
      refine Calls.callWith_function (o := o) (fd := fd) (args_told (evs_cons he evs_nil (star_cons hst)) hA hB hO V (ds := [.str x]) (by simp only [ev, hm, lst]; rfl) (star_cons hst) fun vs s1 x1 r1 => ⟨⟨x1.heap _ _ (hB.keep _ _ ho), hdata⟩, ?_⟩)
      obtain ⟨v, rfl, rv⟩ : ∃ v, vs = [v] ∧ Rep s1.heap X v (.str x) := by
        cases r1 with | cons r q => cases q; exact ⟨_, rfl, r⟩
      obtain ⟨t, rfl⟩ := rv.str_inv
      have hB1 := hB.ext x1
      have hA1 : Rm 1 A := hA.le hk1
      refine wpAny_call (codeAny_call_generator hA.room (hB1.keep _ _ ho) hdata hco hgen hbody (ok.code.keeps hB1.keep) ?_)
      rw [show bindArgs fd { pos := [] ++ ({ pos := [Value.str (mkS x) t], kw := [] } : Args).pos } = bindArgs fd ⟨[.str (mkS x) t], []⟩ from rfl, hbind, hclo]
      refine wpAny_pure ?_
      refine wpAny_with_toks (n := s1.toks) (Nat.le_refl _) ?_
      simp only [newFunctionEnv, Option.isSome_none, Bool.false_eq_true, if_false]
      refine wpAny_bind (wpAny_alloc ?_)
      refine wpAny_bind (wpAny_layCells _ (fun name kind cells => by cases hkc : kind == NameKind.cell <;> simp [hkc]) _ _ _ _ ?_)
      rw [show ({ s1 with heap := s1.heap.push { cls := .type "frame", data := .dict #[] } } : Shared).heap.objs.size = s1.heap.objs.size + 1 from Heap.size_push ..]
      have hkd : ∀ x kd, (x, kd) ∈ fd.scope.names → (callEnvC fd s1.heap.objs.size a).kindOf x = some kd := fun x kd h => once_lookup honce h
      have hloc : ∀ y ∈ gns, (callEnvC fd s1.heap.objs.size a).kindOf y = some .local := fun y hy => by
        rw [List.all_eq_true] at hl
        have := hl y hy
        split at this
        · assumption
        · cases this
      have l0 := fn_loc (a := a) (h := s1.heap) honce
      rw [hoc] at l0
      refine wpAny_bind (store_all (env := callEnvC fd s1.heap.objs.size a) (oc := []) _ (fun _ _ _ => rfl) hk ["addr"] [.str (mkS x) t] rfl l0 (fun y hy => .inl (hloc y (by simp at hy; subst hy; simp [gns]))) fun s2 l2 m2 _ => wpAny_pure fun ht => ?_)
      have hlocs : ∀ b, locs (callEnvC fd s1.heap.objs.size a) [] b → b = s1.heap.objs.size := fun b hb => locs_nil.mp hb
      have hnewL : s1.heap.get? s1.heap.objs.size = none := new_none _
      have y1 : Ext s1 { s1 with heap := pushCells (s1.heap.push { cls := .type "frame", data := .dict #[] }) fd.scope.names } := .heap' (t := s1.toks) (fun b o e => pushCells_keeps _ _ b o (Heap.get?_push_of_some _ e)) (Nat.le_refl _)
      have y2 : Ext s1 s2 := m2.ext y1 (fun b hb => by rw [hlocs b hb]; exact hnewL) fun _ f => f.elim
      have x2 := x1.trans y2
      refine ⟨(ok.lim.keeps hB.keep).keeps x2.heap, ?_⟩
      show wpAny (model prog w) A (pyIter (.ref s2.heap.objs.size)) _ _ ({ heap := s2.heap.push { cls := .type "generator", data := .fields #[.int s2.gens.size 0, .str fd.name s2.toks, .str fd.qualname (s2.toks + 1)] }, gens := s2.gens.push (.fresh (.func (genBody q last) (callEnvC fd s1.heap.objs.size a))), drawn := s2.drawn, toks := s2.toks + 1 + 1, os := s2.os } : Shared)
      generalize hs3 : ({ heap := s2.heap.push { cls := .type "generator", data := .fields #[.int s2.gens.size 0, .str fd.name s2.toks, .str fd.qualname (s2.toks + 1)] }, gens := s2.gens.push (.fresh (.func (genBody q last) (callEnvC fd s1.heap.objs.size a))), drawn := s2.drawn, toks := s2.toks + 1 + 1, os := s2.os } : Shared) = s3
      have h3 : s3.heap = s2.heap.push { cls := .type "generator", data := .fields #[.int s2.gens.size 0, .str fd.name s2.toks, .str fd.qualname (s2.toks + 1)] } := by rw [← hs3]
      have g3 : s3.gens = s2.gens.push (.fresh (.func (genBody q last) (callEnvC fd s1.heap.objs.size a))) := by rw [← hs3]
      have t3 : s3.toks = s2.toks + 1 + 1 := by rw [← hs3]
      have o3 : s3.os = s2.os := by rw [← hs3]
      have y3 : Ext s2 s3 := by
        refine ⟨fun b o e => by rw [h3]; exact Heap.get?_push_of_some _ e, fun i z e => ?_, fun hb => by rw [g3]; exact hb.push rfl, o3, by rw [t3]; omega⟩
        rw [g3, Array.getElem?_push_lt (Array.getElem?_eq_some_iff.mp e).1]
        obtain ⟨_, e⟩ := Array.getElem?_eq_some_iff.mp e
        rw [e]
      have x3 := x2.trans y3
      have hgen3 : s3.heap.IsGen s2.heap.objs.size s2.gens.size := ⟨_, _, _, by rw [h3]; exact Heap.get?_push_size _ rfl, rfl, rfl, rfl⟩
      refine wpAny_pyIter_gen hgen3 fun _ => ⟨x3, ?_⟩
      have oldn : ∀ b, s1.heap.get? b = none → s.heap.get? b = none := fun b e => none_of fun h => by
        obtain ⟨o, h⟩ := Option.isSome_iff_exists.mp h
        rw [x1.heap b o h] at e; cases e
      have oldn2 : ∀ b, s2.heap.get? b = none → s.heap.get? b = none := fun b e => none_of fun h => by
        obtain ⟨o, h⟩ := Option.isSome_iff_exists.mp h
        rw [x2.heap b o h] at e; cases e
      have old0 : ∀ b, s.heap.get? b = none → h₀.heap.get? b = none := fun b e => none_of fun h => by
        obtain ⟨o, h⟩ := Option.isSome_iff_exists.mp h
        rw [hB.keep b o h] at e; cases e
      have nL := oldn _ hnewL
      have na := oldn2 _ (new_none s2.heap)
      have G : GEnv (callEnvC fd s1.heap.objs.size a) := ⟨hk, hco, hint _, hloc⟩
      have glob : Glob prog w h₀ (callEnvC fd s1.heap.objs.size a) "enumerate" (.type "enumerate") := glob_of gl hk hg hb hx
      have liveL : (s2.heap.get? s1.heap.objs.size).isSome = true := l2.live (.inl rfl)
      have haL : s2.heap.objs.size ≠ s1.heap.objs.size := fun e => by
        have := new_none s2.heap
        rw [e] at this; rw [this] at liveL; cases liveL
      have S := gen_src (prog := prog) (w := w) (A := A) (h₀ := h₀) (q := q) (last := last) (x := x) (a := s2.heap.objs.size) (L := s1.heap.objs.size) (g := s2.gens.size) (X := X) (H := s3.heap) (env := callEnvC fd s1.heap.objs.size a) rfl (old0 _ nL) (old0 _ na) haL G glob hA1 ok.lim hfit
      refine ⟨_, fun b => b = s2.heap.objs.size ∨ b = s1.heap.objs.size, (· = s2.gens.size), _, rfl, S, ⟨hgen3, hB.ext x3, .inl ⟨rfl, rfl, by rw [g3]; exact Array.getElem?_push_size .., _, l2.keep (fun b o _ e => y3.heap b o e), t, ?_⟩⟩, ?_, ?_, hlen⟩
      · exact upds_get _ _ _ 0 _ _ (nodupB_ok (by decide +kernel)) rfl rfl
      · rintro b (rfl | rfl)
        · exact na
        · exact nL
      · rintro i rfl
        cases e : s.gens[s2.gens.size]? with
        | none => rfl
        | some z =>
          have := x2.gens _ z e
          rw [Array.getElem?_eq_none (Nat.le_refl _)] at this; cases this
    · cases hd
  · cases hd
end
end Mine

namespace Mine
local macro_rules | `(tactic| omega) => `(tactic| lia)
open PySem PySem.Sre

noncomputable def C2 : Array Nat := #[14, 9, 4, 1, 2, 16, 10, 16, 13, 0, 7, 7, 16, 13, 16, 10, 15, 18, 5, 16, 10, 15, 13, 11, 16, 13, 5, 5, 0, 16, 10, 1, 15, 2, 0, 1]
noncomputable def C1 : Array Nat := #[14, 4, 0, 1, 1, 6, 1, 16, 46, 1]

/-- a state of the machine, no groups -/
noncomputable def mst (code text : Array Nat) (lim start ls pc pos handed : Nat) (om : Bool) (frames : List Sre.Frame) (wt : Nat) (ans : Option Bool) (seen : Seen) : M :=
  { code, text, lim, start, lastStart := ls, pc, pos, handed, outermost := om, marks := #[], frames, weight := wt, answer := ans, seen }
noncomputable def F0 (pc s : Nat) (om : Bool) : Sre.Frame := { wait := .nextStart, pc, pos := s, outermost := om }
noncomputable def F1 (pc s : Nat) : Sre.Frame := { wait := .nextBranch, pc, pos := s, outermost := true, kept := { lastmark := -1, lastindex := -1, whole := false, marks := #[] } }
noncomputable def FN (pc s : Nat) : Sre.Frame := { wait := .lookNot, pc, pos := s, outermost := true, kept := { lastmark := -1, lastindex := -1, whole := false, marks := #[] } }

/-- the machine ends with a match -/
noncomputable def Fin (m : M) (i e B : Nat) : Prop := ∃ N, N ≤ B ∧ (m.runFor N).outcome = some .matched ∧ (m.runFor N).start = i ∧ (m.runFor N).handed = e
noncomputable def Fail (m : M) (B : Nat) : Prop := ∃ N, N ≤ B ∧ (m.runFor N).outcome = some .failed
theorem runFor_mst (n : Nat) (m : M) (h : m.outcome = none) : m.runFor (n + 1) = (m.step).runFor n := by
  show (if m.outcome.isSome then m else M.runFor n m.step) = _
  rw [h]; rfl
theorem Fin.step {m m' : M} {i e B : Nat} (h : m.outcome = none) (hs : m.step = m') (f : Fin m' i e B) : Fin m i e (B + 1) := by
  obtain ⟨N, hN, h1, h2, h3⟩ := f
  refine ⟨N + 1, by omega, ?_⟩
  rw [runFor_mst N m h, hs]; exact ⟨h1, h2, h3⟩
theorem Fail.step {m m' : M} {B : Nat} (h : m.outcome = none) (hs : m.step = m') (f : Fail m' B) : Fail m (B + 1) := by
  obtain ⟨N, hN, h1⟩ := f
  refine ⟨N + 1, by omega, ?_⟩
  rw [runFor_mst N m h, hs]; exact h1

section
variable {code text : Array Nat} {lim start ls pos handed : Nat} {om : Bool} {frames : List Sre.Frame} {wt : Nat} {seen : Seen}

theorem lit_yes {pc c : Nat} (h : pos < lim) (h2 : text.getD pos 0 = c) (e : M.step (mst code text lim start ls pc pos handed om frames wt none seen) = (if pos ≥ lim then (mst code text lim start ls pc pos handed om frames wt (some false) (seen.add 16)) else
    match (Except.ok (text.getD pos 0 == c, seen.add 16) : Except String (Bool × Seen)) with
    | .error why => (mst code text lim start ls pc pos handed om frames wt none (seen.add 16)).stick why
    | .ok (false, s) => mst code text lim start ls pc pos handed om frames wt (some false) s
    | .ok (true, s) => mst code text lim start ls (pc + 2) (pos + 1) handed om frames wt none s)) :
    M.step (mst code text lim start ls pc pos handed om frames wt none seen) = mst code text lim start ls (pc + 2) (pos + 1) handed om frames wt none (seen.add 16) := by
  rw [e, if_neg (by omega), h2]
  simp
theorem lit_no {pc c : Nat} (h : pos < lim → ¬ text.getD pos 0 = c) (e : M.step (mst code text lim start ls pc pos handed om frames wt none seen) = (if pos ≥ lim then (mst code text lim start ls pc pos handed om frames wt (some false) (seen.add 16)) else
    match (Except.ok (text.getD pos 0 == c, seen.add 16) : Except String (Bool × Seen)) with
    | .error why => (mst code text lim start ls pc pos handed om frames wt none (seen.add 16)).stick why
    | .ok (false, s) => mst code text lim start ls pc pos handed om frames wt (some false) s
    | .ok (true, s) => mst code text lim start ls (pc + 2) (pos + 1) handed om frames wt none s)) :
    M.step (mst code text lim start ls pc pos handed om frames wt none seen) = mst code text lim start ls pc pos handed om frames wt (some false) (seen.add 16) := by
  rw [e]
  by_cases hp : pos < lim
  · rw [if_neg (by omega)]
    have : (text.getD pos 0 == c) = false := by simpa using h hp
    rw [this]
  · rw [if_pos (by omega)]

/-- a match from the alternative's end on -/
theorem m2_end {pc s e k hd : Nat} (hpc : M.step (mst C2 text lim s ls pc e hd true [F1 k s, F0 10 s true] 2 none seen) = mst C2 text lim s ls 35 e hd true [F1 k s, F0 10 s true] 2 none (seen.add 15)) :
    Fin (mst C2 text lim s ls pc e hd true [F1 k s, F0 10 s true] 2 none seen) s e 5 :=
  .step rfl hpc (.step rfl (m' := mst C2 text lim s ls 35 e e true [F1 k s, F0 10 s true] 2 (some true) ((seen.add 15).add 1)) rfl
    (.step rfl (m' := mst C2 text lim s ls k s e true [F0 10 s true] 1 (some true) ((seen.add 15).add 1)) rfl
      (.step rfl (m' := mst C2 text lim s ls 10 s e true [] 0 (some true) ((seen.add 15).add 1)) rfl ⟨1, Nat.le_refl _, rfl, rfl, rfl⟩)))

theorem m2_run (s : Nat) (hs : s < lim) (hc : text.getD s 0 = 10 ∨ text.getD s 0 = 13) :
    Fin (mst C2 text lim s ls 10 s s true [F0 10 s true] 1 none seen) s (if text.getD s 0 = 13 ∧ s + 1 < lim ∧ text.getD (s + 1) 0 = 10 then s + 2 else s + 1) 20 := by
  have weak : ∀ {m : M} {i e B B' : Nat}, Fin m i e B → B ≤ B' → Fin m i e B' := fun ⟨N, h, r⟩ hB => ⟨N, by omega, r⟩
  refine weak (B := 19) (.step rfl (m' := mst C2 text lim s ls 12 s s true [F1 11 s, F0 10 s true] 2 none (seen.add 7)) rfl (B := 18) ?_) (by omega)
  rcases hc with hc | hc
  · have h13 : ¬ text.getD s 0 = 13 := by omega
    rw [if_neg (fun h => h13 h.1)]
    refine .step rfl (lit_no (c := 13) (fun _ => h13) rfl) (B := 17) ?_
    refine .step rfl (m' := mst C2 text lim s ls 19 s s true [F1 18 s, F0 10 s true] 2 none _) rfl (B := 16) ?_
    refine .step rfl (lit_yes (c := 10) hs hc rfl) (B := 15) ?_
    exact weak (m2_end rfl) (by omega)
  · by_cases hn : s + 1 < lim ∧ text.getD (s + 1) 0 = 10
    · rw [if_pos ⟨hc, hn⟩]
      refine .step rfl (lit_yes (c := 13) hs hc rfl) (B := 17) ?_
      refine .step rfl (lit_yes (c := 10) hn.1 hn.2 rfl) (B := 16) ?_
      exact weak (m2_end rfl) (by omega)
    · rw [if_neg (fun h => hn h.2)]
      have hn' : s + 1 < lim → ¬ text.getD (s + 1) 0 = 10 := fun h1 h2 => hn ⟨h1, h2⟩
      refine .step rfl (lit_yes (c := 13) hs hc rfl) (B := 17) ?_
      refine .step rfl (lit_no (c := 10) hn' rfl) (B := 16) ?_
      refine .step rfl (m' := mst C2 text lim s ls 19 s s true [F1 18 s, F0 10 s true] 2 none _) rfl (B := 15) ?_
      refine .step rfl (lit_no (c := 10) (fun _ => by omega) rfl) (B := 14) ?_
      refine .step rfl (m' := mst C2 text lim s ls 24 s s true [F1 23 s, F0 10 s true] 2 none _) rfl (B := 13) ?_
      refine .step rfl (lit_yes (c := 13) hs hc rfl) (B := 12) ?_
      refine .step rfl (m' := mst C2 text lim s ls 29 (s + 1) (s + 1) false [FN 26 (s + 1), F1 23 s, F0 10 s true] 3 none _) rfl (B := 11) ?_
      refine .step rfl (lit_no (c := 10) hn' rfl) (B := 10) ?_
      refine .step rfl (m' := mst C2 text lim s ls 32 (s + 1) (s + 1) true [F1 23 s, F0 10 s true] 2 none _) rfl (B := 9) ?_
      exact weak (m2_end rfl) (by omega)

/-! the search -/
noncomputable def isEol (c : Nat) : Bool := c == 10 || c == 13
/-- the first place from s on where the test holds -/
noncomputable def firstAt (f : Nat → Bool) (lim : Nat) : Nat → Nat → Option Nat
  | 0, _ => none
  | n + 1, s => if s ≥ lim then none else if f s then some s else firstAt f lim n (s + 1)
theorem set_is (c : Nat) (seen : Seen) : ∃ seen', Sre.inSet C2 c C2.size 5 true seen = .ok (isEol c, seen') := by
  have e : Sre.inSet C2 c C2.size 5 true seen = (if (c == 10) = true then .ok (true, seen.add 16) else if (c == 13) = true then .ok (true, (seen.add 16).add 16) else .ok (false, ((seen.add 16).add 16).add 0)) := rfl
  rw [e]
  unfold isEol
  by_cases h1 : (c == 10) = true
  · rw [if_pos h1, h1]; exact ⟨_, rfl⟩
  · rw [if_neg h1]
    by_cases h2 : (c == 13) = true
    · rw [if_pos h2, h2, Bool.or_true]; exact ⟨_, rfl⟩
    · rw [if_neg h2, Bool.eq_false_iff.mpr h1, Bool.eq_false_iff.mpr h2]; exact ⟨_, rfl⟩
theorem admitted_is {m : M} (hc : m.code = C2) : ∀ (n s : Nat) (seen : Seen), ∃ seen', M.admitted m n s seen = .ok (firstAt (fun i => isEol (m.text.getD i 0)) m.lim n s, seen')
  | 0, s, seen => ⟨_, rfl⟩
  | n + 1, s, seen => by
    obtain ⟨seen1, e1⟩ := set_is (m.text.getD s 0) seen
    unfold M.admitted firstAt
    rw [hc, e1]
    by_cases h : s ≥ m.lim
    · rw [if_pos h, if_pos h]; exact ⟨_, rfl⟩
    · rw [if_neg h, if_neg h]
      cases hb : isEol (m.text.getD s 0)
      · simp only [Bool.false_eq_true, if_false]; exact admitted_is hc n (s + 1) seen1
      · simp only [if_true]; exact ⟨_, rfl⟩
theorem firstAt_some {f : Nat → Bool} {lim : Nat} : ∀ {n s i : Nat}, firstAt f lim n s = some i → s ≤ i ∧ i < lim ∧ f i = true ∧ ∀ j, s ≤ j → j < i → f j = false
  | 0, _, _, h => by cases h
  | n + 1, s, i, h => by
    unfold firstAt at h
    split at h
    · cases h
    · rename_i hs
      split at h
      · rename_i hf; cases h; exact ⟨Nat.le_refl _, by omega, hf, fun j h1 h2 => by omega⟩
      · rename_i hf
        obtain ⟨a, b, c, d⟩ := firstAt_some h
        refine ⟨by omega, b, c, fun j h1 h2 => ?_⟩
        by_cases hj : j = s
        · subst hj; simpa using hf
        · exact d j (by omega) h2
theorem firstAt_none {f : Nat → Bool} {lim : Nat} : ∀ {n s : Nat}, firstAt f lim n s = none → lim ≤ s + n → ∀ j, s ≤ j → j < lim → f j = false
  | 0, s, _, hn, j, h1, h2 => by omega
  | n + 1, s, h, hn, j, h1, h2 => by
    unfold firstAt at h
    split at h
    · omega
    · split at h
      · cases h
      · rename_i hf
        by_cases hj : j = s
        · subst hj; simpa using hf
        · exact firstAt_none h (by omega) j (by omega) h2
end
noncomputable def find2 (text : Array Nat) (lim s : Nat) : Option (Nat × Nat) :=
  (firstAt (fun i => isEol (text.getD i 0)) lim (lim + 1 - s) s).map fun i => (i, if text.getD i 0 = 13 ∧ i + 1 < lim ∧ text.getD (i + 1) 0 = 10 then i + 2 else i + 1)
theorem search2 (text : Array Nat) (lim s : Nat) : match find2 text lim s with
    | some (i, e) => Fin (Sre.forSearch C2 text 0 s lim false) i e 100
    | none => Fail (Sre.forSearch C2 text 0 s lim false) 100 := by
  have e0 : Sre.forSearch C2 text 0 s lim false = (if (decide (s > lim) || decide (lim - s < 1)) = true then mst C2 text lim s 0 10 s s true [] 0 (some false) (({} : Seen).add 14) else
      (mst C2 text lim s lim 10 s s true [] 0 none (({} : Seen).add 14)).attemptFrom s true) := rfl
  rw [e0]
  by_cases h : s < lim
  · rw [if_neg (by simp; omega)]
    obtain ⟨seen', e1⟩ := admitted_is (m := mst C2 text lim s lim 10 s s true [] 0 none (({} : Seen).add 14)) rfl (lim + 1 - s) s (({} : Seen).add 14)
    have e2 : (mst C2 text lim s lim 10 s s true [] 0 none (({} : Seen).add 14)).attemptFrom s true = (match M.admitted (mst C2 text lim s lim 10 s s true [] 0 none (({} : Seen).add 14)) (lim + 1 - s) s (({} : Seen).add 14) with
      | .ok (some i, seen) => mst C2 text lim i lim 10 i i true [F0 10 i true] 1 none seen
      | .ok (none, seen) => mst C2 text lim s lim 10 s s true [] 0 (some false) seen
      | .error why => (mst C2 text lim s lim 10 s s true [] 0 none (({} : Seen).add 14)).stick why) := rfl
    rw [e2, e1]
    unfold find2
    cases hf : firstAt (fun i => isEol (text.getD i 0)) lim (lim + 1 - s) s with
    | none => 
      have hf' : firstAt (fun i => isEol ((mst C2 text lim s lim 10 s s true [] 0 none (({} : Seen).add 14)).text.getD i 0)) (mst C2 text lim s lim 10 s s true [] 0 none (({} : Seen).add 14)).lim (lim + 1 - s) s = none := hf
      rw [hf']
      exact ⟨1, by omega, rfl⟩
    | some i =>
      have hf' : firstAt (fun i => isEol ((mst C2 text lim s lim 10 s s true [] 0 none (({} : Seen).add 14)).text.getD i 0)) (mst C2 text lim s lim 10 s s true [] 0 none (({} : Seen).add 14)).lim (lim + 1 - s) s = some i := hf
      rw [hf']
      obtain ⟨a, b, c, d⟩ := firstAt_some hf
      have hc : text.getD i 0 = 10 ∨ text.getD i 0 = 13 := by
        unfold isEol at c
        simpa using c
      obtain ⟨N, hN, r⟩ := m2_run (ls := lim) (seen := seen') i b hc
      exact ⟨N, by omega, r⟩
  · rw [if_pos (by simp; omega)]
    have hn : firstAt (fun i => isEol (text.getD i 0)) lim (lim + 1 - s) s = none := by
      cases hk : lim + 1 - s with
      | zero => rfl
      | succ n => unfold firstAt; rw [if_pos (by omega)]
    unfold find2
    rw [hn]
    exact ⟨1, by omega, rfl⟩

noncomputable def isDot (text : Array Nat) (i : Nat) : Bool := text.getD i 0 == 46 && (i == 0 || text.getD (i - 1) 0 == 10)
noncomputable def find1 (text : Array Nat) (lim s : Nat) : Option (Nat × Nat) := (firstAt (isDot text) lim (lim + 1 - s) s).map fun i => (i, i + 1)
theorem run1 (text : Array Nat) (lim : Nat) : ∀ (n s : Nat) (om : Bool) (seen : Seen), lim = s + n → match firstAt (isDot text) lim (n + 1) s with
    | some i => Fin (mst C1 text lim s lim 5 s s om [F0 5 s om] 1 none seen) i (i + 1) (4 * n + 10)
    | none => Fail (mst C1 text lim s lim 5 s s om [F0 5 s om] 1 none seen) (4 * n + 10) := by
  intro n
  induction n with
  | zero =>
    intro s om seen hn
    have : lim = s := by omega
    subst this
    have hf : firstAt (isDot text) lim (0 + 1) lim = none := by unfold firstAt; rw [if_pos (Nat.le_refl _)]
    rw [hf]
    have back : ∀ {pc hd sn}, Fail (mst C1 text lim lim lim pc lim hd om [F0 5 lim om] 1 (some false) sn) 3 := fun {pc hd sn} =>
      .step rfl (m' := mst C1 text lim lim lim 5 lim hd om [] 0 (some false) sn) (by
        have e : M.step (mst C1 text lim lim lim pc lim hd om [F0 5 lim om] 1 (some false) sn) = (if lim < lim then mst C1 text lim (lim + 1) lim 5 (lim + 1) (lim + 1) false [F0 5 (lim + 1) false] 1 none sn else mst C1 text lim lim lim 5 lim hd om [] 0 (some false) sn) := rfl
        rw [e, if_neg (Nat.lt_irrefl _)]) (B := 2) ⟨1, by omega, rfl⟩
    have e1 : M.step (mst C1 text lim lim lim 5 lim lim om [F0 5 lim om] 1 none seen) = (if (lim == 0 || text.getD (lim - 1) 0 == 10) = true then mst C1 text lim lim lim 7 lim lim om [F0 5 lim om] 1 none ((seen.add 6).add 44) else mst C1 text lim lim lim 5 lim lim om [F0 5 lim om] 1 (some false) ((seen.add 6).add 44)) := rfl
    have weak : ∀ {m : M} {B B' : Nat}, Fail m B → B ≤ B' → Fail m B' := fun ⟨N, h, r⟩ hB => ⟨N, by omega, r⟩
    cases hb : (lim == 0 || text.getD (lim - 1) 0 == 10)
    · refine .step rfl (e1.trans (if_neg (by rw [hb]; decide))) (B := 9) ?_
      exact weak back (by omega)
    · refine .step rfl (e1.trans (if_pos hb)) (B := 9) ?_
      refine .step rfl (lit_no (c := 46) (fun h => absurd h (Nat.lt_irrefl _)) rfl) (B := 8) ?_
      exact weak back (by omega)
  | succ n ih =>
    intro s om seen hn
    have hlt : s < lim := by omega
    have next : firstAt (isDot text) lim (n + 1 + 1) s = if isDot text s then some s else firstAt (isDot text) lim (n + 1) (s + 1) := by
      rw [firstAt, if_neg (by omega)]
    have e1 : M.step (mst C1 text lim s lim 5 s s om [F0 5 s om] 1 none seen) = (if (s == 0 || text.getD (s - 1) 0 == 10) = true then mst C1 text lim s lim 7 s s om [F0 5 s om] 1 none ((seen.add 6).add 44) else mst C1 text lim s lim 5 s s om [F0 5 s om] 1 (some false) ((seen.add 6).add 44)) := rfl
    have e2 : ∀ pc sn, M.step (mst C1 text lim s lim pc s s om [F0 5 s om] 1 (some false) sn) = (if s < lim then mst C1 text lim (s + 1) lim 5 (s + 1) (s + 1) false [F0 5 (s + 1) false] 1 none sn else mst C1 text lim s lim 5 s s om [] 0 (some false) sn) := fun pc sn => rfl
    rw [next]
    by_cases hd : isDot text s = true
    · rw [if_pos hd]
      unfold isDot at hd
      simp only [Bool.and_eq_true] at hd
      refine .step rfl (e1.trans (if_pos hd.2)) (B := 4 * n + 13) ?_
      refine .step rfl (lit_yes (c := 46) hlt (by simpa using hd.1) rfl) (B := 4 * n + 12) ?_
      cases om
      · refine .step rfl (m' := mst C1 text lim s lim 9 (s + 1) (s + 1) false [F0 5 s false] 1 (some true) _) rfl (B := 4 * n + 11) ?_
        refine .step rfl (m' := mst C1 text lim s lim 5 s (s + 1) false [] 0 (some true) _) rfl (B := 4 * n + 10) ?_
        exact ⟨1, by omega, rfl, rfl, rfl⟩
      · refine .step rfl (m' := mst C1 text lim s lim 9 (s + 1) (s + 1) true [F0 5 s true] 1 (some true) _) rfl (B := 4 * n + 11) ?_
        refine .step rfl (m' := mst C1 text lim s lim 5 s (s + 1) true [] 0 (some true) _) rfl (B := 4 * n + 10) ?_
        exact ⟨1, by omega, rfl, rfl, rfl⟩
    · rw [if_neg hd]
      have rest : ∀ pc sn (B : Nat), 4 * n + 11 ≤ B → match firstAt (isDot text) lim (n + 1) (s + 1) with
          | some i => Fin (mst C1 text lim s lim pc s s om [F0 5 s om] 1 (some false) sn) i (i + 1) B
          | none => Fail (mst C1 text lim s lim pc s s om [F0 5 s om] 1 (some false) sn) B := fun pc sn B hB => by
        have h1 := ih (s + 1) false sn (by omega)
        have hst : M.step (mst C1 text lim s lim pc s s om [F0 5 s om] 1 (some false) sn) = mst C1 text lim (s + 1) lim 5 (s + 1) (s + 1) false [F0 5 (s + 1) false] 1 none sn := (e2 pc sn).trans (if_pos hlt)
        cases hf : firstAt (isDot text) lim (n + 1) (s + 1) with
        | none =>
          rw [hf] at h1
          obtain ⟨N, hN, r⟩ := Fail.step (m := mst C1 text lim s lim pc s s om [F0 5 s om] 1 (some false) sn) rfl hst h1
          exact ⟨N, by omega, r⟩
        | some i =>
          rw [hf] at h1
          obtain ⟨N, hN, r⟩ := Fin.step (m := mst C1 text lim s lim pc s s om [F0 5 s om] 1 (some false) sn) rfl hst h1
          exact ⟨N, by omega, r⟩
      cases hb : (s == 0 || text.getD (s - 1) 0 == 10)
      · have h1 := rest 5 ((seen.add 6).add 44) (4 * n + 13) (by omega)
        cases hf : firstAt (isDot text) lim (n + 1) (s + 1) with
        | none => rw [hf] at h1; exact .step rfl (e1.trans (if_neg (by rw [hb]; decide))) h1
        | some i => rw [hf] at h1; exact .step rfl (e1.trans (if_neg (by rw [hb]; decide))) h1
      · have h46 : ¬ text.getD s 0 = 46 := fun h => hd (by unfold isDot; rw [hb, h]; rfl)
        have h1 := rest 7 (((seen.add 6).add 44).add 16) (4 * n + 12) (by omega)
        cases hf : firstAt (isDot text) lim (n + 1) (s + 1) with
        | none => rw [hf] at h1; exact .step rfl (e1.trans (if_pos hb)) (.step rfl (lit_no (c := 46) (fun _ => h46) rfl) h1)
        | some i => rw [hf] at h1; exact .step rfl (e1.trans (if_pos hb)) (.step rfl (lit_no (c := 46) (fun _ => h46) rfl) h1)
theorem search1 (text : Array Nat) (lim s : Nat) (hl : lim ≤ 1000000) : match find1 text lim s with
    | some (i, e) => Fin (Sre.forSearch C1 text 0 s lim false) i e 5000000
    | none => Fail (Sre.forSearch C1 text 0 s lim false) 5000000 := by
  have e0 : Sre.forSearch C1 text 0 s lim false = (if (decide (s > lim) || decide (lim - s < 1)) = true then mst C1 text lim s 0 5 s s true [] 0 (some false) (({} : Seen).add 14) else
      mst C1 text lim s lim 5 s s true [F0 5 s true] 1 none (({} : Seen).add 14)) := rfl
  rw [e0]
  unfold find1
  by_cases h : s < lim
  · rw [if_neg (by simp; omega)]
    have := run1 text lim (lim - s) s true (({} : Seen).add 14) (by omega)
    have e1 : lim + 1 - s = lim - s + 1 := by omega
    rw [e1]
    cases hf : firstAt (isDot text) lim (lim - s + 1) s with
    | none =>
      rw [hf] at this
      obtain ⟨N, hN, r⟩ := this
      exact ⟨N, by omega, r⟩
    | some i =>
      rw [hf] at this
      obtain ⟨N, hN, r⟩ := this
      exact ⟨N, by omega, r⟩
  · rw [if_pos (by simp; omega)]
    have hn : firstAt (isDot text) lim (lim + 1 - s) s = none := by
      cases hk : lim + 1 - s with
      | zero => rfl
      | succ n => unfold firstAt; rw [if_pos (by omega)]
    rw [hn]
    exact ⟨1, by omega, rfl⟩
end Mine

namespace Mine

/-- the pieces that a substitution lays -/
noncomputable def subL (find : Nat → Option (Nat × Nat)) (x r : List Nat) : Nat → Nat → List (List Nat)
  | 0, _ => []
  | n + 1, d => match find d with
    | some (i, e) => (if d < i then [(x.drop d).take (i - d)] else []) ++ r :: subL find x r n e
    | none => if d < x.length then [x.drop d] else []

theorem getD_arr (x : List Nat) (i : Nat) : x.toArray.getD i 0 = x.getD i 0 := by simp
theorem drop_cons {x : List Nat} {d : Nat} (h : d < x.length) : x.drop d = x.getD d 0 :: x.drop (d + 1) := by
  rw [List.drop_eq_getElem_cons h]; simp [List.getD_eq_getElem?_getD, h]

theorem fix_skip (x : List Nat) : ∀ (k d : Nat), d + k ≤ x.length → (∀ j, d ≤ j → j < d + k → isEol (x.getD j 0) = false) → fixL (x.drop d) false = (x.drop d).take k ++ fixL (x.drop (d + k)) false
  | 0, d, _, _ => by simp
  | k + 1, d, h, hj => by
    have h0 := hj d (Nat.le_refl _) (by omega)
    have ih := fix_skip x k (d + 1) (by omega) fun j h1 h2 => hj j (by omega) (by omega)
    unfold isEol at h0
    simp only [Bool.or_eq_false_iff, beq_eq_false_iff_ne] at h0
    rw [drop_cons (d := d) (by omega), List.take_succ_cons, fixL, if_neg h0.1, if_neg h0.2, ih, show d + 1 + k = d + (k + 1) by omega]
    rfl
theorem fix_cr {l : List Nat} (h : l.getD 0 0 ≠ 10) : fixL l true = fixL l false := by
  cases l with
  | nil => rfl
  | cons c r =>
    have : c ≠ 10 := by simpa using h
    unfold fixL
    rw [if_neg this, if_neg this]
theorem sub2_is (x : List Nat) : ∀ (n d : Nat), x.length < n + d → d ≤ x.length → (subL (find2 x.toArray x.length) x [13, 10] n d).flatten = fixL (x.drop d) false
  | 0, d, h, h' => by omega
  | n + 1, d, h, h' => by
    have hfd : find2 x.toArray x.length d = (firstAt (fun i => isEol (x.toArray.getD i 0)) x.length (x.length + 1 - d) d).map (fun i => (i, if x.toArray.getD i 0 = 13 ∧ i + 1 < x.length ∧ x.toArray.getD (i + 1) 0 = 10 then i + 2 else i + 1)) := rfl
    unfold subL
    rw [hfd]
    cases hf : firstAt (fun i => isEol (x.toArray.getD i 0)) x.length (x.length + 1 - d) d with
    | none =>
      have hn := firstAt_none hf (by omega)
      have e := fix_skip x (x.length - d) d (by omega) fun j h1 h2 => by rw [← getD_arr]; exact hn j h1 (by omega)
      have e2 : x.drop (d + (x.length - d)) = [] := List.drop_of_length_le (by omega)
      rw [e2] at e
      simp only [Option.map_none]
      split
      · rw [e]; simp [fixL, List.take_of_length_le]
      · have : x.drop d = [] := List.drop_of_length_le (by omega)
        rw [this]; rfl
    | some i =>
      obtain ⟨a, b, c, hj⟩ := firstAt_some hf
      have e := fix_skip x (i - d) d (by omega) fun j h1 h2 => by rw [← getD_arr]; exact hj j h1 (by omega)
      rw [show d + (i - d) = i by omega, drop_cons b] at e
      have hpre : (if d < i then [(x.drop d).take (i - d)] else []).flatten = (x.drop d).take (i - d) := by
        split
        · simp
        · rw [show i - d = 0 by omega]; simp
      rw [getD_arr] at c
      simp only [Option.map_some, List.flatten_append, List.flatten_cons, hpre]
      rw [e]
      congr 1
      rw [getD_arr, getD_arr]
      rw [fixL]
      by_cases h10 : x.getD i 0 = 10
      · rw [if_pos h10, if_neg (by rw [h10]; simp), if_neg (by simp), sub2_is x n (i + 1) (by omega) (by omega)]
        rfl
      · have h13 : x.getD i 0 = 13 := by
          unfold isEol at c
          simp only [Bool.or_eq_true, beq_iff_eq] at c
          exact c.resolve_left h10
        rw [if_neg h10, if_pos h13]
        by_cases hn : i + 1 < x.length ∧ x.getD (i + 1) 0 = 10
        · rw [if_pos ⟨h13, hn⟩, sub2_is x n (i + 2) (by omega) (by omega), drop_cons hn.1, fixL, if_pos hn.2, if_pos rfl]
          rfl
        · rw [if_neg (fun h => hn h.2), sub2_is x n (i + 1) (by omega) (by omega), fix_cr]
          · rfl
          · intro h0
            by_cases hl : i + 1 < x.length
            · rw [drop_cons hl] at h0
              exact hn ⟨hl, by simpa using h0⟩
            · rw [List.drop_of_length_le (by omega)] at h0
              simp at h0
noncomputable def bol (x : List Nat) (d : Nat) : Bool := d == 0 || x.getD (d - 1) 0 == 10
theorem quote_skip (x : List Nat) : ∀ (k d : Nat), d + k ≤ x.length → (∀ j, d ≤ j → j < d + k → (x.getD j 0 == 46 && bol x j) = false) → quoteL (bol x d) (x.drop d) = (x.drop d).take k ++ quoteL (bol x (d + k)) (x.drop (d + k))
  | 0, d, _, _ => by simp
  | k + 1, d, h, hj => by
    have h0 := hj d (Nat.le_refl _) (by omega)
    have ih := quote_skip x k (d + 1) (by omega) fun j h1 h2 => hj j (by omega) (by omega)
    have hb : bol x (d + 1) = (x.getD d 0 == 10) := by unfold bol; simp
    rw [drop_cons (d := d) (by omega), List.take_succ_cons, quoteL, if_neg, ← hb, ih, show d + 1 + k = d + (k + 1) by omega]
    · rfl
    · rintro ⟨h1, h2⟩
      rw [h1, h2] at h0
      simp at h0
theorem sub1_is (x : List Nat) : ∀ (n d : Nat), x.length < n + d → d ≤ x.length → (subL (find1 x.toArray x.length) x [46, 46] n d).flatten = quoteL (bol x d) (x.drop d)
  | 0, d, h, h' => by omega
  | n + 1, d, h, h' => by
    have hdot : ∀ j, isDot x.toArray j = (x.getD j 0 == 46 && bol x j) := fun j => by
      unfold isDot bol; rw [getD_arr, getD_arr]
    have hfd : find1 x.toArray x.length d = (firstAt (isDot x.toArray) x.length (x.length + 1 - d) d).map (fun i => (i, i + 1)) := rfl
    unfold subL
    rw [hfd]
    cases hf : firstAt (isDot x.toArray) x.length (x.length + 1 - d) d with
    | none =>
      have hn := firstAt_none hf (by omega)
      have e := quote_skip x (x.length - d) d (by omega) fun j h1 h2 => by rw [← hdot]; exact hn j h1 (by omega)
      have e2 : x.drop (d + (x.length - d)) = [] := List.drop_of_length_le (by omega)
      rw [e2] at e
      simp only [Option.map_none]
      split
      · rw [e]; simp [quoteL, List.take_of_length_le]
      · have : x.drop d = [] := List.drop_of_length_le (by omega)
        rw [this]; rfl
    | some i =>
      obtain ⟨a, b, c, hj⟩ := firstAt_some hf
      have e := quote_skip x (i - d) d (by omega) fun j h1 h2 => by rw [← hdot]; exact hj j h1 (by omega)
      rw [show d + (i - d) = i by omega, drop_cons b] at e
      have hpre : (if d < i then [(x.drop d).take (i - d)] else []).flatten = (x.drop d).take (i - d) := by
        split
        · simp
        · rw [show i - d = 0 by omega]; simp
      rw [hdot] at c
      simp only [Bool.and_eq_true, beq_iff_eq] at c
      simp only [Option.map_some, List.flatten_append, List.flatten_cons, hpre]
      rw [e]
      congr 1
      rw [quoteL, if_pos c, sub1_is x n (i + 1) (by omega) (by omega)]
      have : bol x (i + 1) = false := by unfold bol; rw [show i + 1 - 1 = i from rfl, c.1]; rfl
      rw [this]
      rfl
end Mine

namespace Mine
open PySem PySem.W PyProof.Rows PySem.Builtin.Re

section
variable {prog : Program} {w : World} {A : Around} {E : Value → Shared → Prop} {s : Shared}

theorem run_add : ∀ (a b : Nat) (m : Sre.M), m.runFor (a + b) = (m.runFor a).runFor b
  | 0, b, m => by rw [Nat.zero_add]; rfl
  | a + 1, b, m => by
    rw [show a + 1 + b = (a + b) + 1 by omega]
    show (if m.outcome.isSome then m else Sre.M.runFor (a + b) m.step) = Sre.M.runFor b (if m.outcome.isSome then m else Sre.M.runFor a m.step)
    by_cases h : m.outcome.isSome = true
    · rw [if_pos h, if_pos h]
      cases b with
      | zero => rfl
      | succ b => show _ = if m.outcome.isSome then m else _; rw [if_pos h]
    · rw [if_neg h, if_neg h]; exact run_add a b _
theorem run_done {m : Sre.M} (h : m.outcome.isSome = true) : ∀ n, m.runFor n = m
  | 0 => rfl
  | n + 1 => by show (if m.outcome.isSome then m else _) = _; rw [if_pos h]

theorem drive_is {Q : Sre.M → Shared → Prop} : ∀ (turns N : Nat) (m : Sre.M), N < 4 * turns → (m.runFor N).outcome.isSome = true → Q (m.runFor N) s → wpAny (model prog w) A (reDrive turns m) Q E s
  | 0, N, m, h, _, _ => by omega
  | t + 1, N, m, h, ho, hQ => by
    show wpAny (model prog w) A (if (m.runFor 4).outcome.isSome then pure (m.runFor 4) else do rule "sre.turn"; reDrive t (m.runFor 4)) Q E s
    by_cases h4 : N ≤ 4
    · have e : m.runFor 4 = m.runFor N := by
        have : m.runFor (N + (4 - N)) = m.runFor N := by rw [run_add, run_done ho]
        rw [show N + (4 - N) = 4 by omega] at this; exact this
      rw [e, if_pos ho]
      exact wpAny_pure hQ
    · have e : (m.runFor 4).runFor (N - 4) = m.runFor N := by
        rw [← run_add, show 4 + (N - 4) = N by omega]
      by_cases hd : (m.runFor 4).outcome.isSome = true
      · rw [if_pos hd]
        rw [run_done hd] at e
        rw [e]; exact wpAny_pure hQ
      · rw [if_neg hd]
        refine wpAny_bind (wpAny_rule ?_)
        exact drive_is t (N - 4) _ (by omega) (by rw [e]; exact ho) (by rw [e]; exact hQ)

theorem rules_are {f : Nat → PUnit → Sem (ForInStep PUnit)} {Q : PUnit → Shared → Prop} (hf : ∀ i u (Q : ForInStep PUnit → Shared → Prop), Q (.yield ⟨⟩) s → wpAny (model prog w) A (f i u) Q E s) : ∀ (l : List Nat), Q ⟨⟩ s → wpAny (model prog w) A (forIn l ⟨⟩ f) Q E s
  | [], h => by rw [List.forIn_nil]; exact wpAny_pure h
  | i :: l, h => by
    rw [List.forIn_cons]
    exact wpAny_bind (hf i _ _ (rules_are hf l h))

theorem run_match {m : Sre.M} {i e B : Nat} {Q : Option Sre.M → Shared → Prop} (f : Fin m i e B) (hB : B < 2 ^ 60) (hQ : ∀ m', m'.start = i → m'.handed = e → Q (some m') s) : wpAny (model prog w) A (reRunToEnd m) Q E s := by
  obtain ⟨N, hN, h1, h2, h3⟩ := f
  unfold reRunToEnd
  refine wpAny_bind (drive_is (2 ^ 64) N m (by omega) (by rw [h1]; rfl) ?_)
  refine wpAny_bind (rules_are (fun i u Q h => ?_) _ ?_)
  · split
    · exact wpAny_bind (wpAny_rule (wpAny_pure h))
    · exact wpAny_pure h
  rw [h1]
  exact wpAny_pure (hQ _ h2 h3)
theorem run_fail {m : Sre.M} {B : Nat} {Q : Option Sre.M → Shared → Prop} (f : Fail m B) (hB : B < 2 ^ 60) (hQ : Q none s) : wpAny (model prog w) A (reRunToEnd m) Q E s := by
  obtain ⟨N, hN, h1⟩ := f
  unfold reRunToEnd
  refine wpAny_bind (drive_is (2 ^ 64) N m (by omega) (by rw [h1]; rfl) ?_)
  refine wpAny_bind (rules_are (fun i u Q h => ?_) _ ?_)
  · split
    · exact wpAny_bind (wpAny_rule (wpAny_pure h))
    · exact wpAny_pure h
  rw [h1]
  exact wpAny_pure hQ
end
end Mine

namespace Mine
open PySem PySem.W PyProof.Rows PySem.Builtin.Re PySem.F

/-! the pattern's method -/
theorem owner_pat : Manifest.owners.lookup (String.ofList ['n', 'r', 'e', 't', 't', 'a', 'P', '.', 'e', 'r'].reverse) = some Manifest.sig_re_Pattern := by kernel_rfl
theorem args_pat_sub (a b c : Value) : argsOk "re.Pattern.sub" ⟨[a, b, c], []⟩ := by
  unfold argsOk; rw [signature?_of (id := "re.Pattern.sub") (n := ['b', 'u', 's']) (o := ['n', 'r', 'e', 't', 't', 'a', 'P', '.', 'e', 'r']) (by kernel_rfl) owner_pat]; kernel_rfl
theorem slot_pat_sub : Slot "re.Pattern" "sub" "re.Pattern.sub" :=
  .of (owner := "re.Pattern") (n := "sub") (by rw [typeLookup_type, builtinLookup_eq_fast]; kernel_rfl) (by decide +kernel) (by decide +kernel) (by decide +kernel)
    (by first | exact .inl (by decide +kernel) | exact .inr (by decide +kernel)) (by rw [isSubtype_type]; kernel_rfl)
theorem type_pat_sub : typeOf (.builtin "re.Pattern.sub") = pure (.type "method_descriptor") := by show builtinType _ = _; rw [builtinType_eq_fast]; kernel_rfl
theorem entry_pat_sub : entryFor table "re.Pattern.sub" = some Builtin.«re.Pattern.sub» := entryFor_of_tree (by kernel_rfl)
theorem entry_pat_loop : entryFor table "re.Pattern.sub.loop" = some Builtin.«re.Pattern.sub.loop» := entryFor_of_tree (by kernel_rfl)
theorem plain_pat_loop : plainId "re.Pattern.sub.loop" = true := by decide +kernel
theorem plainAttrs_pat : PlainAttrs "re.Pattern" :=
  ⟨⟨"object.__getattribute__", by rw [typeLookup_type, builtinLookup_eq_fast]; kernel_rfl, by decide +kernel⟩, by rw [typeLookup_type, builtinLookup_eq_fast]; kernel_rfl⟩

/-- a pattern without groups, of texts -/
structure PatOk (h : Heap) (p : Addr) (code : Array Nat) : Prop where
  ex : ∃ o fs c oc items n, h.get? p = some o ∧ o.cls = .type "re.Pattern" ∧ o.dict = none ∧ o.data = .fields fs ∧ reRawNat (fs.getD 6 .none) = 0 ∧ reRawNat (fs.getD 2 .none) = 0 ∧ fs.getD 5 .none = .ref c ∧ h.get? c = some oc ∧ oc.data = .seq items n ∧ (items.map reRawOf).map Int.toNat = code
theorem PatOk.keep {h h' : Heap} {p : Addr} {code : Array Nat} (x : PatOk h p code) (hk : ∀ b o, h.get? b = some o → h'.get? b = some o) : PatOk h' p code :=
  ⟨x.ex.imp fun _ => Exists.imp fun _ => Exists.imp fun _ => Exists.imp fun _ => Exists.imp fun _ => Exists.imp fun _ h => ⟨hk _ _ h.1, h.2.imp_right fun h => h.imp_right fun h => h.imp_right fun h => h.imp_right fun h => h.imp_right fun h => h.imp_right fun h => ⟨hk _ _ h.1, h.2⟩⟩⟩

section
variable {prog : Program} {w : World} {A : Around} {E : Value → Shared → Prop} {s : Shared} {p : Addr} {code : Array Nat}

theorem whole_target {x : Str} {t : Tok} {Q : ReTarget → Shared → Prop} (P : PatOk s.heap p code)
    (h : Q { pattern := .ref p, string := .str x t, code, text := x.cps, kind := 0, groups := 0, pos := 0, lim := x.cps.size } s) : wpAny (model prog w) A (reWholeTarget (.ref p) (.str x t)) Q E s := by
  obtain ⟨o, fs, c, oc, items, n, h1, h2, _, h3, h4, h5, h6, h7, h8, h9⟩ := P.ex
  unfold reWholeTarget
  refine wpAny_bind (wpAny_fieldsOf h1 h3 ?_)
  refine wpAny_bind (m := reTextOf (.str x t)) (wpAny_pure (a := (x.cps, 0)) ?_)
  rw [h4, h5, h6]
  refine wpAny_bind (wpAny_pure ?_)
  refine wpAny_bind (m := reRawItems (.ref c)) ?_
  unfold reRawItems
  refine wpAny_bind (wpAny_seqItems h7 h8 (wpAny_pure (wpAny_pure ?_)))
  rw [show ((some items).getD #[]) = items from rfl, show Array.map (fun x : Int => x.toNat) (items.map reRawOf) = code from h9]
  exact h

/-- an item is laid behind a list -/
theorem upd_list {L : Addr} {vs : List Value} {n : Nat} {v : Value} {Q : Unit → Shared → Prop} (hL : s.heap.get? L = some (lstObj vs n)) (hz : vs.length ≤ 1000000)
    (h : ∀ h' n', h'.get? L = some (lstObj (vs ++ [v]) n') → Heap.SameBut L s.heap h' → Q () { s with heap := h' }) : wpAny (model prog w) A (updateSeq L (·.push v)) Q E s := by
  refine wpAny_updateSeq hL rfl (h _ (if (vs.toArray.push v).size == vs.toArray.size then n else n + 1) ?_ (Heap.SameBut.update ..)) (by simp only [List.size_toArray]; show vs.length ≤ 16777216; omega) (by simp only [Array.size_push, List.size_toArray]; show vs.length + 1 ≤ 16777216 + 1; omega)
  have e : Obj.mapSeq (fun a => a.push v) (lstObj vs n) = lstObj (vs ++ [v]) (if (vs.toArray.push v).size == vs.toArray.size then n else n + 1) := by
    unfold lstObj Obj.mapSeq
    simp
  have := Heap.get?_update_self (fun o => Obj.mapSeq (fun a => a.push v) o) hL (by rw [e]; rfl)
  rw [e] at this; exact this

structure SubOk (code : Array Nat) (x : List Nat) (find : Nat → Option (Nat × Nat)) : Prop where
  run : ∀ d, d ≤ x.length → match find d with
    | some (i, e) => Fin (Sre.forSearch code (mkS x).cps 0 d (mkS x).cps.size false) i e 5000000 ∧ d ≤ i ∧ i < e ∧ e ≤ x.length
    | none => Fail (Sre.forSearch code (mkS x).cps 0 d (mkS x).cps.size false) 5000000
theorem sub_sizes {x r : List Nat} {find : Nat → Option (Nat × Nat)} (F : SubOk code x find) (hr : r.length ≤ 2) : ∀ n d, d ≤ x.length → (subL find x r n d).flatten.length ≤ 3 * (x.length - d) ∧ (subL find x r n d).length ≤ 2 * (x.length - d) + 1
  | 0, d, _ => by simp [subL]
  | n + 1, d, hd => by
    have h1 := F.run d hd
    unfold subL
    cases hf : find d with
    | none =>
      simp only
      split
      · simp; lia
      · simp
    | some ie =>
      obtain ⟨i, e⟩ := ie
      rw [hf] at h1
      obtain ⟨_, h2, h3, h4⟩ := h1
      obtain ⟨i1, i2⟩ := sub_sizes F hr n e h4
      simp only [List.flatten_append, List.flatten_cons, List.length_append, List.length_cons]
      split
      · simp only [List.flatten_cons, List.flatten_nil, List.append_nil, List.length_take, List.length_drop, List.length_cons, List.length_nil]
        lia
      · simp only [List.flatten_nil, List.length_nil]
        lia
theorem glue_nil : ∀ (l : List (List Nat)), glue [] l = l.flatten
  | [] => rfl
  | [p] => by simp [glue]
  | p :: q :: l => by
    have := glue_nil (q :: l)
    simp only [glue, this, List.flatten_cons, List.append_nil]
end
end Mine

namespace Mine
open PySem PySem.W PyProof.Rows PySem.Builtin.Re PySem.F

section
variable {prog : Program} {w : World} {A : Around} {p : Addr} {code : Array Nat}

theorem sub_loop {x r : List Nat} {find : Nat → Option (Nat × Nat)} {t tr : Tok} {L : Addr} {R : Result → Shared → Prop} {s0 : Shared} (F : SubOk code x find) (hr : r.length ≤ 2) (hx : x.length ≤ 100000) (hLn : s0.heap.get? L = none) (P0 : PatOk s0.heap p code) :
    ∀ (n d : Nat) (k : Int) (s : Shared) (ps : List (Str × Tok)) (nn : Nat), x.length < n + d → d ≤ x.length → Ext s0 s → s.heap.get? L = some (lstObj (strValues ps) nn) → ps.length + (subL find x r n d).length ≤ 300000 →
      ((ps.map fun q => q.1.cps.toList) ++ subL find x r n d).flatten.length ≤ 400000 →
      (∀ t' s', Ext s0 s' → R (.ok (.ret (.str (mkS ((ps.map fun q => q.1.cps.toList) ++ subL find x r n d).flatten) t'))) s') →
      codeAny (model prog w) A (.builtin "re.Pattern.sub.loop" ⟨[.ref p, .str (mkS x) t, .str (mkS r) tr, rawInt 0, rawInt 0, rawInt k, rawInt d, rawInt d, .bool false, .ref L, .bool false], []⟩) R s
  | 0, d, _, _, _, _, h, h', _, _, _, _, _ => by omega
  | n + 1, d, k, s, ps, nn, h, h', x0, hL, hz, hz2, hR => by
    refine codeAny_builtin entry_pat_loop ?_
    rw [Around.under_plainId plain_pat_loop _]
    unfold Builtin.«re.Pattern.sub.loop»
    refine wpAny_bind (whole_target (P0.keep x0.heap) ?_)
    refine wpAny_bind (m := reLiteralCannotBeTurned (.str (mkS r) tr)) (wpAny_pure ?_)
    have hrun := F.run d h'
    have hsz : (mkS x).cps.size = x.length := mkS_len x
    have hslice : ∀ a b (s : Shared) (Q : Value → Shared → Prop) (E : Value → Shared → Prop), a ≤ b → b ≤ x.length → (∀ t', Q (.str (mkS ((x.drop a).take (b - a))) t') { s with toks := s.toks + 1 }) → wpAny (model prog w) A.in1 (reSlice (mkS x).cps 0 a b) Q E s := fun a b s Q E h1 h2 hQ => by
      have e : (⟨(mkS x).cps.extract a b⟩ : Str) = mkS ((x.drop a).take (b - a)) := by
        unfold mkS
        simp
      show wpAny _ _ (mkStr ⟨(mkS x).cps.extract a b⟩) _ _ s
      rw [e]
      refine wpAny_mkStr (hQ _) ?_
      rw [mkS_len, List.length_take, List.length_drop]
      show _ ≤ 16777216
      omega
    have fin : ∀ (s1 : Shared) (qs : List (Str × Tok)) (n1 : Nat), Ext s0 s1 → s1.heap.get? L = some (lstObj (strValues qs) n1) → qs.length ≤ 300000 → (qs.map fun q => q.1.cps.toList).flatten.length ≤ 400000 → (∀ t' s', Ext s0 s' → R (.ok (.ret (.str (mkS (qs.map fun q => q.1.cps.toList).flatten) t'))) s') →
        wpAny (model prog w) A.in1 (do
          let joiner ← reSlice (mkS x).cps 0 0 0
          let its ← seqItems? (.ref L)
          if (its.getD #[]).isEmpty = true then do
            let text ← pure joiner
            ret text
          else do
            let text ← call (.builtin "str.join") [joiner, .ref L]
            ret text) (fun fin s' => match fin with | .done f => R (.ok f) s' | .again c' => c'.quiet = true ∧ codeAny (model prog w) A c' R s') (fun e s' => R (.error e) s') s1 := fun s1 qs n1 x1 hL1 hq hq2 hR1 => by
      refine wpAny_bind (hslice 0 0 s1 _ _ (Nat.le_refl _) (Nat.zero_le _) fun tj => ?_)
      refine wpAny_bind (wpAny_seqItems hL1 rfl ?_)
      have xt : Ext s0 { s1 with toks := s1.toks + 1 } := x1.trans (.tk s1 (Nat.le_succ _))
      cases qs with
      | nil =>
        refine wpAny_pure ?_
        have := hR1 tj _ xt
        simpa using this
      | cons q qs =>
        refine wpAny_bind (wpAny_with_toks (n := s1.toks + 1) (Nat.le_refl _) (PySem.SC.join (x := mkS []) (l := q :: qs) (texts := (q :: qs).map (·.1)) (isL hL1) rfl ?_ fun t' k hk => ?_))
        · unfold PySem.JoinOk
          rw [StrLaws.joinTotal, Bool.not_eq_true']
          unfold PySem.Builtin.Str.tooLong
          rw [decide_eq_false_iff_not, mkS_len]
          have : (((q :: qs).map (·.1)).map (·.length)).sum = ((q :: qs).map fun q => q.1.cps.toList).flatten.length := by
            rw [List.length_flatten, List.map_map, List.map_map]
            rfl
          rw [this]
          show ¬ (_ > 16777216)
          simp only [List.length_nil, Nat.mul_zero] at hq2 ⊢
          omega
        · have e : PySem.Txt.join (mkS []) ((q :: qs).map (·.1)) = mkS ((q :: qs).map fun q => q.1.cps.toList).flatten := by
            refine of_list ?_
            unfold PySem.Txt.join
            rw [StrLaws.glued_eq_join, glue_is, glue_nil, List.map_map]
            rfl
          rw [e]
          exact wpAny_pure (hR1 t' _ (x1.trans (.tk s1 (Nat.le_of_succ_le hk))))
    cases hf : find d with
    | none =>
      rw [hf] at hrun
      have hsub : subL find x r (n + 1) d = if d < x.length then [x.drop d] else [] := by rw [subL, hf]
      rw [hsub] at hz hz2 hR
      refine wpAny_bind (show wpAny (model prog w) A.in1 (reRunToEnd (Sre.forSearch code (mkS x).cps 0 d (mkS x).cps.size false)) _ _ s from run_fail hrun (by decide) ?_)
      by_cases hd : d < x.length
      · rw [if_pos hd] at hz hz2 hR
        show wpAny _ _ (if d < (mkS x).cps.size then _ else _) _ _ s
        rw [if_pos (by rw [hsz]; exact hd)]
        refine wpAny_bind (show wpAny (model prog w) A.in1 (reSlice (mkS x).cps 0 d (mkS x).cps.size) _ _ s from hslice d _ s _ _ (by omega) (by omega) fun td => ?_)
        have e1 : ((x.drop d).take ((mkS x).cps.size - d)) = x.drop d := by rw [hsz]; exact List.take_of_length_le (by simp)
        rw [e1]
        have hpl : (strValues ps).length = ps.length := by simp [strValues]
        refine wpAny_bind (upd_list (vs := strValues ps) (n := nn) hL (by omega) fun h1 n1 hL1 hs1 => ?_)
        have x1 : Ext s0 { s with heap := h1, toks := s.toks + 1 } := ⟨fun b o eb => hs1.extBut b o (fun q => by rw [q, hLn] at eb; cases eb) (x0.heap b o eb), x0.gens, x0.bare, x0.os, Nat.le_trans x0.toks (Nat.le_succ _)⟩
        have e2 : strValues ps ++ [.str (mkS (x.drop d)) td] = strValues (ps ++ [(mkS (x.drop d), td)]) := by simp [strValues]
        rw [e2] at hL1
        have e3 : ((ps ++ [(mkS (x.drop d), td)]).map fun q => q.1.cps.toList) = (ps.map fun q => q.1.cps.toList) ++ [x.drop d] := by simp [mkS]
        exact fin _ (ps ++ [(mkS (x.drop d), td)]) n1 x1 hL1 (by simpa using hz) (by rw [e3]; exact hz2) (by rw [e3]; exact hR)
      · rw [if_neg hd] at hz hz2 hR
        show wpAny _ _ (if d < (mkS x).cps.size then _ else _) _ _ s
        rw [if_neg (by rw [hsz]; exact hd)]
        rw [List.append_nil] at hz2 hR
        exact fin s ps nn x0 hL (by simpa using hz) hz2 hR
    | some ie =>
      obtain ⟨i, e⟩ := ie
      rw [hf] at hrun
      obtain ⟨hrun, hdi, hie, hel⟩ := hrun
      have hsub : subL find x r (n + 1) d = (if d < i then [(x.drop d).take (i - d)] else []) ++ r :: subL find x r n e := by rw [subL, hf]
      rw [hsub] at hz hz2 hR
      refine wpAny_bind (show wpAny (model prog w) A.in1 (reRunToEnd (Sre.forSearch code (mkS x).cps 0 d (mkS x).cps.size false)) _ _ s from run_match hrun (by decide) fun m' hm1 hm2 => ?_)
      have step : ∀ (s1 : Shared) (qs : List (Str × Tok)) (n1 : Nat), Ext s0 s1 → s1.heap.get? L = some (lstObj (strValues qs) n1) → (∀ b o, b ≠ L → s.heap.get? b = some o → s1.heap.get? b = some o) → (qs.map fun q => q.1.cps.toList) = (ps.map fun q => q.1.cps.toList) ++ (if d < i then [(x.drop d).take (i - d)] else []) →
          wpAny (model prog w) A.in1 (do
            let __r ← updateSeq L fun a => a.push (.str (mkS r) tr)
            again (Code.builtin "re.Pattern.sub.loop" ⟨[.ref p, .str (mkS x) t, .str (mkS r) tr, rawInt 0, rawInt 0, rawInt (k + 1), rawInt m'.handed, rawInt m'.handed, .bool (m'.handed == m'.start), .ref L, .bool false], []⟩))
            (fun fin s' => match fin with | .done f => R (.ok f) s' | .again c' => c'.quiet = true ∧ codeAny (model prog w) A c' R s') (fun e s' => R (.error e) s') s1 := fun s1 qs n1 x1 hL1 hk1 hqs => by
        have hpl : (strValues qs).length = qs.length := by simp [strValues]
        have hql : qs.length = ps.length + (if d < i then [(x.drop d).take (i - d)] else []).length := by
          have := congrArg List.length hqs
          simpa using this
        have hz' : qs.length + 1 + (subL find x r n e).length ≤ 300000 := by
          rw [hql]
          simp only [List.length_append, List.length_cons] at hz
          omega
        refine wpAny_bind (upd_list (vs := strValues qs) (n := n1) hL1 (by omega) fun h2 n2 hL2 hs2 => ?_)
        have e2 : strValues qs ++ [.str (mkS r) tr] = strValues (qs ++ [(mkS r, tr)]) := by simp [strValues]
        rw [e2] at hL2
        have e3 : ((qs ++ [(mkS r, tr)]).map fun q => q.1.cps.toList) ++ subL find x r n e = (ps.map fun q => q.1.cps.toList) ++ ((if d < i then [(x.drop d).take (i - d)] else []) ++ r :: subL find x r n e) := by
          rw [List.map_append, hqs]; simp [mkS]
        have x2 : Ext s0 { s1 with heap := h2 } := ⟨fun b o eb => hs2.extBut b o (fun q => by rw [q, hLn] at eb; cases eb) (x1.heap b o eb), x1.gens, x1.bare, x1.os, x1.toks⟩
        have hb : (e == i) = false := by rw [beq_eq_false_iff_ne]; omega
        rw [hm1, hm2, hb]
        exact wpAny_pure ⟨plainId_quiet plain_pat_loop _, sub_loop F hr hx hLn P0 n e (k + 1) { s1 with heap := h2 } (qs ++ [(mkS r, tr)]) n2 (by omega) hel x2 hL2 (by simp only [List.length_append, List.length_cons, List.length_nil]; omega) (by rw [e3]; exact hz2) (by rw [e3]; exact hR)⟩
      by_cases hd : d < i
      · show wpAny _ _ (if d < m'.start then _ else _) _ _ s
        rw [if_pos (by rw [hm1]; exact hd)]
        refine wpAny_bind (show wpAny (model prog w) A.in1 (reSlice (mkS x).cps 0 d m'.start) _ _ s from hslice d _ s _ _ (by omega) (by omega) fun td => ?_)
        have hpl : (strValues ps).length = ps.length := by simp [strValues]
        refine wpAny_bind (upd_list (vs := strValues ps) (n := nn) hL (by omega) fun h1 n1 hL1 hs1 => ?_)
        have x1 : Ext s0 { s with heap := h1, toks := s.toks + 1 } := ⟨fun b o eb => hs1.extBut b o (fun q => by rw [q, hLn] at eb; cases eb) (x0.heap b o eb), x0.gens, x0.bare, x0.os, Nat.le_trans x0.toks (Nat.le_succ _)⟩
        have e2 : strValues ps ++ [.str (mkS ((x.drop d).take (m'.start - d))) td] = strValues (ps ++ [(mkS ((x.drop d).take (m'.start - d)), td)]) := by simp [strValues]
        rw [e2] at hL1
        exact step _ (ps ++ [(mkS ((x.drop d).take (m'.start - d)), td)]) n1 x1 hL1 (fun b o nb eb => hs1.extBut b o nb eb) (by rw [if_pos hd, ← hm1]; simp [mkS])
      · show wpAny _ _ (if d < m'.start then _ else _) _ _ s
        rw [if_neg (by rw [hm1]; exact hd)]
        exact step s ps nn x0 hL (fun b o _ eb => eb) (by rw [if_neg hd, List.append_nil])
end
end Mine

namespace Mine
local macro_rules | `(tactic| omega) => `(tactic| lia)
open PySem PySem.W PyProof.Rows PySem.Builtin.Re PySem.F

section
variable {prog : Program} {w : World} {A : Around} {p : Addr} {code : Array Nat}

theorem lookup_str_call : typeLookup (.type "str") "__call__" = pure none := by rw [typeLookup_type, builtinLookup_eq_fast]; kernel_rfl
theorem sub_call {x r : List Nat} {find : Nat → Option (Nat × Nat)} {t tr : Tok} {Q E : Value → Shared → Prop} {s : Shared} (F : SubOk code x find) (hr : r.length ≤ 2) (hx : x.length ≤ 100000) (h92 : r.contains 92 = false) (P : PatOk s.heap p code)
    (hQ : ∀ t' s', Ext s s' → Q (.str (mkS (subL find x r (x.length + 1) 0).flatten) t') s') : wpAny (model prog w) A (call (.builtin "re.Pattern.sub") [.ref p, .str (mkS r) tr, .str (mkS x) t]) Q E s := by
  have hT : s.TypeIs (.ref p) "re.Pattern" := by
    obtain ⟨o, _, _, _, _, _, h1, h2, _⟩ := P.ex
    exact ⟨o, h1, h2⟩
  refine wpAny_call (codeAny_call_builtin slot_pat_sub.plain entry_pat_sub (slot_pat_sub.check _ _ _ _ _ _ _ _ hT (args_pat_sub _ _ _) ?_))
  show wpAny _ A.in1 (reSubstitute "re.Pattern.sub" "sub" false ⟨[.ref p, .str (mkS r) tr, .str (mkS x) t], []⟩) _ _ s
  unfold reSubstitute
  refine wpAny_bind (wpAny_of_eq (a := [some (.str (mkS r) tr), some (.str (mkS x) t), none]) (by rfl) ?_)
  refine wpAny_bind (m := pure (0 : Int)) (wpAny_pure ?_)
  refine wpAny_bind (m := specialOf (.str (mkS r) tr) "__call__") (wpAny_specialOf (typeIs_str _ _ _) lookup_str_call ?_)
  have hc : (!(mkS r).cps.contains 92) = true := by
    have : (mkS r).cps.contains 92 = r.contains 92 := by simp [mkS]
    rw [this, h92]; rfl
  show wpAny _ A.in1 (if (!(mkS r).cps.contains 92) = true then _ else _) _ _ s
  rw [if_pos hc]
  refine wpAny_bind (m := holding [.str (mkS r) tr] (reWholeTarget (.ref p) (.str (mkS x) t))) (wpAny_holding (whole_target P ?_))
  refine wpAny_bind (m := newList []) (wpAny_newList ?_ (by simp))
  refine wpAny_pure ⟨plainId_quiet plain_pat_loop _, ?_⟩
  have hsz := sub_sizes F hr (x.length + 1) 0 (Nat.zero_le _)
  have x1 : Ext s { s with heap := s.heap.push (lstObj [] 0) } := .push s _ (Nat.le_refl _)
  exact sub_loop F hr hx (new_none s.heap) P (x.length + 1) 0 0 { s with heap := s.heap.push (lstObj [] 0) } [] 0 (by omega) (Nat.zero_le _) x1 (Heap.get?_push_size _ rfl) (by simp only [List.length_nil]; omega) (by simp only [List.map_nil, List.nil_append]; omega) fun t' s' x' => hQ t' s' x'
end
theorem sub2_ok (x : List Nat) (hx : x.length ≤ 100000) : SubOk C2 x (find2 x.toArray x.length) := ⟨fun d hd => by
  have h1 := search2 x.toArray x.length d
  have e : (mkS x).cps = x.toArray := rfl
  have e2 : (mkS x).cps.size = x.length := mkS_len x
  rw [e2, e]
  unfold find2 at h1 ⊢
  cases hf : firstAt (fun i => isEol (x.toArray.getD i 0)) x.length (x.length + 1 - d) d with
  | none =>
    rw [hf] at h1
    obtain ⟨N, hN, r⟩ := h1
    exact ⟨N, by omega, r⟩
  | some i =>
    rw [hf] at h1
    obtain ⟨N, hN, r⟩ := h1
    obtain ⟨a, b, _, _⟩ := firstAt_some hf
    refine ⟨⟨N, by omega, r⟩, a, ?_, ?_⟩
    · show i < if _ then _ else _
      split
      · exact Nat.lt_succ_of_lt (Nat.lt_succ_self i)
      · exact Nat.lt_succ_self i
    · show (if _ then _ else _) ≤ _
      split
      · rename_i h; exact h.2.1
      · exact b⟩
theorem sub1_ok (x : List Nat) (hx : x.length ≤ 1000000) : SubOk C1 x (find1 x.toArray x.length) := ⟨fun d hd => by
  have h1 := search1 x.toArray x.length d hx
  have e : (mkS x).cps = x.toArray := rfl
  have e2 : (mkS x).cps.size = x.length := mkS_len x
  rw [e2, e]
  unfold find1 at h1 ⊢
  cases hf : firstAt (isDot x.toArray) x.length (x.length + 1 - d) d with
  | none =>
    rw [hf] at h1
    obtain ⟨N, hN, r⟩ := h1
    exact ⟨N, by omega, r⟩
  | some i =>
    rw [hf] at h1
    obtain ⟨N, hN, r⟩ := h1
    obtain ⟨a, b, _, _⟩ := firstAt_some hf
    exact ⟨⟨N, by omega, r⟩, a, by omega, by omega⟩⟩
end Mine

namespace Mine
open PySem PySem.W PyProof.Rows PySem.F

section
variable {prog : Program} {w : World} {h₀ : B0} {Φ : Nat → List Dv → Option Dv} {ns : List Str} {env : Env} {k : Nat}

theorem ev_sub {x0 : Str} {p : Addr} {code : Array Nat} {r : List Nat} {e1 e2 : Expr} {m : ME} {o : Op} {p0 apos pos : Pos} (g : Glob prog w h₀ env x0 (.ref p)) (P : PatOk h₀.heap p code) (h1 : Ev prog w h₀ Φ ns env k e1 (.const (.str r))) (h2 : Ev prog w h₀ Φ ns env k e2 m)
    (hr : r.length ≤ 2) (h92 : r.contains 92 = false) (hsub : ∀ dx d, o.app [dx] = some d → ∃ x find, dx = .str x ∧ x.length ≤ 100000 ∧ SubOk code x find ∧ d = .str (subL find x r (x.length + 1) 0).flatten)
    (hbase : attributeBase (.Name x0 p0) "sub" env (eval (.Name x0 p0) env) = eval (.Name x0 p0) env) (hs1 : notStar e1 = true := by rfl) (hs2 : notStar e2 = true := by rfl) (hline : (apos.endLine == pos.line) = true := by rfl) :
    Ev prog w h₀ Φ ns env k (.Call (.Attribute (.Name x0 p0) "sub" apos) [e1, e2] [] pos) (.op o (.cons m .nil)) := by
  constructor; intro A s X ρ d hA hB hO V he
  obtain ⟨ds, hds, he⟩ := ev_op_inv he
  obtain ⟨dx, rfl, hx⟩ := ev_cons1 hds
  obtain ⟨x, find, rfl, hlen, F, rfl⟩ := hsub dx d he
  have Ps := P.keep hB.keep
  have hT : ∃ ob, s.heap.get? p = some ob ∧ ob.cls = .type "re.Pattern" ∧ ob.dict = none := by
    obtain ⟨o, _, _, _, _, _, h1, h2, h3, _⟩ := Ps.ex
    exact ⟨o, h1, h2, h3⟩
  obtain ⟨ob, hob, hcls, hdict⟩ := hT
  refine Call_method2 hbase (star_two hs1 hs2) hline (g A s _ _ _ hB ⟨"re.Pattern", _, plainAttrs_pat, slot_pat_sub, type_pat_sub, ⟨ob, hob, hcls⟩, fun b e => by cases e; exact ⟨ob, hob, hdict⟩, ?_⟩)
  refine Calls.callWith_builtin rfl (Calls.evalArgs_plain (Calls.spliced_cons (wpAny_told (h1.run A s X ρ _ hA hB hO V rfl) fun v1 s1 _ ⟨x1, r1⟩ => ?_)))
  refine Calls.spliced_cons (wpAny_told (h2.run A s1 X ρ _ hA (hB.ext x1) (hO.ext x1) (V.ext x1) hx) fun v2 s2 _ ⟨x2, r2⟩ => Calls.spliced_nil ?_)
  obtain ⟨t1, rfl⟩ := r1.str_inv
  obtain ⟨t2, rfl⟩ := r2.str_inv
  exact sub_call F hr hlen h92 (Ps.keep fun b o e => x2.heap b o (x1.heap b o e)) fun t' s' x' ht => ⟨(x1.trans x2).trans x', .str' _ _⟩

theorem ev_eol {x0 : Str} {p : Addr} {e1 e2 : Expr} {m : ME} {p0 apos pos : Pos} (g : Glob prog w h₀ env x0 (.ref p)) (P : PatOk h₀.heap p C2) (h1 : Ev prog w h₀ Φ ns env k e1 (.const (.str [13, 10]))) (h2 : Ev prog w h₀ Φ ns env k e2 m)
    (hbase : attributeBase (.Name x0 p0) "sub" env (eval (.Name x0 p0) env) = eval (.Name x0 p0) env) (hs1 : notStar e1 = true := by rfl) (hs2 : notStar e2 = true := by rfl) (hline : (apos.endLine == pos.line) = true := by rfl) :
    Ev prog w h₀ Φ ns env k (.Call (.Attribute (.Name x0 p0) "sub" apos) [e1, e2] [] pos) (.op .eol (.cons m .nil)) := by
  refine ev_sub (o := .eol) g P h1 h2 (by decide) (by decide) (fun dx d h => ?_) hbase hs1 hs2 hline
  cases dx with
  | str x =>
    rw [op_eol] at h
    split at h
    · rename_i hl
      cases h
      refine ⟨x, _, rfl, hl, sub2_ok x hl, ?_⟩
      rw [sub2_is x (x.length + 1) 0 (by omega) (Nat.zero_le _)]
      rfl
    · cases h
  | _ => cases h
theorem ev_dots {x0 : Str} {p : Addr} {e1 e2 : Expr} {m : ME} {p0 apos pos : Pos} (g : Glob prog w h₀ env x0 (.ref p)) (P : PatOk h₀.heap p C1) (h1 : Ev prog w h₀ Φ ns env k e1 (.const (.str [46, 46]))) (h2 : Ev prog w h₀ Φ ns env k e2 m)
    (hbase : attributeBase (.Name x0 p0) "sub" env (eval (.Name x0 p0) env) = eval (.Name x0 p0) env) (hs1 : notStar e1 = true := by rfl) (hs2 : notStar e2 = true := by rfl) (hline : (apos.endLine == pos.line) = true := by rfl) :
    Ev prog w h₀ Φ ns env k (.Call (.Attribute (.Name x0 p0) "sub" apos) [e1, e2] [] pos) (.op .dots (.cons m .nil)) := by
  refine ev_sub (o := .dots) g P h1 h2 (by decide) (by decide) (fun dx d h => ?_) hbase hs1 hs2 hline
  cases dx with
  | str x =>
    rw [op_dots] at h
    split at h
    · rename_i hl
      cases h
      refine ⟨x, _, rfl, hl, sub1_ok x (by omega), ?_⟩
      rw [sub1_is x (x.length + 1) 0 (by omega) (Nat.zero_le _)]
      rfl
    · cases h
  | _ => cases h
end
end Mine

namespace Mine
open PySem PySem.W PyProof.Rows

/-- `x = x + e`, x a list of the block's own -/
noncomputable def xgrow (Φ : Nat → List Dv → Option Dv) (i : Nat) (m : ME) : XF := fun ρ => match ρ[i]?, ev Φ m ρ with
  | some (.own ds), some (.list es) => if ds.length + es.length ≤ 100000 then some (.next (ρ.set i (.own (ds ++ es)))) else none
  | _, _ => none
/-- `x[e] = e'`, x a list of the block's own -/
noncomputable def xsub (Φ : Nat → List Dv → Option Dv) (i : Nat) (mi me : ME) : XF := fun ρ => match ρ[i]?, ev Φ me ρ, ev Φ mi ρ with
  | some (.own ds), some d, some (.int j) => if 0 ≤ j ∧ j < ds.length ∧ ds.length ≤ 100000 then some (.next (ρ.set i (.own (ds.set j.toNat d)))) else none
  | _, _, _ => none
/-- `x = y = z = e` -/
noncomputable def xall (Φ : Nat → List Dv → Option Dv) (is : List Nat) (m : ME) : XF := fun ρ => (ev Φ m ρ).map fun d => .next (is.foldl (fun ρ i => ρ.set i (.val d)) ρ)

theorem reps_set {h : Heap} {X : Bd} {v : Value} {d : Dv} (j : Nat) {vs : List Value} {ds : List Dv} (q : Reps h X vs ds) (r : Rep h X v d) : Reps h X (vs.set j v) (ds.set j d) := by
  refine q.each (P := fun vs ds => ∀ j, Reps h X (vs.set j v) (ds.set j d)) (fun _ => .nil) (fun p q ih j => ?_) j
  cases j with
  | zero => exact .cons r q
  | succ j => exact .cons p (ih j)

section
variable {prog : Program} {w : World} {h₀ : B0} {Φ : Nat → List Dv → Option Dv} {ns : List Str} {env : Env} {oc : List (Str × Addr)} {k : Nat}
variable {s0 : Shared} {X0 : Bd} {P O : Addr → Prop} {s s' : Shared} {ρ ρ' : List En} {μ μ' : Str → Option Value}

/-- the own list of a name -/
theorem own_var {x : Str} {i : Nat} {ds : List Dv} {a : Addr} (fn : Fn ns env oc) (F : Fst h₀ ns env oc s0 X0 P O s ρ μ) (hi : ns[i]? = some x) (_hρ : ρ[i]? = some (.own ds)) (hμ : μ x = some (.ref a)) : VarIs env s x (.ref a) := by
  rcases fn.stor x (List.mem_of_getElem? hi) with k1 | ⟨k1, c, hc⟩
  · obtain ⟨m2, n2, q2⟩ := F.loc.ns
    exact .inl ⟨k1, m2, n2, (q2 x k1).trans hμ⟩
  · have := F.loc.cell x c hc
    rw [hμ] at this
    exact .inr ⟨.inl k1, c, F.loc.look _ hc, this⟩

/-- an own list has been changed in place -/
theorem Fst.owned {i : Nat} {x : Str} {a : Addr} {ds ds' : List Dv} {vs' : List Value} {n' : Nat} {h2 : Heap} (F : Fst h₀ ns env oc s0 X0 P O s ρ μ) (hi : ns[i]? = some x) (hρ : ρ[i]? = some (.own ds)) (hμ : μ x = some (.ref a)) (hO : O a ∧ ¬ P a)
    (e2 : h2.get? a = some (lstObj vs' n')) (hs2 : Heap.SameBut a s.heap h2) (r : Reps s.heap (Y0 X0 env oc O) vs' ds') :
    Fst h₀ ns env oc s0 X0 P O { s with heap := h2 } (ρ.set i (.own ds')) μ ∧ Stp env oc P O O s { s with heap := h2 } := by
  have m2 : Mv (fun b => b = a) noG s { s with heap := h2 } := mv_one hs2 rfl (Nat.le_refl _)
  have hal : ¬ locs env oc a := F.sep a hO.1
  have hY : ∀ b, b = a → (Y0 X0 env oc O).off b := fun b e => .inr (.inr (e ▸ hO.1))
  have live : ∀ b, (s.heap.get? b).isSome = true → (h2.get? b).isSome = true := fun b hb => by
    obtain ⟨o, e⟩ := Option.isSome_iff_exists.mp hb
    by_cases hl : b = a
    · subst hl; rw [e2]; rfl
    · have := m2.heap b o hl e
      rw [show h2.get? b = some o from this]; rfl
  refine ⟨⟨by rw [List.length_set]; exact F.len, F.loc.keep fun b o hb e => m2.heap b o (fun h => hal (h ▸ hb)) e, fun j y z h1 h2' => ?_, ?_, F.new, F.sep, fun b hb => live b (F.live b hb), F.sub, m2.ext F.ext (fun b e => F.new b (.inr (e ▸ hO.1))) fun _ f => f.elim, F.base, Nat.le_trans F.tok m2.toks, F.old⟩,
    ⟨fun _ h => .inl h, live, m2.mono (fun b e => .inl (.inr (e ▸ hO))) fun _ f => f⟩⟩
  · by_cases hj : j = i
    · subst hj
      have hlt : j < ρ.length := by rw [← F.len]; exact (List.getElem?_eq_some_iff.mp hi).1
      rw [List.getElem?_set_self hlt] at h2'
      cases h2'
      rw [hi] at h1; cases h1
      exact ⟨a, _, n', hμ, hO, e2, m2.reps hY r⟩
    · rw [List.getElem?_set_ne (Ne.symm hj)] at h2'
      have g := F.get j y z h1 h2'
      cases z with
      | no => trivial
      | val d' => obtain ⟨v', e', r'⟩ := g; exact ⟨v', e', m2.rep hY r'⟩
      | own es =>
        obtain ⟨b, vs', n', e', o', g', r'⟩ := g
        refine ⟨b, vs', n', e', o', m2.heap b _ (fun h => ?_) g', m2.reps hY r'⟩
        subst h
        exact hj (F.apart j i y x _ _ _ h1 hi h2' hρ e' hμ)
  · intro p q y z d5 d6 b h1 h2' h3 h4 h5 h6
    have own : ∀ p (es : List Dv), (ρ.set i (En.own ds'))[p]? = some (En.own es) → ∃ ds'', ρ[p]? = some (En.own ds'') := fun p es hp => by
      by_cases hj : p = i
      · exact ⟨_, hj ▸ hρ⟩
      · rw [List.getElem?_set_ne (Ne.symm hj)] at hp; exact ⟨_, hp⟩
    obtain ⟨d3, h3⟩ := own _ _ h3
    obtain ⟨d4, h4⟩ := own _ _ h4
    exact F.apart p q y z _ _ b h1 h2' h3 h4 h5 h6

/-- a new own list is stored -/
theorem put_own' {A : Around} {i : Nat} {x : Str} {a : Addr} {ds : List Dv} {vs : List Value} {n : Nat} (fn : Fn ns env oc) (F : Fst h₀ ns env oc s0 X0 P O s ρ μ) (x1 : Ext s s') (hn : s.heap.get? a = none) (he : s'.heap.get? a = some (lstObj vs n)) (r : Reps s.heap (Y0 X0 env oc O) vs ds) (hi : ns[i]? = some x) {Q : Unit → Shared → Prop} {E : Value → Shared → Prop}
    (hQ : ∀ s'' O', Fst h₀ ns env oc s0 X0 P O' s'' (ρ.set i (.own ds)) (upd μ x (.ref a)) → Stp env oc P O O' s s'' → Q () s'') : wpAny (model prog w) A (storeName env x (.ref a)) Q E s' := by
  have F1 : Fst h₀ ns env oc s0 X0 P (fun b => O b ∨ b = a) s' ρ μ := (F.grow x1 (N := fun b => b = a) (N' := fun _ => False) (fun b e => by subst e; exact ⟨hn, by rw [he]; rfl⟩) fun _ f => f.elim).same (fun b => by simp) fun b => Iff.rfl
  have r1 : Reps s'.heap (Y0 X0 env oc fun b => O b ∨ b = a) vs ds := r.mono (X := Y0 X0 env oc O) (X' := Y0 X0 env oc fun b => O b ∨ b = a) (fun b o n e => ⟨x1.heap b o e, fun h => n (h.elim .inl fun h => .inr (h.elim .inl fun h => .inr (h.elim id fun h => by rw [h, hn] at e; cases e)))⟩) (Nat.le_refl _)
  refine F1.loc.store fn.kind (fn.stor x (List.mem_of_getElem? hi)) fun s2 l m _ => ?_
  obtain ⟨F2, y2⟩ := F1.put fn hi l m (e := .own ds) ⟨a, vs, n, rfl, ⟨.inr rfl, fun hp => by have := F.live a (F.sub a hp); rw [hn] at this; cases this⟩, he, r1⟩ (by
    intro ds a' j y es h1 h2 h3 h4 h5 h6
    cases h2
    have := F.get j y _ h4 h5
    obtain ⟨b, _, _, e, o, _⟩ := this
    rw [h6] at e; cases e
    have := F.live _ o.1; rw [hn] at this; cases this)
  exact hQ s2 _ F2 ((x1.stp fun b h => h.elim .inl fun e => .inr (e ▸ hn)).trans y2)

theorem st_grow {x : Str} {e : Expr} {m : ME} {i : Nat} {p p1 p2 pos : Pos} (fn : Fn ns env oc) (hi : ns[i]? = some x) (h : Ev prog w h₀ Φ ns env k e m) (hd : (x == ("__debug__" : Str)) = false := by rfl) (hc : (x == ("__classdict__" : Str)) = false := by rfl)
    (hs : swapsWith (.BinOp (.Name x p1) .Add e p2) (some (.Name x p)) pos.line env = pure false := by rfl) : St1 prog w h₀ ns env oc k (.Assign [.Name x p] (.BinOp (.Name x p1) .Add e p2) pos) (xgrow Φ i m) := by
  constructor; intro A s0 X0 P O s ρ μ out hA F ho
  simp only [xgrow] at ho
  split at ho
  · rename_i ds es hρ hev
    split at ho
    · rename_i hlen
      cases ho
      obtain ⟨a, vs, n, hμ, hOa, ha, rs⟩ := F.get i x _ hi hρ
      refine wpAny_Assign_Name (wpAny_BinOp (name_is fn.kind (own_var fn F hi hρ hμ) (ev_in fn h hA F hev fun v s1 x1 r => ?_) hd hc)) hs
      obtain ⟨b, us, m', rfl, eb, nb, qb⟩ := r.list_inv
      have l1 := rs.length
      have l2 := qb.length
      refine PySem.P.add_list (x1.heap _ _ ha) eb ?_ (by simp only [List.size_toArray]; show vs.length + us.length ≤ 16777216; omega)
      rw [List.append_toArray]
      refine put_own' fn (F.ext' x1) (.push s1 _ (Nat.le_refl _)) (new_none _) (Heap.get?_push_size _ rfl) ((rs.ext x1).append qb) hi fun s2 O' F2 y2 => ⟨_, O', F2, (x1.stp fun _ h => .inl h).trans y2, pin_upd _ hi⟩
    · cases ho
  · cases ho

theorem st_sub {x : Str} {ei e : Expr} {mi me : ME} {i : Nat} {p1 p2 pos : Pos} (fn : Fn ns env oc) (hi : ns[i]? = some x) (h1 : Ev prog w h₀ Φ ns env k ei mi) (h2 : Ev prog w h₀ Φ ns env k e me) (hd : (x == ("__debug__" : Str)) = false := by rfl) (hc : (x == ("__classdict__" : Str)) = false := by rfl)
    (hs : swapsWith e (some (.Subscript (.Name x p1) ei p2)) pos.line env = pure false := by rfl) : St1 prog w h₀ ns env oc k (.Assign [.Subscript (.Name x p1) ei p2] e pos) (xsub Φ i mi me) := by
  constructor; intro A s0 X0 P O s ρ μ out hA F ho
  simp only [xsub] at ho
  split at ho
  · rename_i ds d j hρ hd' hj
    split at ho
    · rename_i hb
      cases ho
      obtain ⟨a, vs, n, hμ, hOa, ha, rs⟩ := F.get i x _ hi hρ
      refine PySem.wpAny_Assign_Subscript (ev_in fn h2 hA F hd' fun v s1 x1 r => ?_) hs
      have F1 := F.ext' x1
      refine name_is fn.kind (own_var fn F1 hi hρ hμ) (ev_in fn h1 hA F1 hj fun v2 s2 x2 r2 => ?_) hd hc
      obtain ⟨t2, rfl⟩ := r2.int_inv
      have F2 := F1.ext' x2
      have ha2 := x2.heap _ _ (x1.heap _ _ ha)
      have l1 := rs.length
      refine PySem.W.ki_setAt (n := n) (items := vs.toArray) (show s2.heap.get? a = some (listOf vs.toArray n) from ha2) hb.1 (by omega) (by simp only [List.size_toArray]; omega) ?_
      have e : Obj.mapSeq (fun a => a.setIfInBounds j.toNat v) (lstObj vs n) = lstObj (vs.set j.toNat v) n := by
        unfold lstObj Obj.mapSeq
        simp
      have e2 := Heap.get?_update_self (fun o => Obj.mapSeq (fun a => a.setIfInBounds j.toNat v) o) ha2 (by rw [e]; rfl)
      rw [e] at e2
      have rr : Reps s2.heap (Y0 X0 env oc O) (vs.set j.toNat v) (ds.set j.toNat d) := reps_set (j.toNat) ((rs.ext x1).ext x2) (r.ext x2)
      obtain ⟨F3, y3⟩ := F2.owned hi hρ hμ hOa e2 (Heap.SameBut.update ..) rr
      exact ⟨μ, O, F3, ((x1.trans x2).stp fun _ h => .inl h).trans y3, .refl _ _⟩
    · cases ho
  · cases ho

/-- the length of an own list -/
theorem ev_olen {x : Str} {i : Nat} {p p1 pos : Pos} (g : Glob prog w h₀ env "len" (.builtin "len")) (hk : env.scope.kind = .function := by rfl) (hi : ns[i]? = some x := by rfl) (hc : vchk env x = true := by rfl) (hn : nmok x = true := by rfl) :
    Ev prog w h₀ Φ ns env k (.Call (.Name "len" p) [.Name x p1] [] pos) (.olen i) := by
  constructor; intro A s X ρ d hA hB hO V he
  simp only [ev] at he
  split at he
  · rename_i ds hρ
    split at he
    · rename_i hl
      cases he
      obtain ⟨a, vs, n, hv, ea, qa⟩ := V.get i x _ hi hρ (canVar_of hc)
      rw [arm_eval_Call_Name']
      refine wpAny_bind (g A s p _ _ hB ?_)
      have hl' := qa.length
      refine Calls.callWith_builtin rfl (Calls.evalArgs_plain (Calls.spliced_cons (name_is hk hv (Calls.spliced_nil ?_) (nmok_d hn) (nmok_c hn))))
      refine Calls.call_len_list (isL ea) (by simp only [List.size_toArray]; omega) fun ht => ⟨.tk s ht, ?_⟩
      rw [List.size_toArray, hl']; exact .int _ _
    · cases he
  · cases he

/-- one value for several names -/
theorem assign_same {A : Around} {E : Value → Shared → Prop} {v : Value} {d : Dv} (fn : Fn ns env oc) (hfl : ∀ h h' X X', Rep h X v d → Rep h' X' v d) : ∀ (xs : List Str) (is : List Nat) (ts : List (Value → Sem Unit)) {s : Shared} {ρ : List En} {μ : Str → Option Value} {Q : Unit → Shared → Prop},
    (∀ (j : Nat) (t : Value → Sem Unit), ts[j]? = some t → ∃ x, xs[j]? = some x ∧ ∀ v s Q, wpAny (model prog w) A (storeName env x v) Q E s → wpAny (model prog w) A (t v) Q E s) → ts.length = xs.length → xs ≠ [] →
    Fst h₀ ns env oc s0 X0 P O s ρ μ → At ns is xs → Rep s.heap (Y0 X0 env oc O) v d → (∀ s' μ', Fst h₀ ns env oc s0 X0 P O s' (is.foldl (fun ρ i => ρ.set i (.val d)) ρ) μ' → Stp env oc P O O s s' → Pin ns μ μ' → Q () s') → wpAny (model prog w) A (assignAll v ts) Q E s
  | [], _, _, _, _, _, _, _, _, hne, _, _, _, _ => absurd rfl hne
  | x :: xs, is, ts, s, ρ, μ, Q, ht, htl, _, F, a, r, hQ => by
    cases is with
    | nil => have := a.len; simp at this
    | cons i is =>
      cases ts with
      | nil => simp at htl
      | cons t ts =>
        obtain ⟨hi, a'⟩ := a.tail
        obtain ⟨x', hx', htt⟩ := ht 0 t rfl
        cases hx'
        cases ts with
        | nil =>
          have : xs = [] := List.length_eq_zero_iff.mp (by simpa using htl.symm)
          subst this
          have : is = [] := List.length_eq_zero_iff.mp (by simpa using a'.len)
          subst this
          exact htt v s _ (put_val fn F hi r fun s2 F2 y2 _ => hQ s2 _ F2 y2 (pin_upd _ hi))
        | cons t2 ts =>
          refine wpAny_bind (wpAny_holding (htt v s _ (put_val fn F hi r fun s2 F2 y2 _ => ?_)))
          exact assign_same fn hfl xs is (t2 :: ts) (fun j t hj => ht (j + 1) t hj) (by simpa using htl) (by rintro rfl; simp at htl) F2 a' (hfl _ _ _ _ r) fun s3 μ3 F3 y3 q3 => hQ s3 μ3 F3 (y2.trans y3) ((pin_upd _ hi).trans q3)
theorem st_all {ts : List Expr} {e : Expr} {m : ME} {is : List Nat} {xs : List Str} {pos : Pos} (fn : Fn ns env oc) (t : TgtL ts xs) (a : At ns is xs) (hne : xs ≠ []) (h : Ev prog w h₀ Φ ns env k e m) (hfl : ∀ ρ d, ev Φ m ρ = some d → ∃ i, d = .int i)
    (hs : swapsWithSole ts e pos.line env = pure false := by rfl) (hw : swappedStores ts e env = pure none := by rfl) :
    St1 prog w h₀ ns env oc k (.Assign ts e pos) (xall Φ is m) := by
  constructor; intro A s0 X0 P O s ρ μ out hA F ho
  simp only [xall, Option.map_eq_some_iff] at ho
  obtain ⟨d, hd, rfl⟩ := ho
  obtain ⟨i, rfl⟩ := hfl _ _ hd
  have e0 : exec (.Assign ts e pos) env = (do
    standAt pos
    if ← swapsWithSole ts e pos.line env then do
      evalThenUse e env fun v => assignAll v ((assignEach ts env).map (·.2))
      pure .next
    else do
      let v ← eval e env
      assignStores env v (← swappedStores ts e env) ((assignEach ts env).map (·.2))) := rfl
  rw [e0, hs, hw]
  refine wpAny_bind (wpAny_standAt (wpAny_bind (wpAny_pure ?_)))
  rw [if_neg (by decide)]
  refine wpAny_bind (ev_in fn h hA F hd fun v s1 x1 r => ?_)
  refine wpAny_bind (wpAny_pure ?_)
  refine wpAny_bind (assign_same fn (fun h h' X X' r => by obtain ⟨t, rfl⟩ := r.int_inv; exact .int _ _) xs is _ t.stores (by have := (t.len (env := env)).2.1; simpa using this) hne (F.ext' x1) a r fun s2 μ2 F2 y2 q2 => wpAny_pure ⟨μ2, O, F2, (x1.stp fun _ h => .inl h).trans y2, q2⟩)
end
end Mine

namespace Mine
open PySem PySem.W PyProof.Rows

theorem isStr_ne {a b : Str} (h : a ≠ b) : ∀ {v : Value}, v.isStr b = true → v.isStr a = false := by
  intro v hv
  cases v <;> simp [Value.isStr] at hv ⊢
  rintro rfl
  exact h hv
theorem getL_same (a : Str) (hsh : Int) (t : Tok) (v : Value) : ∀ es : List DictEntry, getL a (putL a hsh (.str a t) v es) = some (some v)
  | [] => by
    unfold putL getL
    simp [Value.isStr]
  | e :: r => by
    unfold putL
    cases h : e.key.isStr a with
    | true => unfold getL; simp [List.find?_cons, h]
    | false =>
      have ih := getL_same a hsh t v r
      unfold getL at ih ⊢
      simp only [Bool.false_eq_true, if_false, List.find?_cons, h]
      cases hf : List.find? (fun x => x.key.isStr a) (putL a hsh (.str a t) v r) with
      | none => rw [hf] at ih; simp only at ih; split at ih <;> cases ih
      | some e => rw [hf] at ih; exact ih
theorem getL_other {a b : Str} (hab : a ≠ b) (hsh : Int) (t : Tok) (v : Value) : ∀ es : List DictEntry, getL a (putL b hsh (.str b t) v es) = getL a es := by
  have key : ∀ es : List DictEntry, List.find? (fun x => x.key.isStr a) (putL b hsh (.str b t) v es) = List.find? (fun x => x.key.isStr a) es ∧ (putL b hsh (.str b t) v es).any (·.refKey) = es.any (·.refKey) := by
    intro es
    induction es with
    | nil =>
      have : (Value.str b t).isStr a = false := isStr_ne hab (by simp [Value.isStr])
      constructor
      · simp [putL, this]
      · simp [putL, DictEntry.refKey]
    | cons e r ih =>
      unfold putL
      cases h : e.key.isStr b with
      | true =>
        have h2 := isStr_ne hab h
        simp [h2, DictEntry.refKey]
      | false =>
        simp only [Bool.false_eq_true, if_false, List.find?_cons, List.any_cons]
        rw [ih.1, ih.2]
        exact ⟨rfl, rfl⟩
  intro es
  unfold getL
  rw [(key es).1, (key es).2]

section
variable {prog : Program} {w : World} {h₀ : B0} {Φ : Nat → List Dv → Option Dv} {ns : List Str} {env : Env} {oc : List (Str × Addr)} {k : Nat}
variable {s0 : Shared} {X0 : Bd} {P O : Addr → Prop} {s s' : Shared} {ρ ρ' : List En} {μ μ' : Str → Option Value}

theorem st_then {A : Around} {st : Stmt} {rest : List Stmt} {f : XF} {Q : Flow → Shared → Prop} {E : Value → Shared → Prop} (h : St1 prog w h₀ ns env oc k st f) (hA : Rm k A) (F : Fst h₀ ns env oc s0 X0 P O s ρ μ) (hf : f ρ = some (.next ρ'))
    (hQ : ∀ s' μ' O', Fst h₀ ns env oc s0 X0 P O' s' ρ' μ' → Stp env oc P O O' s s' → Pin ns μ μ' → wpAny (model prog w) A (execs rest env) Q E s') : wpAny (model prog w) A (execs (st :: rest) env) Q E s := by
  refine wpAny_execs_cons (wpAny_mono (h.run A s0 X0 P O s ρ μ _ hA F hf) (fun fl s1 a => ?_) fun _ _ f => f.elim)
  cases fl <;> try exact a.elim
  obtain ⟨μ', O', F', y, q⟩ := a
  exact hQ s1 μ' O' F' y q

/-- a class's own text -/
theorem ev_cattr {K : Frag} {C : Addr} {mc : Value} {cn nm : Str} {v : Value} {dv : Dv} {p pos : Pos} (X : K.In h₀.heap) (g : Glob prog w h₀ env cn (.ref C)) (hr : readsIn K C mc = true) (e : findCls K (.ref C) mc nm = some (.val v)) (hh : handedIn v = true) (hv : ∀ h X, Rep h X v dv)
    (he : eval (.Attribute (.Name cn p) nm pos) env = (do { let o ← eval (.Name cn p) env; standAt pos.atName; let r ← holding [o] (getAttr o nm true); letTemporaryGo (.Name cn p) o r; pure r })) : Ev prog w h₀ Φ ns env k (.Attribute (.Name cn p) nm pos) (.const dv) := by
  constructor; intro A s Y ρ d hA hB hO V hev
  cases hev
  refine Attribute_any_ (g A s _ _ _ hB ?_) he
  have X1 : K.In s.heap := fun a o e => hB.keep _ _ (X a o e)
  exact cls_value X1 hr e hh fun ht => ⟨.tk s (Nat.le_succ _), hv _ _⟩

/-- a field is stored -/
theorem set_field {A : Around} {K : Frag} {C x dx L : Addr} {base : Heap} {es : List DictEntry} {n : Nat} {m : Str → Option Value} {name : Str} {v : Value} {Q : Unit → Shared → Prop} {E : Value → Shared → Prop} (X : K.In base) (hb : ∀ b o, base.get? b = some o → s.heap.get? b = some o) (hL : s.heap.Ns L m) (hab : base.objs.size ≤ L)
    (hx : s.heap.get? x = some (instObj C dx)) (hdx : s.heap.get? dx = some (dictOf es n)) (hbd : base.get? dx = none) (hLd : dx ≠ L) (hs : findIn K (.ref C) "__setattr__" = some (some (.builtin "object.__setattr__"))) (hp : plainOver K C = true) (ht : takerIn K C name = some none) (hh : (clsIn K C).any (·.hasDict) = true)
    (hl : (getL name es).isSome = true) (hz : es.length ≤ 100)
    (h : ∀ h' n', h'.Ns L m → h'.get? dx = some (dictOf (putL name (PyData.keyHash w.params name) (.str name (s.toks + 1)) v es) n') → (∀ b o, b ≠ dx → b ≠ L → s.heap.get? b = some o → h'.get? b = some o) → Q () { s with heap := h', toks := s.toks + 1 + 1 }) :
    wpAny (model prog w) A (setAttr (.ref x) name v) Q E s := by
  have I : InstAt s.heap x (instObj C dx) C (some (dictOf es n)) := ⟨hx, rfl, rfl, hdx⟩
  have Xs : K.In s.heap := fun a o e => hb _ _ (X a o e)
  have F : Fr base L s.heap m := ⟨hL, hb, hab⟩
  let fp : List Addr := (List.range s.heap.objs.size).filter fun b => decide (b ≠ dx) && decide (b ≠ L)
  have hLf : L ∉ fp := fun hm => by
    have := (List.mem_filter.mp hm).2
    simp at this
  have hdf : dx ∉ fp := fun hm => by
    have := (List.mem_filter.mp hm).2
    simp at this
  have N : News base L s.heap ([] ++ (dx, dictOf es n) :: PyProof.Rows.ownOf base fp s.heap) := fun p hp => by
    rcases List.mem_cons.mp hp with rfl | hp
    · exact ⟨hdx, hLd, hbd⟩
    · exact news_ownOf hLf p hp
  have hpost : ∀ p ∈ PyProof.Rows.ownOf base fp s.heap, p.1 ≠ dx := fun p hp e => by
    obtain ⟨b, hb', e'⟩ := List.mem_filterMap.mp hp
    cases hn : base.get? b with
    | some x => simp [hn] at e'
    | none =>
      cases ho : s.heap.get? b with
      | none => simp [hn, ho] at e'
      | some o =>
        have : p = (b, o) := by simpa [hn, ho] using e'.symm
        subst this
        exact hdf (e ▸ hb')
  refine set_plain Xs I hs ?_
  have e1 : Obj.putName name (PyData.keyHash w.params name) (.str name (s.toks + 1)) v (dictOf es n) = dictOf (putL name (PyData.keyHash w.params name) (.str name (s.toks + 1)) v es) (putN name es n) := putName_dict _ _ _ _ _ _
  have hlen : ∀ es : List DictEntry, (putL name (PyData.keyHash w.params name) (.str name (s.toks + 1)) v es).length ≤ es.length + 1 := by
    intro es
    induction es with
    | nil => simp [putL]
    | cons e r ih =>
      unfold putL
      split
      · simp
      · simp only [List.length_cons]; omega
  refine osa_dict (s := { s with toks := s.toks + 1 }) (pre := []) (post := PyProof.Rows.ownOf base fp s.heap) (od' := dictOf (putL name (PyData.keyHash w.params name) (.str name (s.toks + 1)) v es) (putN name es n)) F N Xs I rfl hp ht hh (by rw [lookIn_dict]; exact hl) (by simp) hpost e1 rfl (by have := hlen es; omega) fun h' F' N' => ?_
  refine h h' _ F'.ns (N' _ (.head _)).1 fun b o n1 n2 eo => ?_
  cases hbb : base.get? b with
  | some o' =>
    have := hb b o' hbb
    rw [eo] at this
    cases this
    exact F'.keep b o hbb
  | none => exact (N' (b, o) (.tail _ (mem_ownOf (List.mem_filter.mpr ⟨List.mem_range.mpr (Heap.lt_size eo), by simp [n1, n2]⟩) hbb eo))).1
end
end Mine

namespace Mine
open PySem PySem.W PyProof.Rows

noncomputable def flat : Dv → Bool
  | .none => true | .bool _ => true | .int _ => true | .str _ => true | _ => false
noncomputable def flat1 : Dv → Bool
  | .list ds => ds.all flat
  | d => flat d
noncomputable def flats (ρ : List En) : Bool := ρ.all fun e => match e with | .no => true | .val d => flat1 d | .own _ => false
theorem rep_flat {h h' : Heap} {X X' : Bd} {v : Value} {d : Dv} (hd : flat d = true) (r : Rep h X v d) : Rep h' X' v d := by
  cases d with
  | none => cases r; exact .none
  | bool b => cases r; exact .bool _
  | int i => obtain ⟨t, rfl⟩ := r.int_inv; exact .int _ _
  | str x => obtain ⟨t, rfl⟩ := r.str_inv; exact .str' _ _
  | _ => cases hd
theorem reps_flat1 {h h' : Heap} {X X' : Bd} {vs : List Value} {ds : List Dv} (hd : ds.all flat = true) (r : Reps h X vs ds) : Reps h' X' vs ds := by
  refine r.each (P := fun vs ds => ds.all flat = true → Reps h' X' vs ds) (fun _ => .nil) (fun r _ ih hd => ?_) hd
  rw [List.all_cons, Bool.and_eq_true] at hd
  exact .cons (rep_flat hd.1 r) (ih hd.2)
/-- a plain datum is off a thing and its dict -/
theorem rep_off {h h' : Heap} {X : Bd} {v : Value} {d : Dv} {C x dx : Addr} {es : List DictEntry} {n : Nat} (hd : flat1 d = true) (hx : h.get? x = some (instObj C dx)) (hdx : h.get? dx = some (dictOf es n)) (hk : ∀ b o, ¬ X.off b → b ≠ dx → h.get? b = some o → h'.get? b = some o) (r : Rep h X v d) :
    Rep h' ⟨fun b => X.off b ∨ b = dx ∨ b = x, X.tok⟩ v d := by
  cases d with
  | list ds =>
    obtain ⟨a, vs, n, rfl, ea, na, qa⟩ := r.list_inv
    have n1 : a ≠ dx := fun e => by
      rw [e, hdx] at ea
      have := Option.some.inj ea
      have := congrArg Obj.data this
      cases this
    have n2 : a ≠ x := fun e => by
      rw [e, hx] at ea
      have := Option.some.inj ea
      have := congrArg Obj.data this
      cases this
    exact .list (hk a _ na n1 ea) (fun h => h.elim na fun h => h.elim n1 n2) (reps_flat1 hd qa)
  | none => exact rep_flat hd r
  | bool b => exact rep_flat hd r
  | int i => exact rep_flat hd r
  | str x => exact rep_flat hd r
  | _ => cases hd
theorem RepF.entries {h : Heap} {X : Bd} {es es' : List DictEntry} {fs : List (Nat × Dv)} (hk : ∀ p ∈ fs, getL (fname p.1) es' = getL (fname p.1) es) (r : RepF h X es fs) : RepF h X es' fs := by
  induction fs with
  | nil => exact .nil
  | cons p fs ih =>
    cases r with
    | cons g r q => exact .cons ((hk _ (.head _)).trans g) r (ih (fun p hp => hk p (.tail _ hp)) q)

theorem put_len {a : Str} (hsh : Int) (t : Tok) (v : Value) : ∀ (es : List DictEntry), getL a es = some none → (putL a hsh (.str a t) v es).length = es.length + 1 := by
  have key : ∀ es : List DictEntry, es.find? (·.key.isStr a) = none → (putL a hsh (.str a t) v es).length = es.length + 1 := by
    intro es
    induction es with
    | nil => intro _; rfl
    | cons e r ih =>
      intro h
      rw [List.find?_cons] at h
      unfold putL
      cases hb : e.key.isStr a with
      | true => rw [hb] at h; cases h
      | false =>
        rw [hb] at h
        simp only [Bool.false_eq_true, if_false, List.length_cons]
        rw [ih h]
  intro es h
  refine key es ?_
  unfold getL at h
  cases hf : es.find? (fun x => x.key.isStr a) with
  | none => rfl
  | some e => rw [hf] at h; cases h

section
variable {prog : Program} {w : World} {h₀ : B0} {Φ : Nat → List Dv → Option Dv} {ns : List Str} {env : Env} {k : Nat}
variable {s0 : Shared} {X0 : Bd} {O : Addr → Prop} {s s' : Shared} {ρ ρ' : List En} {μ μ' : Str → Option Value} {C x dx : Addr}

/-- a thing while its first words are said -/
structure Sf (h₀ : B0) (ns : List Str) (env : Env) (s0 : Shared) (X0 : Bd) (O : Addr → Prop) (C x dx : Addr) (s : Shared) (ρ : List En) (μ : Str → Option Value) (fs : List (Nat × Dv)) : Prop where
  F : Fst h₀ ns env [] s0 X0 (fun _ => False) O s ρ μ
  self : μ "self" = some (.ref x)
  no : ("self" : Str) ∉ ns
  loc : env.kindOf "self" = some .local
  inst : s.heap.get? x = some (instObj C dx)
  fields : ∃ es n, s.heap.get? dx = some (dictOf es n) ∧ es.length = fs.length ∧ RepF s.heap ⟨fun b => (Y0 X0 env [] O).off b ∨ b = dx ∨ b = x, X0.tok⟩ es fs ∧ (∀ nm ∈ mnames, getL nm es = some none) ∧ (∀ j, (∀ p ∈ fs, fname p.1 ≠ fname j) → getL (fname j) es = some none)
  nx : s0.heap.get? x = none
  ndx : s0.heap.get? dx = none
  xL : x ≠ env.locals
  dL : dx ≠ env.locals
  xO : ¬ O x
  dO : ¬ O dx
  above : s0.heap.objs.size ≤ env.locals

variable {fs : List (Nat × Dv)}
noncomputable abbrev Xs (X0 : Bd) (env : Env) (O : Addr → Prop) (x dx : Addr) : Bd := ⟨fun b => (Y0 X0 env [] O).off b ∨ b = dx ∨ b = x, X0.tok⟩
theorem Sf.vars (fn : Fn ns env []) (S : Sf h₀ ns env s0 X0 O C x dx s ρ μ fs) (hf : flats ρ = true) : Vars env s (Xs X0 env O x dx) ns ρ := by
  obtain ⟨es, n, hd, _⟩ := S.fields
  have V := S.F.vars fn
  refine ⟨V.len, fun i y e h1 h2 h3 => ?_⟩
  have g := V.get i y e h1 h2 h3
  have he := List.all_eq_true.mp hf e (List.mem_of_getElem? h2)
  cases e with
  | no => trivial
  | val d =>
    obtain ⟨v, hv, r⟩ := g
    exact ⟨v, hv, rep_off he S.inst hd (fun b o _ _ e => e) r⟩
  | own ds => cases he
theorem Sf.oldX (S : Sf h₀ ns env s0 X0 O C x dx s ρ μ fs) : Old (Xs X0 env O x dx) s := by
  obtain ⟨es, n, hd, _⟩ := S.fields
  refine ⟨fun b hb => ?_, S.F.oldY.tok⟩
  rcases hb with hb | rfl | rfl
  · exact S.F.oldY.at_ b hb
  · rw [hd]; rfl
  · rw [S.inst]; rfl
/-- the statements between -/
theorem Sf.next {O' : Addr → Prop} (S : Sf h₀ ns env s0 X0 O C x dx s ρ μ fs) (F' : Fst h₀ ns env [] s0 X0 (fun _ => False) O' s' ρ' μ') (y : Stp env [] (fun _ => False) O O' s s') (q : Pin ns μ μ') : Sf h₀ ns env s0 X0 O' C x dx s' ρ' μ' fs := by
  obtain ⟨es, n, hd, hl, rf, hm, hj⟩ := S.fields
  have kp : ∀ b o, ¬ (Y0 X0 env [] O).off b → s.heap.get? b = some o → s'.heap.get? b = some o := fun b o nb e => y.mv.heap b o (fun h => by
    rcases h with (h | h) | h
    · exact nb (.inr (.inl h))
    · exact nb (.inr (.inr h.1))
    · rw [h] at e; cases e) e
  have off : ∀ b, (s.heap.get? b).isSome = true → O' b → O b := fun b hb h => (y.off b h).elim id fun e => by rw [e] at hb; cases hb
  have nX : ∀ b, s0.heap.get? b = none → b ≠ env.locals → ¬ O b → ¬ (Y0 X0 env [] O).off b := fun b h1 h2 h3 h => by
    rcases h with h | h | h
    · have := S.F.old.at_ b h; rw [h1] at this; cases this
    · exact h2 (locs_nil.mp h)
    · exact h3 h
  have cv : ∀ b o, s.heap.get? b = some o → (Xs X0 env O' x dx).off b → (Xs X0 env O x dx).off b := fun b o e h => by
    rcases h with (h | h | h) | h
    · exact Or.inl (Or.inl h)
    · exact Or.inl (Or.inr (Or.inl h))
    · exact Or.inl (Or.inr (Or.inr (off b (by rw [e]; rfl) h)))
    · exact Or.inr h
  have ex := kp x _ (nX x S.nx S.xL S.xO) S.inst
  have ed := kp dx _ (nX dx S.ndx S.dL S.dO) hd
  refine ⟨F', (q _ S.no).trans S.self, S.no, S.loc, ex, ⟨es, n, ed, hl, rf.mono (X := Xs X0 env O x dx) (X' := Xs X0 env O' x dx) (fun b o nb e => ⟨kp b o (fun h => nb (Or.inl h)) e, fun h => nb (cv b o e h)⟩) (Nat.le_refl _), hm, hj⟩, S.nx, S.ndx, S.xL, S.dL, fun h => S.xO (off x (by rw [S.inst]; rfl) h), fun h => S.dO (off dx (by rw [hd]; rfl) h), S.above⟩
theorem Sf.done (S : Sf h₀ ns env s0 X0 O C x dx s ρ μ fs) : Rep s.heap X0 (.ref x) (.obj C fs) := by
  obtain ⟨es, n, hd, hl, rf, hm, hj⟩ := S.fields
  exact .obj S.inst (S.F.old.off S.nx) hd (S.F.old.off S.ndx) (rf.mono (X := Xs X0 env O x dx) (X' := X0) (fun b o nb e => ⟨e, fun h => nb (Or.inl (Or.inl h))⟩) (Nat.le_refl _)) hm

/-- `self.f = e` -/
theorem Sf.set {A : Around} {K : Frag} {j : Nat} {e : Expr} {m : ME} {d : Dv} {p p' pos : Pos} (fn : Fn ns env []) (S : Sf h₀ ns env s0 X0 O C x dx s ρ μ fs) (X : K.In h₀.heap) (hs : findIn K (.ref C) "__setattr__" = some (some (.builtin "object.__setattr__"))) (hp : plainOver K C = true) (ht : takerIn K C (fname j) = some none) (hh : (clsIn K C).any (·.hasDict) = true)
    (hA : Rm k A) (hev : Ev prog w h₀ Φ ns env k e m) (hd : ev Φ m ρ = some d) (hf : flats ρ = true) (hj : ∀ p ∈ fs, fname p.1 ≠ fname j) (hlen : fs.length ≤ 10) (hmn : ∀ nm ∈ mnames, nm ≠ fname j)
    (hsw : swapsWith e (some (.Attribute (.Name "self" p) (fname j) p')) pos.line env = pure false := by rfl) :
    wpAny (model prog w) A (exec (.Assign [.Attribute (.Name "self" p) (fname j) p'] e pos) env) (fun f s' => f = .next ∧ Sf h₀ ns env s0 X0 O C x dx s' ρ μ ((j, d) :: fs)) (fun _ _ => False) s := by
  obtain ⟨es, n, hdx, hl, rf, hm, hn⟩ := S.fields
  refine plainObj_wpAny_Assign_Attribute (wpAny_told (hev.run A s (Xs X0 env O x dx) ρ d hA S.F.bs S.oldX (S.vars fn hf) hd) fun v s1 _ ⟨x1, r1⟩ => ?_) hsw
  obtain ⟨m0, nn, hm0⟩ := S.F.loc.ns
  have vi : VarIs env s1 "self" (.ref x) := .inl ⟨S.loc, m0, nn.keeps x1.heap, (hm0 _ S.loc).trans S.self⟩
  refine name_is fn.kind vi ?_ (by decide +kernel) (by decide +kernel)
  have F1 := S.F.ext' x1
  have Xb : K.In s0.heap := fun a o e => S.F.base _ _ (X a o e)
  refine set_field (L := env.locals) (base := s0.heap) Xb F1.ext.heap (nn.keeps x1.heap) S.above (x1.heap _ _ S.inst) (x1.heap _ _ hdx) S.ndx S.dL hs hp ht hh (by rw [hn j hj]; rfl) (by omega) fun h' n' hL' hdx' hk' => ⟨rfl, ?_⟩
  have xdx : x ≠ dx := fun e => by
    have := S.inst
    rw [e, hdx] at this
    have := congrArg Obj.data (Option.some.inj this)
    cases this
  have lo : ∀ b, locs env [] b ↔ b = env.locals := fun b => locs_nil
  have kY : ∀ b o, ¬ (Y0 X0 env [] O).off b → b ≠ dx → s1.heap.get? b = some o → h'.get? b = some o := fun b o nb nd e => hk' b o nd (fun h => nb (.inr (.inl ((lo b).mpr h)))) e
  have live1 : ∀ b, (s.heap.get? b).isSome = true → (s1.heap.get? b).isSome = true := fun b hb => by
    obtain ⟨o, e⟩ := Option.isSome_iff_exists.mp hb
    rw [x1.heap b o e]; rfl
  have F2 : Fst h₀ ns env [] s0 X0 (fun _ => False) O { s1 with heap := h', toks := s1.toks + 1 + 1 } ρ μ :=
    { len := F1.len
      loc := ⟨⟨m0, hL', hm0⟩, by simp, .nil, by simp, by simp, by simp⟩
      get := fun i y en h1 h2 => by
        have he := List.all_eq_true.mp hf en (List.mem_of_getElem? h2)
        have g := F1.get i y en h1 h2
        cases en with
        | no => trivial
        | val d =>
          obtain ⟨v, hv, r⟩ := g
          exact ⟨v, hv, (rep_off he (x1.heap _ _ S.inst) (x1.heap _ _ hdx) kY r).mono (X := Xs X0 env O x dx) (X' := Y0 X0 env [] O) (fun b o nb e => ⟨e, fun h => nb (Or.inl h)⟩) (Nat.le_refl _)⟩
        | own ds => cases he
      apart := fun i j' y z ds es' a _ _ h3 => by
        have := List.all_eq_true.mp hf _ (List.mem_of_getElem? h3)
        cases this
      new := F1.new
      sep := F1.sep
      live := fun b hb => by
        obtain ⟨o, e⟩ := Option.isSome_iff_exists.mp (F1.live b hb)
        rw [show h'.get? b = some o from hk' b o (fun h => S.dO (h ▸ hb)) (fun h => F1.sep b hb ((lo b).mpr h)) e]; rfl
      sub := fun _ f => f.elim
      ext := ⟨fun b o e => hk' b o (fun h => by rw [h, S.ndx] at e; cases e) (fun h => by rw [h, F1.new _ (.inl ((lo _).mpr rfl))] at e; cases e) (F1.ext.heap b o e), F1.ext.gens, F1.ext.bare, F1.ext.os, Nat.le_trans F1.ext.toks (Nat.le_succ_of_le (Nat.le_succ _))⟩
      base := F1.base
      tok := Nat.le_trans F1.tok (Nat.le_succ_of_le (Nat.le_succ _))
      old := F1.old }
  have kX : ∀ b o, ¬ (Xs X0 env O x dx).off b → s1.heap.get? b = some o → h'.get? b = some o ∧ ¬ (Xs X0 env O x dx).off b := fun b o nb e => ⟨kY b o (fun h => nb (Or.inl h)) (fun h => nb (Or.inr (Or.inl h))) e, nb⟩
  refine ⟨F2, S.self, S.no, S.loc, hk' x _ xdx S.xL (x1.heap _ _ S.inst), ⟨_, n', hdx', ?_, ?_, fun nm hnm => ?_, fun j' hj' => ?_⟩, S.nx, S.ndx, S.xL, S.dL, S.xO, S.dO, S.above⟩
  · rw [List.length_cons, ← hl]
    exact put_len _ _ _ _ (hn j hj)
  · refine .cons (getL_same _ _ _ _ _) (r1.mono kX (Nat.le_refl _)) ((rf.mono (X' := Xs X0 env O x dx) (fun b o nb e => kX b o nb (x1.heap b o e)) (Nat.le_refl _)).entries fun q hq => getL_other (hj q hq) _ _ _ _)
  · rw [getL_other (hmn nm hnm)]; exact hm nm hnm
  · rw [getL_other (fun h => hj' (j, d) (.head _) h.symm)]
    exact hn j' fun q hq => hj' q (.tail _ hq)
end
end Mine

namespace Mine
local macro_rules | `(tactic| omega) => `(tactic| lia)
open PySem PySem.W PyProof.Rows

noncomputable def wns : List Str := ["ws", "S", "T", "count", "b", "n", "nt", "ch"]
noncomputable def mnorm : ME := .op .tup (.cons (.op (.fn .tuple) (.cons (.var 3) .nil)) (.cons (.var 4) .nil))
noncomputable def msimple : ME := .op (.cmp .le) (.cons (.op (.fn .len) (.cons (.var 3) .nil)) (.cons (.const (.int 1)) .nil))
/-- what the class makes of a text -/
noncomputable def xmake (Φ : Nat → List Dv → Option Dv) (f2 f3 f4 fb : XF) (C : Addr) : List Dv → Option Dv := fun ds => match ds with
  | [.str x] => if x.length ≤ 100000 then (match xseq f2 (xseq f3 f4) (.val (.str x) :: List.replicate 7 .no) with
    | some (.next ρ4) => (match xloop 0 [7] fb (x.map fun c => .str [c]) ρ4 with
      | some (.next ρ5) => if flats (free 3 ρ5) then (match ev Φ (.var 5) (free 3 ρ5), ev Φ (.var 6) (free 3 ρ5), ev Φ mnorm (free 3 ρ5), ev Φ msimple (free 3 ρ5) with
        | some a, some b, some c, some d => some (.obj C [(4, d), (3, c), (2, b), (1, a), (0, .str x)])
        | _, _, _, _ => none) else none
      | _ => none)
    | _ => none) else none
  | _ => none

theorem rm_new {k : Nat} {A : Around} {C : Addr} {rest : List Value} {kw : List (Str × Value)} (r : Rm (k + 1) A) : Rm k (A.under (.builtin "type.__call__" ⟨.ref C :: rest, kw⟩)) := by
  have hw : (Code.builtin "type.__call__" ⟨.ref C :: rest, kw⟩).weight ≤ 2 := by
    have : (Code.builtin "type.__call__" ⟨.ref C :: rest, kw⟩).weight = 0 + (if (Code.builtin "type.__call__" ⟨.ref C :: rest, kw⟩).isCreation then 1 else 0) + (if (Code.builtin "type.__call__" ⟨.ref C :: rest, kw⟩).isGuard then 1 else 0) + 0 := rfl
    rw [this]
    split <;> split <;> omega
  have hu : (Code.builtin "type.__call__" ⟨.ref C :: rest, kw⟩).cUnits = 1 := rfl
  refine ⟨r.handled, ?_, ?_⟩
  · have := r.depth
    show A.depth + (Code.builtin "type.__call__" ⟨.ref C :: rest, kw⟩).weight + 10 * k ≤ 880
    omega
  · have := r.units
    show A.units + (Code.builtin "type.__call__" ⟨.ref C :: rest, kw⟩).cUnits + 100 * k ≤ 9700
    omega

structure WsOk (K : Frag) (C fI : Addr) : Prop where
  makes : makesIn K C = true
  init : findIn K (.ref C) "__init__" = some (some (.ref fI))
  fn : typeIn K (.ref fI) = some (.type "function")
  seta : findIn K (.ref C) "__setattr__" = some (some (.builtin "object.__setattr__"))
  plain : plainOver K C = true
  takes : ∀ j, takerIn K C (fname j) = some none
  has : (clsIn K C).any (·.hasDict) = true
  geta : findIn K (.ref C) "__getattribute__" = some (some (.builtin "object.__getattribute__"))
  cd : ∃ cd, clsIn K C = some cd ∧ cd.hasDict = true
  raw : findIn K (.ref C) (fname 0) = some none

noncomputable def initBody (q : Nat → Pos) (kd : Nat) (s2 s3 s4 : Stmt) (lb : List Stmt) : List Stmt :=
  [.Assign [.Attribute (.Name "self" (q 1)) "raw" (q 2)] (.Name "ws" (q 3)) (q 4), s2, s3, s4, .For (.Name "ch" (q 5)) (.Attribute (.Name "self" (q 6)) "raw" (q 7)) lb [] (q 8),
   .Assign [.Attribute (.Name "self" (q 9)) "n" (q 10)] (.Name "n" (q 11)) (q 12), .Assign [.Attribute (.Name "self" (q 13)) "nt" (q 14)] (.Name "nt" (q 15)) (q 16),
   .Assign [.Attribute (.Name "self" (q 17)) "norm" (q 18)] (.Tuple [.Call (.Name "tuple" (q 19)) [.Name "count" (q 20)] [] (q 21), .Name "b" (q 22)] kd (q 23)) (q 24),
   .Assign [.Attribute (.Name "self" (q 25)) "is_simple" (q 26)] (.Compare (.Call (.Name "len" (q 27)) [.Name "count" (q 28)] [] (q 29)) [.LtE] [.Constant (.int 1) 0 (q 30)] (q 31)) (q 32)]

theorem xseq_next {g f : XF} {ρ ρ' : List En} (h : xseq g f ρ = some (.next ρ')) : ∃ ρ1, g ρ = some (.next ρ1) ∧ f ρ1 = some (.next ρ') := by
  unfold xseq at h
  obtain ⟨o, ho, h⟩ := Option.bind_eq_some_iff.mp h
  cases o with
  | next ρ1 => exact ⟨ρ1, ho, h⟩
  | brk _ => cases h
  | ret _ => cases h

section
variable {prog : Program} {w : World} {h₀ : B0} {Φ : Nat → List Dv → Option Dv} {k : Nat}

theorem init_run {K : Frag} {C fI x dx : Addr} {env : Env} {q : Nat → Pos} {kd : Nat} {s2 s3 s4 : Stmt} {lb : List Stmt} {f2 f3 f4 fb : XF} {A : Around} {s0 s : Shared} {X0 : Bd} {O : Addr → Prop} {μ : Str → Option Value} {xs : List Nat} {d : Dv}
    (X : K.In h₀.heap) (W : WsOk K C fI) (hA : Rm k A) (fn : Fn wns env []) (gt : Glob prog w h₀ env "tuple" (.type "tuple")) (gl : Glob prog w h₀ env "len" (.builtin "len"))
    (h2 : St1 prog w h₀ wns env [] k s2 f2) (h3 : St1 prog w h₀ wns env [] k s3 f3) (h4 : St1 prog w h₀ wns env [] k s4 f4) (h5 : Ex prog w h₀ wns env [] k lb fb)
    (he : ∀ p pos : Pos, eval (.Attribute (.Name "self" p) "raw" pos) env = (do { let o ← eval (.Name "self" p) env; standAt pos.atName; let r ← holding [o] (getAttr o "raw" true); letTemporaryGo (.Name "self" p) o r; pure r }))
    (S : Sf h₀ wns env s0 X0 O C x dx s (.val (.str xs) :: List.replicate 7 .no) μ []) (hd : xmake Φ f2 f3 f4 fb C [.str xs] = some d) :
    wpAny (model prog w) A (execs (initBody q kd s2 s3 s4 lb) env) (fun fl s' => fl = .next ∧ Ext s0 s' ∧ Rep s'.heap X0 (.ref x) d) (fun _ _ => False) s := by
  have vc : ∀ y ∈ wns, vchk env y = true := fun y hy => by
    have := fn.stor y hy
    unfold storable at this
    unfold vchk
    rcases this with h | ⟨h, _⟩ <;> rw [h]
  unfold xmake at hd
  simp only at hd
  split at hd
  · rename_i hxl
    split at hd
    · rename_i ρ4 hr4
      split at hd
      · rename_i ρ5 hr5
        split at hd
        · rename_i hfl
          split at hd
          · rename_i a b c e ha hb hc hde
            cases hd
            obtain ⟨ρ2, e2, hr4⟩ := xseq_next hr4
            obtain ⟨ρ3, e3, e4⟩ := xseq_next hr4
            have hm : ∀ j, ∀ nm ∈ mnames, nm ≠ fname j := fun j nm hnm => by
              simp only [mnames, List.mem_cons, List.not_mem_nil, or_false] at hnm
              rcases hnm with rfl | rfl <;> (unfold fname; split <;> decide +kernel)
            unfold initBody
            refine wpAny_execs_cons (wpAny_mono (S.set (Φ := Φ) (j := 0) (m := .var 0) (d := .str xs) fn X W.seta W.plain (W.takes 0) W.has hA (ev_v 0 (hk := fn.kind) (hi := rfl) (hc := vc _ (by simp [wns]))) rfl (by simp [flats, flat1, flat, List.replicate]) (by simp) (by simp) (hm 0)) (fun fl s1 h1 => ?_) fun _ _ f => f.elim)
            obtain ⟨rfl, S1⟩ := h1
            refine st_then h2 hA S1.F e2 fun t2 μ2 O2 F2 y2 q2 => ?_
            have S2 := S1.next F2 y2 q2
            refine st_then h3 hA S2.F e3 fun t3 μ3 O3 F3 y3 q3 => ?_
            have S3 := S2.next F3 y3 q3
            refine st_then h4 hA S3.F e4 fun t4 μ4 O4 F4 y4 q4 => ?_
            have S4 := S3.next F4 y4 q4
            refine wpAny_execs_cons (wpAny_mono (for_core (n := 0) (xs := ["ch"]) (is := [7]) (ds := xs.map fun c => .str [c]) fn .name rfl (nodupB_ok rfl) hA S4.F ?_ h5 hr5 (by intro _; rfl)) (fun fl s5 h6 => ?_) fun _ _ f => f.elim)
            · obtain ⟨es, n, hdx, _, rf, _, _⟩ := S4.fields
              obtain ⟨v0, hv0, rv0⟩ := repF_get (j := 0) (d := .str xs) rf rfl
              obtain ⟨m0, nn, hm0⟩ := S4.F.loc.ns
              have vi : VarIs env t4 "self" (.ref x) := .inl ⟨S4.loc, m0, nn, (hm0 _ S4.loc).trans S4.self⟩
              refine Attribute_any_ (name_is fn.kind vi ?_ (by decide +kernel) (by decide +kernel)) (he _ _)
              obtain ⟨cd, hcd, hcdd⟩ := W.cd
              have X1 : K.In t4.heap := fun a o e => S4.F.bs.keep _ _ (X a o e)
              refine get_value X1 (ox := instObj C dx) (od := some (dictOf es n)) ⟨S4.inst, rfl, rfl, hdx⟩ W.geta ?_ (rep_handed rv0) ?_
              · unfold findObj
                rw [hcd, show findIn K (.ref C) "raw" = some none from W.raw]
                show (PySem.W.ownOf cd (some (dictOf es n)) (fname 0)).bind _ = _
                unfold PySem.W.ownOf
                rw [hcdd, if_pos rfl]
                show (lookIn (fname 0) (dictOf es n)).bind _ = _
                rw [lookIn_dict, hv0]
                rfl
              · exact iter_told hA S4.F.oldY (.tk t4 (Nat.le_succ _)) (Rep.sub (X := Xs X0 env O4 x dx) (X' := Y0 X0 env [] O4) (fun b h => Or.inl h) (Nat.le_refl _) rv0) (by show (if xs.length ≤ 100000 then _ else _) = _; rw [if_pos hxl])
            · cases fl <;> try exact h6.elim
              obtain ⟨μ5, O5, F5, y5, q5⟩ := h6
              have S5 := S4.next F5 y5 q5
              obtain ⟨O6, F6, hO6⟩ := S5.F.freed fn 3
              have S6 := S5.next F6 ((Ext.refl s5).stp fun b h => .inl (hO6 b h)) (.refl _ _)
              refine wpAny_execs_cons (wpAny_mono (S6.set (Φ := Φ) (j := 1) (m := .var 5) (d := a) fn X W.seta W.plain (W.takes 1) W.has hA (ev_v 5 (hk := fn.kind) (hi := rfl) (hc := vc _ (by simp [wns]))) ha hfl ?_ (by simp) (hm 1)) (fun fl s7 h7 => ?_) fun _ _ f => f.elim)
              · intro p hp; simp only [List.mem_singleton] at hp; subst hp; dsimp only; decide +kernel
              obtain ⟨rfl, S7⟩ := h7
              refine wpAny_execs_cons (wpAny_mono (S7.set (Φ := Φ) (j := 2) (m := .var 6) (d := b) fn X W.seta W.plain (W.takes 2) W.has hA (ev_v 6 (hk := fn.kind) (hi := rfl) (hc := vc _ (by simp [wns]))) hb hfl ?_ (by simp) (hm 2)) (fun fl s8 h8 => ?_) fun _ _ f => f.elim)
              · intro p hp; simp only [List.mem_cons, List.not_mem_nil, or_false] at hp; rcases hp with rfl | rfl <;> (dsimp only; decide +kernel)
              obtain ⟨rfl, S8⟩ := h8
              have evc : Ev prog w h₀ Φ wns env k (.Name "count" (q 20)) (.var 3) := ev_v 3 (hk := fn.kind) (hi := rfl) (hc := vc _ (by simp [wns]))
              have evc2 : Ev prog w h₀ Φ wns env k (.Name "count" (q 28)) (.var 3) := ev_v 3 (hk := fn.kind) (hi := rfl) (hc := vc _ (by simp [wns]))
              refine wpAny_execs_cons (wpAny_mono (S8.set (Φ := Φ) (j := 3) (m := mnorm) (d := c) fn X W.seta W.plain (W.takes 3) W.has hA (ev_tup' 2 (evs_cons (ev_fn (o := .tuple) gt (evs_cons evc evs_nil)) (evs_cons (ev_v 4 (hk := fn.kind) (hi := rfl) (hc := vc _ (by simp [wns]))) evs_nil)) (by rfl) (by decide)) hc hfl ?_ (by simp) (hm 3)) (fun fl s9 h9 => ?_) fun _ _ f => f.elim)
              · intro p hp; simp only [List.mem_cons, List.not_mem_nil, or_false] at hp; rcases hp with rfl | rfl | rfl <;> (dsimp only; decide +kernel)
              obtain ⟨rfl, S9⟩ := h9
              refine wpAny_execs_cons (wpAny_mono (S9.set (Φ := Φ) (j := 4) (m := msimple) (d := e) fn X W.seta W.plain (W.takes 4) W.has hA (ev_cmp (o := .le) (ev_fn (o := .len) gl (evs_cons evc2 evs_nil)) ev_const_int) hde hfl ?_ (by simp) (hm 4)) (fun fl s10 h10 => ?_) fun _ _ f => f.elim)
              · intro p hp; simp only [List.mem_cons, List.not_mem_nil, or_false] at hp; rcases hp with rfl | rfl | rfl | rfl <;> (dsimp only; decide +kernel)
              obtain ⟨rfl, S10⟩ := h10
              exact wpAny_execs_nil ⟨rfl, S10.F.ext, S10.done⟩
          · cases hd
        · cases hd
      · cases hd
    · cases hd
  · cases hd

theorem make_con {K : Frag} {C fI : Addr} {fd : FuncData} {q : Nat → Pos} {kd : Nat} {s2 s3 s4 : Stmt} {lb : List Stmt} {f2 f3 f4 fb : XF} (X : K.In h₀.heap) (W : WsOk K C fI) (ok : FnOk h₀.heap fI fd)
    (gt : Gl h₀.heap "tuple" (.type "tuple")) (gl : Gl h₀.heap "len" (.builtin "len"))
    (h2 : ∀ Cx, Fn wns (callEnvC fd Cx fI) [] → EnvK (callEnvC fd Cx fI) → St1 prog w ⟨h₀.heap, 0⟩ wns (callEnvC fd Cx fI) [] k s2 f2) (h3 : ∀ Cx, Fn wns (callEnvC fd Cx fI) [] → EnvK (callEnvC fd Cx fI) → St1 prog w ⟨h₀.heap, 0⟩ wns (callEnvC fd Cx fI) [] k s3 f3)
    (h4 : ∀ Cx, Fn wns (callEnvC fd Cx fI) [] → EnvK (callEnvC fd Cx fI) → St1 prog w ⟨h₀.heap, 0⟩ wns (callEnvC fd Cx fI) [] k s4 f4) (h5 : ∀ Cx, Fn wns (callEnvC fd Cx fI) [] → EnvK (callEnvC fd Cx fI) → Ex prog w ⟨h₀.heap, 0⟩ wns (callEnvC fd Cx fI) [] k lb fb)
    (hbind : ∀ u v : Value, bindArgs fd ⟨[u, v], []⟩ = pure [(("self" : Str), u), (("ws" : Str), v)])
    (hbody : fd.body = .stmts (initBody q kd s2 s3 s4 lb) := by rfl) (hclo : fd.closure = [] := by rfl) (hk : fd.scope.kind = .function := by rfl) (hco : fd.scope.isCoroutine = false := by rfl) (hgen : fd.scope.isGenerator = false := by rfl)
    (hc : fnChk ["self"] wns fd.scope.names = true := by rfl) (hl : (("self" : Str) :: wns).all (fun x => match fd.scope.names.lookup x with | some .local => true | _ => false) = true := by rfl) (hoc : ∀ n, cellsFrom n fd.scope.names [] = [] := by intro _; rfl)
    (hg : fd.globals = mainGlobals := by rfl) (hb : fd.builtins = builtinsNs := by rfl) (hx1 : fd.scope.names.lookup ("tuple" : Str) = some .globalImplicit := by rfl) (hx2 : fd.scope.names.lookup ("len" : Str) = some .globalImplicit := by rfl)
    (he : ∀ (Cx : Addr) (p pos : Pos), eval (.Attribute (.Name "self" p) "raw" pos) (callEnvC fd Cx fI) = (do { let o ← eval (.Name "self" p) (callEnvC fd Cx fI); standAt pos.atName; let r ← holding [o] (getAttr o "raw" true); letTemporaryGo (.Name "self" p) o r; pure r }) := by intro _ _ _; with_unfolding_all rfl) :
    Con prog w h₀ (.ref C) (k + 2) (xmake Φ f2 f3 f4 fb C) := by
  unfold fnChk at hc
  simp only [Bool.and_eq_true, List.all_eq_true, Bool.not_eq_true'] at hc
  obtain ⟨⟨⟨c1, c2⟩, c3⟩, c4⟩ := hc
  have honce : once fd.scope.names := nodupB_ok c1
  intro A s X0 vs ds d hA hB hO r hd
  obtain ⟨xs, v, rfl, rfl, rv⟩ : ∃ xs v, ds = [.str xs] ∧ vs = [v] ∧ Rep s.heap X0 v (.str xs) := by
    unfold xmake at hd
    split at hd
    · rename_i xs
      cases r with | cons r q => cases q; exact ⟨xs, _, rfl, rfl, r⟩
    · cases hd
  have Xs1 : K.In s.heap := fun a o e => hB.keep _ _ (X a o e)
  refine wpAny_call ?_
  refine make_core (h := s.heap) (g := s.gens) (d := s.drawn) (t := s.toks) (os := s.os) (makes_of Xs1 W.makes) (looks_findIn Xs1 W.init) (fun self => bind_fn Xs1 self W.fn) (.inl rfl) ?_
  generalize hs1 : ({ heap := (s.heap.push emptyDict).push (instObj C s.heap.objs.size), gens := s.gens, drawn := s.drawn, toks := s.toks, os := s.os } : Shared) = s1
  have h1 : s1.heap = (s.heap.push emptyDict).push (instObj C s.heap.objs.size) := by rw [← hs1]
  have x1 : Ext s s1 := by
    have : Ext s { s with heap := s1.heap } := .heap' (t := s.toks) (fun b o e => by rw [h1]; exact Heap.get?_push_of_some _ (Heap.get?_push_of_some _ e)) (Nat.le_refl _)
    rw [← hs1] at this ⊢; exact this
  have hz : (s.heap.push emptyDict).objs.size = s.heap.objs.size + 1 := Heap.size_push ..
  have ix : s1.heap.get? (s.heap.objs.size + 1) = some (instObj C s.heap.objs.size) := by
    rw [h1, ← hz]; exact Heap.get?_push_size _ rfl
  have id' : s1.heap.get? s.heap.objs.size = some (dictOf [] 0) := by
    rw [h1]; exact Heap.get?_push_of_some _ (Heap.get?_push_size _ rfl)
  have hz1 : s1.heap.objs.size = s.heap.objs.size + 2 := by rw [h1, Heap.size_push, hz]
  obtain ⟨o, ho, hdata⟩ := ok.obj
  have hA1 : Rm (k + 1) (A.under (.builtin "type.__call__" ⟨.ref C :: [v], []⟩)) := rm_new hA
  refine codeAny_call_function hA1.room (x1.heap _ _ (hB.keep _ _ ho)) hdata hco hgen hbody ((ok.code.keeps hB.keep).keeps x1.heap) ?_
  rw [show bindArgs fd ⟨[.ref (s.heap.objs.size + 1), v], []⟩ = _ from hbind _ _, hclo]
  refine wpAny_pure (wpAny_with_toks (n := s1.toks) (Nat.le_refl _) ?_)
  simp only [newFunctionEnv, Option.isSome_none, Bool.false_eq_true, if_false]
  refine wpAny_bind (wpAny_alloc ?_)
  refine wpAny_bind (wpAny_layCells _ (fun name kind cells => by cases hkc : kind == NameKind.cell <;> simp [hkc]) _ _ _ _ ?_)
  rw [show ({ s1 with heap := s1.heap.push { cls := .type "frame", data := .dict #[] } } : Shared).heap.objs.size = s1.heap.objs.size + 1 from Heap.size_push ..]
  have hloc : ∀ y ∈ (("self" : Str) :: wns), (callEnvC fd s1.heap.objs.size fI).kindOf y = some .local := fun y hy => by
    rw [List.all_eq_true] at hl
    have := hl y hy
    split at this
    · assumption
    · cases this
  have fn : Fn wns (callEnvC fd s1.heap.objs.size fI) [] := ⟨hk, by
    have := nodupB_ok c2
    exact (List.nodup_append.mp this).2.1, fun y hy => .inl (hloc y (.tail _ hy))⟩
  have hEK : EnvK (callEnvC fd s1.heap.objs.size fI) := fn_envK hk honce c4
  have l0 := fn_loc (a := fI) (h := s1.heap) honce
  rw [hoc] at l0
  refine wpAny_bind (store_all (env := callEnvC fd s1.heap.objs.size fI) (oc := []) _ (fun _ _ _ => rfl) hk ["self", "ws"] [.ref (s.heap.objs.size + 1), v] rfl l0 (fun y hy => .inl (hloc y (by simp only [List.mem_cons, List.not_mem_nil, or_false] at hy; rcases hy with rfl | rfl <;> simp [wns]))) fun s2 l2 m2 _ => wpAny_pure fun ht => ?_)
  have hnewL : s1.heap.get? s1.heap.objs.size = none := new_none _
  have y1 : Ext s1 { s1 with heap := pushCells (s1.heap.push { cls := .type "frame", data := .dict #[] }) fd.scope.names } := .heap' (t := s1.toks) (fun b o e => pushCells_keeps _ _ b o (Heap.get?_push_of_some _ e)) (Nat.le_refl _)
  have y2 : Ext s1 s2 := m2.ext y1 (fun b hb => by rw [locs_nil.mp hb]; exact hnewL) fun _ f => f.elim
  have x2 := x1.trans y2
  have old0 : ∀ b, s.heap.objs.size ≤ b → s.heap.get? b = none := fun b hb => Heap.get?_none_of_le hb
  have hno : ("self" : Str) ∉ wns := fun hm => by
    have h := nodupB_ok c2
    exact (List.nodup_append.mp h).2.2 _ (.head _) _ hm rfl
  have hLx : s.heap.objs.size + 1 ≠ s1.heap.objs.size := by rw [hz1]; omega
  have hLd : s.heap.objs.size ≠ s1.heap.objs.size := by rw [hz1]; omega
  have F : Fst ⟨h₀.heap, 0⟩ wns (callEnvC fd s1.heap.objs.size fI) [] s X0 (fun _ => False) (fun _ => False) s2 (.val (.str xs) :: List.replicate 7 .no) (upds (fun _ => none) ["self", "ws"] [.ref (s.heap.objs.size + 1), v]) :=
    { len := rfl
      loc := l2
      get := fun i y e e1 e2 => by
        match i, e1, e2 with
        | 0, e1, e2 =>
          cases e1; cases e2
          exact ⟨v, upds_get _ _ _ 1 _ _ (nodupB_ok (by decide +kernel)) rfl rfl, rep_flat rfl rv⟩
        | i + 1, e1, e2 =>
          have : e ∈ List.replicate 7 En.no := List.mem_of_getElem? (by simpa using e2)
          rw [List.mem_replicate] at this
          rw [this.2]; trivial
      apart := fun i j y z ds es a _ _ e3 => by
        have hm := List.mem_of_getElem? e3
        simp at hm
      new := fun b hb => hb.elim (fun h => by rw [locs_nil.mp h]; exact old0 _ (by show s.heap.objs.size ≤ s1.heap.objs.size; omega)) fun f => f.elim
      sep := fun _ f => f.elim
      live := fun _ f => f.elim
      sub := fun _ f => f.elim
      ext := x2
      base := hB.keep
      tok := Nat.zero_le _
      old := hO }
  have S : Sf ⟨h₀.heap, 0⟩ wns (callEnvC fd s1.heap.objs.size fI) s X0 (fun _ => False) C (s.heap.objs.size + 1) s.heap.objs.size s2 (.val (.str xs) :: List.replicate 7 .no) (upds (fun _ => none) ["self", "ws"] [.ref (s.heap.objs.size + 1), v]) [] :=
    { F := F
      self := upds_get _ _ _ 0 _ _ (nodupB_ok (by decide +kernel)) rfl rfl
      no := hno
      loc := hloc _ (.head _)
      inst := y2.heap _ _ ix
      fields := ⟨[], 0, y2.heap _ _ id', rfl, .nil, fun _ _ => rfl, fun _ _ => rfl⟩
      nx := old0 _ (Nat.le_succ _)
      ndx := old0 _ (Nat.le_refl _)
      xL := hLx
      dL := hLd
      xO := fun f => f
      dO := fun f => f
      above := by show s.heap.objs.size ≤ s1.heap.objs.size; omega }
  refine ⟨((ok.lim.keeps hB.keep).keeps x1.heap).keeps y2.heap, ?_⟩
  have gt' : Glob prog w ⟨h₀.heap, 0⟩ (callEnvC fd s1.heap.objs.size fI) "tuple" (.type "tuple") := glob_of gt hk hg hb hx1
  have gl' : Glob prog w ⟨h₀.heap, 0⟩ (callEnvC fd s1.heap.objs.size fI) "len" (.builtin "len") := glob_of gl hk hg hb hx2
  refine codeAny_func (wpAny_mono (init_run (h₀ := ⟨h₀.heap, 0⟩) (env := callEnvC fd s1.heap.objs.size fI) (q := q) (kd := kd) (fI := fI) X W (hA1.deeper _) fn gt' gl' (h2 _ fn hEK) (h3 _ fn hEK) (h4 _ fn hEK) (h5 _ fn hEK) (he _) S hd) (fun fl s3 af => ?_) fun _ _ f => f.elim)
  obtain ⟨rfl, x3, r3⟩ := af
  exact ⟨rfl, fun _ => ⟨x3, r3⟩⟩
end
end Mine

namespace Mine
open PySem PySem.W PyProof.Rows

structure ClsOk (K : Frag) (C : Addr) : Prop where
  geta : findIn K (.ref C) "__getattribute__" = some (some (.builtin "object.__getattribute__"))
  cd : ∃ cd, clsIn K C = some cd ∧ cd.hasDict = true
  fld : ∀ j, findIn K (.ref C) (fname j) = some none
  gattr : findIn K (.ref C) "__getattr__" = some none
  keep : keepIn K (.ref C) = true

section
variable {prog : Program} {w : World} {h₀ : B0} {Φ : Nat → List Dv → Option Dv} {ns : List Str} {env : Env} {k : Nat}

/-- a call of a class -/
theorem ev_new {K : Frag} {C : Addr} {j : Nat} {g : List Dv → Option Dv} {x : Str} {e : Expr} {es : List Expr} {m : ME} {p pos : Pos} (X : K.In h₀.heap) (hk : keepIn K (.ref C) = true) (hg : Glob prog w h₀ env x (.ref C)) (con : Con prog w h₀ (.ref C) k g) (hΦ : Φ j = g)
    (h : Evs prog w h₀ Φ ns env k (e :: es) m) (hs : starEach (e :: es) env = (false, eval e env) :: starEach es env := by exact star_cons rfl) (hp : (backTo pos (starEach es env)).any (·.1) = false := by rfl) : Ev prog w h₀ Φ ns env k (.Call (.Name x p) (e :: es) [] pos) (.call j m) := by
  constructor; intro A s Y ρ d hA hB hO V he
  simp only [ev, Option.bind_eq_some_iff] at he
  obtain ⟨ds, hds, he⟩ := he
  rw [hΦ] at he
  rw [arm_eval_Call_Name']
  refine wpAny_bind (hg A s p _ _ hB ?_)
  refine callWith_K (h₀ := h₀.heap) X hk (wpAny_told (h.run A s Y ρ ds hA hB hO V (lst_some hds) pos) fun vs s1 _ ⟨x1, r1⟩ => ?_) hs hp
  refine ⟨fun a o e => (hB.ext x1).keep _ _ (X a o e), ?_⟩
  exact wpAny_told (con A s1 Y vs ds d hA (hB.ext x1) (hO.ext x1) r1 he) fun v s2 _ ⟨x2, r2⟩ _ => ⟨x1.trans x2, r2⟩

theorem ev_attr' {K : Frag} {C : Addr} (j : Nat) {value : Expr} {m : ME} {pos : Pos} (X : K.In h₀.heap) (W : ClsOk K C) (h : Ev prog w h₀ Φ ns env k value m)
    (he : eval (.Attribute value (fname j) pos) env = (do { let o ← eval value env; standAt pos.atName; let r ← holding [o] (getAttr o (fname j) true); letTemporaryGo value o r; pure r })) :
    Ev prog w h₀ Φ ns env k (.Attribute value (fname j) pos) (.op (.attr C j) (.cons m .nil)) := by
  obtain ⟨cd, h1, h2⟩ := W.cd
  exact ev_attr j X W.geta h1 h2 (W.fld j) h he

/-- a call whose second argument is one of three written texts -/
theorem ev_call_lit {a : Addr} {fd : FuncData} {j : Nat} {g : List Dv → Option Dv} {x : Str} {e1 ei : Expr} {m1 mi : ME} {t1 t2 t3 : Str} {l1 l2 l3 : List Nat} {c1 c2 c3 : Nat} {p p1 p2 p3 pl ps pos : Pos} (hpos : 1 ≤ h₀.tok) (hg : Glob prog w h₀ env x (.ref a)) (ok : FnOk h₀.heap a fd) (con : Con prog w h₀ (.ref a) k g) (hΦ : Φ j = g)
    (hstr : ∀ ds d, g ds = some d → ∃ y, d = .str y) (h1 : Ev prog w h₀ Φ ns env k e1 m1) (h2 : Ev prog w h₀ Φ ns env k ei mi) (q1 : t1.cps.toList = l1) (q2 : t2.cps.toList = l2) (q3 : t3.cps.toList = l3)
    (hs1 : notStar e1 = true := by rfl) (hs : ∀ a b c p, ei ≠ .Slice a b c p := by intro _ _ _ _ h; cases h) :
    Ev prog w h₀ Φ ns env k (.Call (.Name x p) [e1, .Subscript (.List [.Constant (.str t1) c1 p1, .Constant (.str t2) c2 p2, .Constant (.str t3) c3 p3] pl) ei ps] [] pos)
      (.call j (.cons m1 (.cons (.op .idx (.cons (.cons (.const (.lit l1)) (.cons (.const (.lit l2)) (.cons (.const (.lit l3)) .nil))) (.cons mi .nil))) .nil))) := by
  constructor; intro A s X ρ d hA hB hO V he
  simp only [ev, Option.bind_eq_some_iff] at he
  obtain ⟨ds, hds, he⟩ := he
  rw [hΦ] at he
  obtain ⟨d1, d2, rfl, e1', e2'⟩ := ev_cons2 (Φ := Φ) (m1 := m1) (m2 := (.op .idx (.cons (.cons (.const (.lit l1)) (.cons (.const (.lit l2)) (.cons (.const (.lit l3)) .nil))) (.cons mi .nil)))) (ρ := ρ) (ds := ds) (by simp only [ev]; exact lst_some hds)
  obtain ⟨ds2, hds2, happ⟩ := ev_op_inv e2'
  obtain ⟨dl, di, rfl, el, ei'⟩ := ev_cons2 hds2
  obtain rfl : Dv.list [.lit l1, .lit l2, .lit l3] = dl := by simpa [ev, lst] using el
  rw [arm_eval_Call_Name']
  refine wpAny_bind (hg A s p _ _ hB ?_)
  obtain ⟨o, ho, hdat⟩ := ok.obj
  have hst : starEach [e1, .Subscript (.List [.Constant (.str t1) c1 p1, .Constant (.str t2) c2 p2, .Constant (.str t3) c3 p3] pl) ei ps] env = [(false, eval e1 env), (false, eval (.Subscript (.List [.Constant (.str t1) c1 p1, .Constant (.str t2) c2 p2, .Constant (.str t3) c3 p3] pl) ei ps) env)] := star_two hs1 rfl
  rw [hst]
  refine Calls.callWith_function (o := o) (fd := fd) (Calls.evalArgs_plain (Calls.spliced_cons (wpAny_told (h1.run A s X ρ d1 hA hB hO V e1') fun v1 s1 _ ⟨x1, r1⟩ => ?_)))
  refine Calls.spliced_cons (Subscript_ ?_)
  have hB1 := hB.ext x1
  rw [arm_eval_List]
  refine wpAny_bind (wpAny_standAt (wpAny_bind ?_))
  show wpAny _ _ (spliced (backTo pl [(false, eval (.Constant (.str t1) c1 p1) env), (false, eval (.Constant (.str t2) c2 p2) env), (false, eval (.Constant (.str t3) c3 p3) env)])) _ _ s1
  refine Calls.spliced_cons (Calls.Constant_str (k := c1) (pos := p1) (Calls.spliced_cons (Calls.Constant_str (k := c2) (pos := p2) (Calls.spliced_cons (Calls.Constant_str (k := c3) (pos := p3) (Calls.spliced_nil ?_))))))
  have ht1 : 1 ≤ s1.toks := Nat.le_trans hpos hB1.tok
  generalize hs2 : ({ s1 with toks := s1.toks + 1 + 1 + 1 } : Shared) = s2
  have x2 : Ext s1 s2 := by rw [← hs2]; exact .tk s1 (by omega)
  have k2 : s2.toks = s1.toks + 1 + 1 + 1 := by rw [← hs2]
  refine wpAny_newList ?_ (show 3 ≤ 16777216 by decide)
  have y2 := x1.trans x2
  let X2 : Bd := ⟨X.off, s2.toks⟩
  have hO2 : Old X2 s2 := ⟨(hO.ext y2).at_, Nat.le_refl _⟩
  have hX2 : X.tok ≤ X2.tok := (hO.ext y2).tok
  have r2 : Reps s2.heap X2 [.str t1 s1.toks, .str t2 (s1.toks + 1), .str t3 (s1.toks + 1 + 1)] [.lit l1, .lit l2, .lit l3] := by
    rw [← q1, ← q2, ← q3]
    exact .cons (.lit _ _ (by show s1.toks ≠ 0; omega) (by show s1.toks < s2.toks; omega)) (.cons (.lit _ _ (by show s1.toks + 1 ≠ 0; omega) (by show s1.toks + 1 < s2.toks; omega)) (.cons (.lit _ _ (by show s1.toks + 1 + 1 ≠ 0; omega) (by show s1.toks + 1 + 1 < s2.toks; omega)) .nil))
  have g3 := gives_newlist hO2 r2 (tk := s2.toks) (Nat.le_refl _)
  have y3 := y2.trans g3.1
  refine wpAny_told (h2.run A _ X ρ di hA (hB.ext y3) (hO.ext y3) (V.ext y3) ei') fun vi s4 _ ⟨x4, r4⟩ => ?_
  have y4 := y3.trans x4
  refine idx_list (X := X2) (g3.2.ext x4) (Rep.sub (X := X) (X' := X2) (fun b h => h) hX2 r4) happ (fun r s5 x5 r5 => Calls.spliced_nil ?_) hs
  have y5 := y4.trans x5
  refine ⟨⟨y5.heap _ _ (hB.keep _ _ ho), hdat⟩, ?_⟩
  refine wpAny_told (con A s5 X2 [v1, r] [d1, d2] d hA (hB.ext y5) ((hO2.ext g3.1).ext (x4.trans x5)) (.cons (Rep.sub (X := X) (X' := X2) (fun b h => h) hX2 (r1.ext (x2.trans (g3.1.trans (x4.trans x5))))) (.cons r5 .nil)) he) fun v s6 _ ⟨x6, r6⟩ _ => ⟨y5.trans x6, ?_⟩
  obtain ⟨y, rfl⟩ := hstr _ _ he
  obtain ⟨t, rfl⟩ := r6.str_inv
  exact .str' _ _
end
end Mine

namespace Mine
open PySem PySem.W PyProof.Rows

theorem ns_none_of {K : Frag} {h : Heap} {a : Addr} {mg : Str → Option Value} {n : Str} (X : K.In h) (G : h.Ns a mg) (e : nsIn K a n = some none) : mg n = none := by
  obtain ⟨o, es, ep, ho, hd, _, hf⟩ := G
  unfold nsIn at e
  split at e
  · rename_i c d es' n' sl q
    have := X _ _ q
    rw [ho] at this
    cases this
    cases hd
    split at e
    · cases e
    · rename_i he
      rw [← hf]
      unfold nsFind findBy
      rw [← Array.find?_toList, he]
      rfl
  · cases e
theorem booked_of {K : Frag} {h : Heap} (X : K.In h) (hl : h.NoLimit) (e : nsIn K cStatics sharingNotToldKey = some none) : NoneBooked h :=
  let ⟨mc, n, _⟩ := hl; ⟨mc, n, ns_none_of X n e⟩

section
variable {p : Program} {loose : List Str} {mean : ExcName → Option Value} {mg mb : Str → Option Value} {h : Heap} {K : Frag}
theorem gl_k (X : K.In h) (T : Top p loose mean mg mb h) {x : Str} {v : Value} (e : nsIn K mainGlobals x = some (some v)) : Gl h x v := ⟨mg, T.g, .inl (mg_of X T.g e)⟩
theorem gl_b (X : K.In h) (T : Top p loose mean mg mb h) {x : Str} {v : Value} (e : nsIn K mainGlobals x = some none) (hn : x ≠ "__name__" := by decide) (hv : bootBuiltins x = some v := by rfl) : Gl h x v :=
  ⟨mg, T.g, .inr ⟨mg_none_of X T.g e, mb, T.b, (T.builtins x hn).trans hv⟩⟩
theorem fn_top (T : Top p loose mean mg mb h) {d : DefRec} (hd : d ∈ recsOf p) {n : Str} (hn : d.name = n) : ∃ (a : Addr) (pm cd doc : Value), Gl h n (.ref a) ∧ FnOk h a (Calls.docDef d.name d.params d.body d.scope pm cd doc) := by
  obtain ⟨a, o, pm, cd, doc, h1, h2, h3, h4⟩ := T.fn d hd
  exact ⟨a, pm, cd, doc, hn ▸ ⟨mg, T.g, .inl h1⟩, ⟨o, h2, h3⟩, T.nolimit, h4⟩
theorem fn_K (X : K.In h) (hl : h.NoLimit) {f : Addr} {o : Obj} {fd : FuncData} (e : K.lookup f = some o) (hd : o.data = .func fd) (hc : h.CodeRec fd.code fd.qualname) : FnOk h f fd := ⟨⟨o, X _ _ e, hd⟩, hl, hc⟩
end

/-- only a text -/
noncomputable def gStr (f : List Dv → Option Dv) : List Dv → Option Dv := fun ds => match f ds with | some (.str y) => some (.str y) | _ => none
/-- only for a thing of the class -/
noncomputable def gObj (C : Addr) (f : List Dv → Option Dv) : List Dv → Option Dv := fun ds => match ds with | .obj D fs :: r => if D = C then f (.obj D fs :: r) else none | _ => none
theorem gStr_is {f : List Dv → Option Dv} {ds : List Dv} {d : Dv} (h : gStr f ds = some d) : ∃ y, d = .str y := by
  unfold gStr at h
  split at h
  · cases h; exact ⟨_, rfl⟩
  · cases h
theorem gStr_sub {f : List Dv → Option Dv} {ds : List Dv} {d : Dv} (h : gStr f ds = some d) : f ds = some d := by
  unfold gStr at h
  split at h
  · rename_i e; rw [e]; exact h
  · cases h
theorem gObj_is {C : Addr} {f : List Dv → Option Dv} {d1 d2 r : Dv} (h : gObj C f [d1, d2] = some r) : ∃ fs, d1 = .obj C fs := by
  unfold gObj at h
  split at h
  · rename_i e
    split at h
    · rename_i hD; cases e; exact ⟨_, by rw [hD]⟩
    · cases h
  · cases h
theorem gObj_sub {C : Addr} {f : List Dv → Option Dv} {ds : List Dv} {d : Dv} (h : gObj C f ds = some d) : f ds = some d := by
  unfold gObj at h
  split at h
  · split at h
    · exact h
    · cases h
  · cases h
theorem Con.sub {prog : Program} {w : World} {h₀ : B0} {fv : Value} {k : Nat} {f g : List Dv → Option Dv} (c : Con prog w h₀ fv k f) (h : ∀ ds d, g ds = some d → f ds = some d) : Con prog w h₀ fv k g :=
  fun A s X vs ds d hA hB hO r e => c A s X vs ds d hA hB hO r (h ds d e)

theorem wints {P : Params} {h : Heap} {X : Bd} : ∀ {vs : List Value} {ns : List Int}, WellAll P h vs (ofPys (ns.map PyData.int)) → Reps h X vs (ns.map .int) := by
  intro vs ns
  induction ns generalizing vs with
  | nil =>
    intro w
    have e : ofPys (([] : List Int).map PyData.int) = [] := rfl
    rw [e] at w
    cases w
    exact .nil
  | cons a ns ih =>
    intro w
    have e : ofPys ((a :: ns).map PyData.int) = .int a :: ofPys (ns.map PyData.int) := rfl
    rw [e] at w
    cases w with
    | cons w1 w2 =>
      cases w1
      exact .cons (.int _ _) (ih w2)
theorem well_list {P : Params} {h : Heap} {X : Bd} {l : Addr} {ns : List Int} (hX : ¬ X.off l) (w : Well P h (.ref l) (ofPy (PyData.list (ns.map PyData.int)))) : Rep h X (.ref l) (.list (ns.map .int)) := by
  have e : ofPy (PyData.list (ns.map PyData.int)) = .list (ofPys (ns.map PyData.int)) := rfl
  rw [e] at w
  cases w with
  | list h1 h2 => exact .list (n := 0) h1 hX (wints h2)

theorem con_end {prog : Program} {w : World} {c : ClaimW} {cl : Str → Option Addr} {mean : ExcName → Option Value} {args : List WData} {s₁ : Shared} {P : Params} {l fa : Addr} {ns : List Int} {k : Nat} {f : List Dv → Option Dv}
    (C : Con prog w ⟨s₁.heap, 0⟩ (.ref fa) k f) (hf : f [.list (ns.map .int)] = some (.bool true)) (w1 : Well P s₁.heap (.ref l) (ofPy (PyData.list (ns.map PyData.int)))) (hg : s₁.gens = #[]) (hn : ∀ cls, c.raises args cls = false)
    (hp : c.post args (.bool true) args = true) (hR : Rm k callerA) :
    wpAny (model prog w) callerA (call (.ref fa) [.ref l]) (fun v s' => GoodWG c cl mean args s₁ (.ok (.ret v)) s') (fun e s' => GoodWG c cl mean args s₁ (.error e) s') s₁ := by
  refine wpAny_told (C callerA s₁ ⟨fun _ => False, 0⟩ [.ref l] [.list (ns.map .int)] (.bool true) hR ⟨fun _ _ e => e, Nat.zero_le _⟩ ⟨fun _ h => False.elim h, Nat.zero_le _⟩ (.cons (well_list (fun h => h) w1) .nil) hf) fun v s' _ xr => ?_
  obtain ⟨x, r⟩ := xr
  cases r
  exact ⟨.inl ⟨_, _, [], rfl, hn, .bool true, hp, unshared_nil⟩, .of_keep x.heap, x.os, x.bare (.of_eq hg)⟩
end Mine

section
open PySem PySem.W PyProof.Rows
set_option maxHeartbeats 8000000 in
open_top hd01 for PySem.Challenge.rw_sc0064_01.row
theorem Mine.said : PySem.Challenge.rw_sc0064_01.wellSaid = true := by decide +kernel
end
set_option maxHeartbeats 4000000
namespace Mine
open PySem PySem.W PyProof.Rows

noncomputable def x_quotedata (Φ : Nat → List Dv → Option Dv) : XF := xret Φ (.op .dots (.cons (.op .eol (.cons (.var 0) .nil)) .nil))
theorem t_quotedata : ∃ d, d ∈ recsOf hd01.view_1 ∧ d.name = "quotedata" ∧ ∀ (prog : Program) (w : World) (h₀ : B0) (Φ : Nat → List Dv → Option Dv) (k : Nat) (a : Addr) (pm cd doc : Value) (ok : FnOk h₀.heap a (Calls.docDef d.name d.params d.body d.scope pm cd doc)) (nb : NoneBooked h₀.heap) {p1 : Addr} (g__twin_re_1 : Gl h₀.heap "_twin_re_1" (.ref p1)) (P1 : PatOk h₀.heap p1 C1) {p2 : Addr} (g__twin_re_2 : Gl h₀.heap "_twin_re_2" (.ref p2)) (P2 : PatOk h₀.heap p2 C2) {t_crlf : Tok} (g_CRLF : Gl h₀.heap "CRLF" (.str (mkS [13, 10]) t_crlf)),
    Con prog w h₀ (.ref a) (k + 1) (bodyOf 1 0 (x_quotedata Φ)) := by
  apply Exists.intro
  apply And.intro
  · exact List.Mem.tail _ (List.Mem.head _)
  · refine ⟨rfl, ?_⟩
    intro prog w h₀ Φ k a pm cd doc ok nb p1 g__twin_re_1 P1 p2 g__twin_re_2 P2 t_crlf g_CRLF
    refine con_fn (xs := ["data"]) (rest := []) (tok := 1) ok (fun _ h => bind1 h fun _ => rfl) (.inr ⟨by omega, _, rfl, by simp [Calls.docDef]⟩) (fun C fn KE => ?_)
    have hpos : 1 ≤ (⟨h₀.heap, 1⟩ : B0).tok := Nat.le_refl _
    unfold x_quotedata
    exact (ex_one (st_ret fn (ev_dots (glob_of g__twin_re_1) P1 (ev_const_str (by decide +kernel)) (ev_eol (glob_of g__twin_re_2) P2 (ev_glob (glob_of g_CRLF) (fun _ _ _ => .str' _ _)) (ev_v 0) (by rfl)) (by rfl))))

noncomputable def x_fix_eols (Φ : Nat → List Dv → Option Dv) : XF := xret Φ (.op .eol (.cons (.var 0) .nil))
theorem t_fix_eols : ∃ d, d ∈ recsOf hd01.view_1 ∧ d.name = "_fix_eols" ∧ ∀ (prog : Program) (w : World) (h₀ : B0) (Φ : Nat → List Dv → Option Dv) (k : Nat) (a : Addr) (pm cd doc : Value) (ok : FnOk h₀.heap a (Calls.docDef d.name d.params d.body d.scope pm cd doc)) (nb : NoneBooked h₀.heap) {p2 : Addr} (g__twin_re_2 : Gl h₀.heap "_twin_re_2" (.ref p2)) (P2 : PatOk h₀.heap p2 C2) {t_crlf : Tok} (g_CRLF : Gl h₀.heap "CRLF" (.str (mkS [13, 10]) t_crlf)),
    Con prog w h₀ (.ref a) (k + 1) (bodyOf 1 0 (x_fix_eols Φ)) := by
  apply Exists.intro
  apply And.intro
  · exact List.Mem.tail _ (List.Mem.tail _ (List.Mem.head _))
  · refine ⟨rfl, ?_⟩
    intro prog w h₀ Φ k a pm cd doc ok nb p2 g__twin_re_2 P2 t_crlf g_CRLF
    refine con_fn (xs := ["data"]) (rest := []) (tok := 1) ok (fun _ h => bind1 h fun _ => rfl) (.inr ⟨by omega, _, rfl, by simp [Calls.docDef]⟩) (fun C fn KE => ?_)
    have hpos : 1 ≤ (⟨h₀.heap, 1⟩ : B0).tok := Nat.le_refl _
    unfold x_fix_eols
    exact (ex_one (st_ret fn (ev_eol (glob_of g__twin_re_2) P2 (ev_glob (glob_of g_CRLF) (fun _ _ _ => .str' _ _)) (ev_v 0) (by rfl))))

noncomputable def x_law_row (Φ : Nat → List Dv → Option Dv) : XF := xseq (xset Φ 1 (.const (.str []))) (xseq (xfor Φ 0 [2] (.rng (.const (.int 0)) (.const (.int 4))) (xseq (xset Φ 3 (.op (.bin .mod) (.cons (.op (.bin .mod) (.cons (.op .idx (.cons (.var 0) (.cons (.var 2) .nil))) (.cons (.const (.int 8)) .nil))) (.cons (.op (.bin .add) (.cons (.op (.bin .mul) (.cons (.const (.int 2)) (.cons (.var 2) .nil))) (.cons (.const (.int 1)) .nil))) .nil)))) (xseq (xset Φ 1 (.op (.bin .add) (.cons (.op (.bin .add) (.cons (.op .sl (.cons (.var 1) (.cons (.const .none) (.cons (.var 3) (.cons (.const .none) .nil))))) (.cons (.const (.str [40])) .nil))) (.cons (.op .sl (.cons (.var 1) (.cons (.var 3) (.cons (.const .none) (.cons (.const .none) .nil))))) .nil)))) (xseq (xset Φ 3 (.op (.bin .mod) (.cons (.op (.bin .mod) (.cons (.op (.bin .fdiv) (.cons (.op .idx (.cons (.var 0) (.cons (.var 2) .nil))) (.cons (.const (.int 8)) .nil))) (.cons (.const (.int 8)) .nil))) (.cons (.op (.bin .add) (.cons (.op (.bin .mul) (.cons (.const (.int 2)) (.cons (.var 2) .nil))) (.cons (.const (.int 2)) .nil))) .nil)))) (xset Φ 1 (.op (.bin .add) (.cons (.op (.bin .add) (.cons (.op .sl (.cons (.var 1) (.cons (.const .none) (.cons (.var 3) (.cons (.const .none) .nil))))) (.cons (.const (.str [41])) .nil))) (.cons (.op .sl (.cons (.var 1) (.cons (.var 3) (.cons (.const .none) (.cons (.const .none) .nil))))) .nil)))))))) (xret Φ (.var 1)))
theorem t_law_row : ∃ d, d ∈ recsOf hd01.view_1 ∧ d.name = "_law_row" ∧ ∀ (prog : Program) (w : World) (h₀ : B0) (Φ : Nat → List Dv → Option Dv) (k : Nat) (a : Addr) (pm cd doc : Value) (ok : FnOk h₀.heap a (Calls.docDef d.name d.params d.body d.scope pm cd doc)) (nb : NoneBooked h₀.heap) (g_range : Gl h₀.heap "range" (.type "range")),
    Con prog w h₀ (.ref a) (k + 1) (bodyOf 1 3 (x_law_row Φ)) := by
  apply Exists.intro
  apply And.intro
  · exact List.Mem.tail _ (List.Mem.tail _ (List.Mem.tail _ (List.Mem.tail _ (List.Mem.tail _ (List.Mem.tail _ (List.Mem.head _))))))
  · refine ⟨rfl, ?_⟩
    intro prog w h₀ Φ k a pm cd doc ok nb g_range
    refine con_fn (xs := ["numbers"]) (rest := ["row", "k", "at"]) (tok := 1) ok (fun _ h => bind1 h fun _ => rfl) (.inr ⟨by omega, _, rfl, by simp [Calls.docDef]⟩) (fun C fn KE => ?_)
    have hpos : 1 ≤ (⟨h₀.heap, 1⟩ : B0).tok := Nat.le_refl _
    unfold x_law_row
    exact (ex_cons (st_set fn rfl (ev_const_str (by decide +kernel))) (ex_cons (st_for fn .name rfl (nodupB_ok rfl) (it_range1 (glob_of g_range) ev_const_int) (ex_cons (st_set fn rfl (ev_bin (o := .mod) (ev_bin (o := .mod) (ev_idx (ev_v 0) (ev_v 2)) ev_const_int) (ev_bin (o := .add) (ev_bin (o := .mul) ev_const_int (ev_v 2)) ev_const_int))) (ex_cons (st_set fn rfl (ev_bin (o := .add) (ev_bin (o := .add) (ev_sl (ev_v 1) evo_none (evo_some (ev_v 3)) evo_none (fun _ _ => rfl)) (ev_const_str (by decide +kernel))) (ev_sl (ev_v 1) (evo_some (ev_v 3)) evo_none evo_none (fun _ _ => rfl)))) (ex_cons (st_set fn rfl (ev_bin (o := .mod) (ev_bin (o := .mod) (ev_bin (o := .fdiv) (ev_idx (ev_v 0) (ev_v 2)) ev_const_int) ev_const_int) (ev_bin (o := .add) (ev_bin (o := .mul) ev_const_int (ev_v 2)) ev_const_int))) (ex_one (st_set fn rfl (ev_bin (o := .add) (ev_bin (o := .add) (ev_sl (ev_v 1) evo_none (evo_some (ev_v 3)) evo_none (fun _ _ => rfl)) (ev_const_str (by decide +kernel))) (ev_sl (ev_v 1) (evo_some (ev_v 3)) evo_none evo_none (fun _ _ => rfl))))))))) (ex_one (st_ret fn (ev_v 1)))))

noncomputable def x_law_text (Φ : Nat → List Dv → Option Dv) : XF := xseq (xset Φ 2 (.cons (.const (.str [])) (.cons (.const (.str [92, 40])) (.cons (.const (.str [34, 41, 34])) (.cons (.const (.str [92, 92])) (.cons (.const (.str [34, 40, 92, 34, 34])) (.cons (.const (.str [92, 34, 92, 41])) (.nil)))))))) (xret Φ (.op (.meth .join) (.cons (.const (.str [])) (.cons (.comp (.op (.bin .add) (.cons (.op (.bin .mul) (.cons (.op .idx (.cons (.var 2) (.cons (.op (.bin .mod) (.cons (.op (.bin .fdiv) (.cons (.op .idx (.cons (.var 1) (.cons (.op (.bin .fdiv) (.cons (.var 3) (.cons (.const (.int 2)) .nil))) .nil))) (.cons (.const (.int 64)) .nil))) (.cons (.const (.int 6)) .nil))) .nil))) (.cons (.op (.bin .sub) (.cons (.const (.int 1)) (.cons (.op (.bin .mod) (.cons (.var 3) (.cons (.const (.int 2)) .nil))) .nil))) .nil))) (.cons (.op .idx (.cons (.var 0) (.cons (.var 3) .nil))) .nil))) 0 (.rng (.const (.int 0)) (.const (.int 8))) (.const (.bool true))) .nil))))
theorem t_law_text : ∃ d, d ∈ recsOf hd01.view_1 ∧ d.name = "_law_text" ∧ ∀ (prog : Program) (w : World) (h₀ : B0) (Φ : Nat → List Dv → Option Dv) (k : Nat) (a : Addr) (pm cd doc : Value) (ok : FnOk h₀.heap a (Calls.docDef d.name d.params d.body d.scope pm cd doc)) (nb : NoneBooked h₀.heap) (g_range : Gl h₀.heap "range" (.type "range")),
    Con prog w h₀ (.ref a) (k + 1) (bodyOf 2 1 (x_law_text Φ)) := by
  apply Exists.intro
  apply And.intro
  · exact List.Mem.tail _ (List.Mem.tail _ (List.Mem.tail _ (List.Mem.tail _ (List.Mem.tail _ (List.Mem.tail _ (List.Mem.tail _ (List.Mem.head _)))))))
  · refine ⟨rfl, ?_⟩
    intro prog w h₀ Φ k a pm cd doc ok nb g_range
    refine con_fn (xs := ["row", "numbers"]) (rest := ["words"]) (tok := 0) ok (fun _ h => bind2 h fun _ _ => rfl) (.inl (Nat.zero_le _)) (fun C fn KE => ?_)
    unfold x_law_text
    exact (ex_cons (st_set fn rfl (ev_list' 6 (evs_cons (ev_const_str (by decide +kernel)) (evs_cons (ev_const_str (by decide +kernel)) (evs_cons (ev_const_str (by decide +kernel)) (evs_cons (ev_const_str (by decide +kernel)) (evs_cons (ev_const_str (by decide +kernel)) (evs_cons (ev_const_str (by decide +kernel)) evs_nil)))))) (by rfl) (by decide))) (ex_one (st_ret fn (ev_meth (o := .join) (ev_const_str (by decide +kernel)) (ev_comp (comp_of KE (it_range1 (glob_of g_range) ev_const_int) .name (fun C KE => (ev_bin (o := .add) (ev_bin (o := .mul) (ev_idx (ev_v 2) (ev_bin (o := .mod) (ev_bin (o := .fdiv) (ev_idx (ev_v 1) (ev_bin (o := .fdiv) (ev_v 3) ev_const_int)) ev_const_int) ev_const_int)) (ev_bin (o := .sub) ev_const_int (ev_bin (o := .mod) (ev_v 3) ev_const_int))) (ev_idx (ev_v 0) (ev_v 3)))) (fun _ => .nil))) (by rfl)))))

noncomputable def x_law_units (Φ : Nat → List Dv → Option Dv) : XF := xseq (xtupR Φ [2, 3, 4] [.ev (.cons (.nil) (.cons (.cons (.const (.str [92, 40])) (.nil)) (.cons (.nil) (.cons (.cons (.const (.str [92, 92])) (.nil)) (.cons (.nil) (.cons (.cons (.const (.str [92, 34])) (.cons (.const (.str [92, 41])) (.nil))) (.nil))))))), .own, .ev (.op .neg (.cons (.const (.int 1)) .nil))]) (xseq (xfor Φ 0 [5] (.rng (.const (.int 0)) (.const (.int 8))) (xfor Φ 0 [6] (.op (.bin .add) (.cons (.op (.bin .mul) (.cons (.op .idx (.cons (.var 2) (.cons (.op (.bin .mod) (.cons (.op (.bin .fdiv) (.cons (.op .idx (.cons (.var 1) (.cons (.op (.bin .fdiv) (.cons (.var 5) (.cons (.const (.int 2)) .nil))) .nil))) (.cons (.const (.int 64)) .nil))) (.cons (.const (.int 6)) .nil))) .nil))) (.cons (.op (.bin .sub) (.cons (.const (.int 1)) (.cons (.op (.bin .mod) (.cons (.var 5) (.cons (.const (.int 2)) .nil))) .nil))) .nil))) (.cons (.cons (.op .idx (.cons (.var 0) (.cons (.var 5) .nil))) (.nil)) .nil))) (xseq (xset Φ 4 (.op (.bin .add) (.cons (.var 4) (.cons (.op (.fn .len) (.cons (.var 6) (.nil))) .nil)))) (xapp Φ 3 (.op .tup (.cons (.var 4) (.cons (.var 6) (.nil)))))))) (xfree 3 (xret Φ (.var 3))))
theorem t_law_units : ∃ d, d ∈ recsOf hd01.view_1 ∧ d.name = "_law_units" ∧ ∀ (prog : Program) (w : World) (h₀ : B0) (Φ : Nat → List Dv → Option Dv) (k : Nat) (a : Addr) (pm cd doc : Value) (ok : FnOk h₀.heap a (Calls.docDef d.name d.params d.body d.scope pm cd doc)) (nb : NoneBooked h₀.heap) (g_len : Gl h₀.heap "len" (.builtin "len")) (g_range : Gl h₀.heap "range" (.type "range")),
    Con prog w h₀ (.ref a) (k + 1) (bodyOf 2 5 (x_law_units Φ)) := by
  apply Exists.intro
  apply And.intro
  · exact List.Mem.tail _ (List.Mem.tail _ (List.Mem.tail _ (List.Mem.tail _ (List.Mem.tail _ (List.Mem.tail _ (List.Mem.tail _ (List.Mem.tail _ (List.Mem.head _))))))))
  · refine ⟨rfl, ?_⟩
    intro prog w h₀ Φ k a pm cd doc ok nb g_len g_range
    refine con_fn (xs := ["row", "numbers"]) (rest := ["words", "units", "place", "k", "unit"]) (tok := 1) ok (fun _ h => bind2 h fun _ _ => rfl) (.inr ⟨by omega, _, rfl, by simp [Calls.docDef]⟩) (fun C fn KE => ?_)
    have hpos : 1 ≤ (⟨h₀.heap, 1⟩ : B0).tok := Nat.le_refl _
    unfold x_law_units
    exact (ex_cons (@st_tupR prog w ⟨h₀.heap, 1⟩ Φ _ _ _ k _ _ _ ["words", "units", "place"] _ _ _ _ _ _ fn rfl (pts_ev (ev_list' 6 (evs_cons (ev_list' 0 evs_nil (by rfl) (by decide)) (evs_cons (ev_list' 1 (evs_cons (ev_const_str (by decide +kernel)) evs_nil) (by rfl) (by decide)) (evs_cons (ev_list' 0 evs_nil (by rfl) (by decide)) (evs_cons (ev_list' 1 (evs_cons (ev_const_str (by decide +kernel)) evs_nil) (by rfl) (by decide)) (evs_cons (ev_list' 0 evs_nil (by rfl) (by decide)) (evs_cons (ev_list' 2 (evs_cons (ev_const_str (by decide +kernel)) (evs_cons (ev_const_str (by decide +kernel)) evs_nil)) (by rfl) (by decide)) evs_nil)))))) (by rfl) (by decide)) (pts_own (pts_ev (ev_neg ev_const_int) .nil))) rfl (by decide) (by rfl) (by rfl)) (ex_cons (st_for fn .name rfl (nodupB_ok rfl) (it_range1 (glob_of g_range) ev_const_int) (ex_one (st_for fn .name rfl (nodupB_ok rfl) (it_ev (ev_bin (o := .add) (ev_bin (o := .mul) (ev_idx (ev_v 2) (ev_bin (o := .mod) (ev_bin (o := .fdiv) (ev_idx (ev_v 1) (ev_bin (o := .fdiv) (ev_v 5) ev_const_int)) ev_const_int) ev_const_int)) (ev_bin (o := .sub) ev_const_int (ev_bin (o := .mod) (ev_v 5) ev_const_int))) (ev_list' 1 (evs_cons (ev_idx (ev_v 0) (ev_v 5)) evs_nil) (by rfl) (by decide)))) (ex_cons (st_set fn rfl (ev_bin (o := .add) (ev_v 4) (ev_fn (o := .len) (glob_of g_len) (evs_cons (ev_v 6) evs_nil)))) (ex_one (st_app fn rfl (ev_tup' 2 (evs_cons (ev_v 4) (evs_cons (ev_v 6) evs_nil)) (by rfl) (by decide)))))))) (ex_free fn 3 (ex_one (st_ret fn (ev_v 3))))))

noncomputable def x_law_lines (Φ : Nat → List Dv → Option Dv) : XF := xret Φ (.comp (.op (.meth .count) (.cons (.op .sl (.cons (.var 0) (.cons (.const .none) (.cons (.var 1) (.cons (.const .none) .nil))))) (.cons (.const (.str [40])) .nil))) 0 (.rng (.const (.int 0)) (.const (.int 8))) (.op (.cmp .eq) (.cons (.op .idx (.cons (.var 0) (.cons (.var 1) .nil))) (.cons (.const (.str [41])) .nil))))
theorem t_law_lines : ∃ d, d ∈ recsOf hd01.view_1 ∧ d.name = "_law_lines" ∧ ∀ (prog : Program) (w : World) (h₀ : B0) (Φ : Nat → List Dv → Option Dv) (k : Nat) (a : Addr) (pm cd doc : Value) (ok : FnOk h₀.heap a (Calls.docDef d.name d.params d.body d.scope pm cd doc)) (nb : NoneBooked h₀.heap) (g_range : Gl h₀.heap "range" (.type "range")),
    Con prog w h₀ (.ref a) (k + 1) (bodyOf 1 0 (x_law_lines Φ)) := by
  apply Exists.intro
  apply And.intro
  · exact List.Mem.tail _ (List.Mem.tail _ (List.Mem.tail _ (List.Mem.tail _ (List.Mem.tail _ (List.Mem.tail _ (List.Mem.tail _ (List.Mem.tail _ (List.Mem.tail _ (List.Mem.tail _ (List.Mem.head _))))))))))
  · refine ⟨rfl, ?_⟩
    intro prog w h₀ Φ k a pm cd doc ok nb g_range
    refine con_fn (xs := ["row"]) (rest := []) (tok := 0) ok (fun _ h => bind1 h fun _ => rfl) (.inl (Nat.zero_le _)) (fun C fn KE => ?_)
    unfold x_law_lines
    exact (ex_one (st_ret fn (ev_comp (comp_of KE (it_range1 (glob_of g_range) ev_const_int) .name (fun C KE => (ev_meth (o := .count) (ev_sl (ev_v 0) evo_none (evo_some (ev_v 1)) evo_none (fun _ _ => rfl)) (ev_const_str (by decide +kernel)) (by rfl))) (fun KF => .one fun C => by have KE := KF C; exact (tst_cmp (o := .eq) (ev_idx (ev_v 0) (ev_v 1)) (ev_const_str (by decide +kernel))))))))

noncomputable def x_law_rooks (Φ : Nat → List Dv → Option Dv) : XF := xseq (xset Φ 1 (.cons (.const (.int 1)) (.cons (.const (.int 0)) (.cons (.const (.int 0)) (.cons (.const (.int 0)) (.cons (.const (.int 0)) (.nil))))))) (xseq (xfor Φ 0 [2] (.var 0) (xset Φ 1 (.op (.bin .add) (.cons (.cons (.const (.int 1)) (.nil)) (.cons (.comp (.op (.bin .add) (.cons (.op .idx (.cons (.var 1) (.cons (.var 3) .nil))) (.cons (.op (.bin .mul) (.cons (.op .idx (.cons (.var 1) (.cons (.op (.bin .sub) (.cons (.var 3) (.cons (.const (.int 1)) .nil))) .nil))) (.cons (.op (.bin .add) (.cons (.op (.bin .sub) (.cons (.var 2) (.cons (.var 3) .nil))) (.cons (.const (.int 1)) .nil))) .nil))) .nil))) 0 (.rng (.const (.int 1)) (.const (.int 5))) (.const (.bool true))) .nil))))) (xret Φ (.var 1)))
theorem t_law_rooks : ∃ d, d ∈ recsOf hd01.view_1 ∧ d.name = "_law_rooks" ∧ ∀ (prog : Program) (w : World) (h₀ : B0) (Φ : Nat → List Dv → Option Dv) (k : Nat) (a : Addr) (pm cd doc : Value) (ok : FnOk h₀.heap a (Calls.docDef d.name d.params d.body d.scope pm cd doc)) (nb : NoneBooked h₀.heap) (g_range : Gl h₀.heap "range" (.type "range")),
    Con prog w h₀ (.ref a) (k + 1) (bodyOf 1 2 (x_law_rooks Φ)) := by
  apply Exists.intro
  apply And.intro
  · exact List.Mem.tail _ (List.Mem.tail _ (List.Mem.tail _ (List.Mem.tail _ (List.Mem.tail _ (List.Mem.tail _ (List.Mem.tail _ (List.Mem.tail _ (List.Mem.tail _ (List.Mem.tail _ (List.Mem.tail _ (List.Mem.head _)))))))))))
  · refine ⟨rfl, ?_⟩
    intro prog w h₀ Φ k a pm cd doc ok nb g_range
    refine con_fn (xs := ["lines"]) (rest := ["ways", "wide"]) (tok := 1) ok (fun _ h => bind1 h fun _ => rfl) (.inr ⟨by omega, _, rfl, by simp [Calls.docDef]⟩) (fun C fn KE => ?_)
    have hpos : 1 ≤ (⟨h₀.heap, 1⟩ : B0).tok := Nat.le_refl _
    unfold x_law_rooks
    exact (ex_cons (st_set fn rfl (ev_list' 5 (evs_cons ev_const_int (evs_cons ev_const_int (evs_cons ev_const_int (evs_cons ev_const_int (evs_cons ev_const_int evs_nil))))) (by rfl) (by decide))) (ex_cons (st_for fn .name rfl (nodupB_ok rfl) (it_ev (ev_v 0)) (ex_one (st_set fn rfl (ev_bin (o := .add) (ev_list' 1 (evs_cons ev_const_int evs_nil) (by rfl) (by decide)) (ev_comp (comp_of KE (it_range2 (glob_of g_range) ev_const_int ev_const_int) .name (fun C KE => (ev_bin (o := .add) (ev_idx (ev_v 1) (ev_v 3)) (ev_bin (o := .mul) (ev_idx (ev_v 1) (ev_bin (o := .sub) (ev_v 3) ev_const_int)) (ev_bin (o := .add) (ev_bin (o := .sub) (ev_v 2) (ev_v 3)) ev_const_int)))) (fun _ => .nil))))))) (ex_one (st_ret fn (ev_v 1)))))

noncomputable def x_law_by_ways (Φ : Nat → List Dv → Option Dv) : XF := xseq (xtup Φ [2, 3] [.ev (.const (.int 0)), .ev (.const (.int 1))]) (xseq (xfor Φ 0 [4] (.rng (.const (.int 0)) (.const (.int 5))) (xseq (xset Φ 2 (.op (.bin .add) (.cons (.var 2) (.cons (.op (.bin .mul) (.cons (.op .idx (.cons (.var 0) (.cons (.op (.bin .sub) (.cons (.const (.int 4)) (.cons (.var 4) .nil))) .nil))) (.cons (.var 3) .nil))) .nil)))) (xset Φ 3 (.op (.bin .mul) (.cons (.var 3) (.cons (.op (.bin .sub) (.cons (.var 1) (.cons (.var 4) .nil))) .nil)))))) (xret Φ (.var 2)))
theorem t_law_by_ways : ∃ d, d ∈ recsOf hd01.view_1 ∧ d.name = "_law_by_ways" ∧ ∀ (prog : Program) (w : World) (h₀ : B0) (Φ : Nat → List Dv → Option Dv) (k : Nat) (a : Addr) (pm cd doc : Value) (ok : FnOk h₀.heap a (Calls.docDef d.name d.params d.body d.scope pm cd doc)) (nb : NoneBooked h₀.heap) (g_range : Gl h₀.heap "range" (.type "range")),
    Con prog w h₀ (.ref a) (k + 1) (bodyOf 2 3 (x_law_by_ways Φ)) := by
  apply Exists.intro
  apply And.intro
  · exact List.Mem.tail _ (List.Mem.tail _ (List.Mem.tail _ (List.Mem.tail _ (List.Mem.tail _ (List.Mem.tail _ (List.Mem.tail _ (List.Mem.tail _ (List.Mem.tail _ (List.Mem.tail _ (List.Mem.tail _ (List.Mem.tail _ (List.Mem.head _))))))))))))
  · refine ⟨rfl, ?_⟩
    intro prog w h₀ Φ k a pm cd doc ok nb g_range
    refine con_fn (xs := ["ways", "x"]) (rest := ["value", "factor", "k"]) (tok := 1) ok (fun _ h => bind2 h fun _ _ => rfl) (.inr ⟨by omega, _, rfl, by simp [Calls.docDef]⟩) (fun C fn KE => ?_)
    have hpos : 1 ≤ (⟨h₀.heap, 1⟩ : B0).tok := Nat.le_refl _
    unfold x_law_by_ways
    exact (ex_cons (st_tup fn (.cons (.cons .nil)) rfl (pts_ev ev_const_int (pts_ev ev_const_int .nil)) rfl rfl (by decide)) (ex_cons (st_for fn .name rfl (nodupB_ok rfl) (it_range1 (glob_of g_range) ev_const_int) (ex_cons (st_set fn rfl (ev_bin (o := .add) (ev_v 2) (ev_bin (o := .mul) (ev_idx (ev_v 0) (ev_bin (o := .sub) ev_const_int (ev_v 4))) (ev_v 3)))) (ex_one (st_set fn rfl (ev_bin (o := .mul) (ev_v 3) (ev_bin (o := .sub) (ev_v 1) (ev_v 4))))))) (ex_one (st_ret fn (ev_v 2)))))

noncomputable def x_law_by_norm (C_ws : Addr) (Φ : Nat → List Dv → Option Dv) : XF := xseq (xunp Φ [2, 3] (.op (.attr C_ws 3) (.cons (.var 0) .nil))) (xseq (xset Φ 4 (.const (.int 1))) (xseq (xfor Φ 0 [5] (.rng (.const (.int 1)) (.op (.fn .len) (.cons (.var 2) (.nil)))) (xset Φ 4 (.op (.bin .mul) (.cons (.var 4) (.cons (.op (.bin .pow) (.cons (.op (.bin .sub) (.cons (.op (.bin .add) (.cons (.var 1) (.cons (.var 5) .nil))) (.cons (.const (.int 4)) .nil))) (.cons (.op .idx (.cons (.var 2) (.cons (.var 5) .nil))) .nil))) .nil))))) (xret Φ (.cons (.op .sl (.cons (.var 2) (.cons (.const .none) (.cons (.const (.int 1)) (.cons (.const .none) .nil))))) (.cons (.op (.cmp .ne) (.cons (.op .sl (.cons (.var 2) (.cons (.op .neg (.cons (.const (.int 1)) .nil)) (.cons (.const .none) (.cons (.const .none) .nil))))) (.cons (.op .tup (.cons (.const (.int 0)) (.nil))) .nil))) (.cons (.var 3) (.cons (.var 4) (.nil))))))))
theorem t_law_by_norm : ∃ d, d ∈ recsOf hd01.view_1 ∧ d.name = "_law_by_norm" ∧ ∀ (prog : Program) (w : World) (h₀ : B0) (C_ws : Addr) (Φ : Nat → List Dv → Option Dv) (k : Nat) (a : Addr) (pm cd doc : Value) (ok : FnOk h₀.heap a (Calls.docDef d.name d.params d.body d.scope pm cd doc)) (nb : NoneBooked h₀.heap) (g_len : Gl h₀.heap "len" (.builtin "len")) (g_range : Gl h₀.heap "range" (.type "range")) {K : Frag} (XK : K.In h₀.heap) (WC : ClsOk K C_ws),
    Con prog w h₀ (.ref a) (k + 1) (bodyOf 2 4 (x_law_by_norm C_ws Φ)) := by
  apply Exists.intro
  apply And.intro
  · exact List.Mem.tail _ (List.Mem.tail _ (List.Mem.tail _ (List.Mem.tail _ (List.Mem.tail _ (List.Mem.tail _ (List.Mem.tail _ (List.Mem.tail _ (List.Mem.tail _ (List.Mem.tail _ (List.Mem.tail _ (List.Mem.tail _ (List.Mem.tail _ (List.Mem.head _)))))))))))))
  · refine ⟨rfl, ?_⟩
    intro prog w h₀ C_ws Φ k a pm cd doc ok nb g_len g_range K XK WC
    refine con_fn (xs := ["lead", "x"]) (rest := ["counts", "trailing", "value", "j"]) (tok := 1) ok (fun _ h => bind2 h fun _ _ => rfl) (.inr ⟨by omega, _, rfl, by simp [Calls.docDef]⟩) (fun C fn KE => ?_)
    have hpos : 1 ≤ (⟨h₀.heap, 1⟩ : B0).tok := Nat.le_refl _
    unfold x_law_by_norm
    exact (ex_cons (st_unp fn (.cons (.cons .nil)) rfl (nodupB_ok rfl) (ev_attr' 3 XK WC (ev_v 0) (by with_unfolding_all rfl))) (ex_cons (st_set fn rfl ev_const_int) (ex_cons (st_for fn .name rfl (nodupB_ok rfl) (it_range2 (glob_of g_range) ev_const_int (ev_fn (o := .len) (glob_of g_len) (evs_cons (ev_v 2) evs_nil))) (ex_one (st_set fn rfl (ev_bin (o := .mul) (ev_v 4) (ev_bin (o := .pow) (ev_bin (o := .sub) (ev_bin (o := .add) (ev_v 1) (ev_v 5)) ev_const_int) (ev_idx (ev_v 2) (ev_v 5))))))) (ex_one (st_ret fn (ev_list' 4 (evs_cons (ev_sl (ev_v 2) evo_none (evo_some ev_const_int) evo_none (fun _ _ => rfl)) (evs_cons (ev_cmp (o := .ne) (ev_sl (ev_v 2) (evo_some (ev_neg ev_const_int)) evo_none evo_none (fun _ _ => rfl)) (ev_tup' 1 (evs_cons ev_const_int evs_nil) (by rfl) (by decide))) (evs_cons (ev_v 3) (evs_cons (ev_v 4) evs_nil)))) (by rfl) (by decide)))))))

noncomputable def x_law_lead (Φ : Nat → List Dv → Option Dv) : XF := xseq (xtupR Φ [2, 3] [.ev (.op (.bin .add) (.cons (.const (.str [46])) (.cons (.op .unlit (.cons (.var 1) .nil)) .nil))), .ev (.const (.str []))]) (xseq (xfor Φ 2 [4, 5] (.var 0) (xif Φ (.op (.cmp .eq) (.cons (.var 5) (.cons (.const (.str [40])) .nil))) (xset Φ 2 (.op (.bin .add) (.cons (.op .sl (.cons (.call 0 (.cons (.var 2) (.nil))) (.cons (.const .none) (.cons (.op .neg (.cons (.const (.int 2)) .nil)) (.cons (.const .none) .nil))))) (.cons (.op .unlit (.cons (.var 1) .nil)) .nil)))) (xif Φ (.op (.cmp .eq) (.cons (.var 5) (.cons (.const (.str [41])) .nil))) (xset Φ 3 (.op (.bin .add) (.cons (.op (.bin .add) (.cons (.op .rep (.cons (.call 0 (.cons (.var 3) (.nil))) (.cons (.const (.str [13, 10])) (.cons (.op .unlit (.cons (.var 1) .nil)) .nil)))) (.cons (.var 2) .nil))) (.cons (.ite (.op (.cmp .eq) (.cons (.var 3) (.cons (.const (.str [])) .nil))) (.op .unlit (.cons (.var 1) .nil)) (.const (.str []))) .nil)))) (xnil)))) (xret Φ (.op .rep (.cons (.op .rep (.cons (.call 1 (.cons (.var 3) (.nil))) (.cons (.const (.str [13, 10])) (.cons (.const (.str [9])) .nil)))) (.cons (.const (.str [46])) (.cons (.const (.str [32])) .nil))))))
theorem t_law_lead : ∃ d, d ∈ recsOf hd01.view_1 ∧ d.name = "_law_lead" ∧ ∀ (prog : Program) (w : World) (h₀ : B0) (Φ : Nat → List Dv → Option Dv) (k : Nat) (a : Addr) (pm cd doc : Value) (ok : FnOk h₀.heap a (Calls.docDef d.name d.params d.body d.scope pm cd doc)) (nb : NoneBooked h₀.heap) {a__fix_eols : Addr} {fd__fix_eols : FuncData} {k__fix_eols : Nat} (g__fix_eols : Gl h₀.heap "_fix_eols" (.ref a__fix_eols)) (ok__fix_eols : FnOk h₀.heap a__fix_eols fd__fix_eols) (c__fix_eols : Con prog w ⟨h₀.heap, 1⟩ (.ref a__fix_eols) k__fix_eols (Φ 1)) (hk__fix_eols : k__fix_eols ≤ k) {a_quotedata : Addr} {fd_quotedata : FuncData} {k_quotedata : Nat} (g_quotedata : Gl h₀.heap "quotedata" (.ref a_quotedata)) (ok_quotedata : FnOk h₀.heap a_quotedata fd_quotedata) (c_quotedata : Con prog w ⟨h₀.heap, 1⟩ (.ref a_quotedata) k_quotedata (Φ 0)) (hk_quotedata : k_quotedata ≤ k),
    Con prog w h₀ (.ref a) (k + 1) (bodyOf 2 4 (x_law_lead Φ)) := by
  apply Exists.intro
  apply And.intro
  · exact List.Mem.tail _ (List.Mem.tail _ (List.Mem.tail _ (List.Mem.tail _ (List.Mem.tail _ (List.Mem.tail _ (List.Mem.tail _ (List.Mem.tail _ (List.Mem.tail _ (List.Mem.head _)))))))))
  · refine ⟨rfl, ?_⟩
    intro prog w h₀ Φ k a pm cd doc ok nb a__fix_eols fd__fix_eols k__fix_eols g__fix_eols ok__fix_eols c__fix_eols hk__fix_eols a_quotedata fd_quotedata k_quotedata g_quotedata ok_quotedata c_quotedata hk_quotedata
    refine con_fn (xs := ["told", "end"]) (rest := ["counter", "mail", "place", "unit"]) (tok := 1) ok (fun _ h => bind2 h fun _ _ => rfl) (.inr ⟨by omega, _, rfl, by simp [Calls.docDef]⟩) (fun C fn KE => ?_)
    have hpos : 1 ≤ (⟨h₀.heap, 1⟩ : B0).tok := Nat.le_refl _
    unfold x_law_lead
    exact (ex_cons (@st_tupR prog w ⟨h₀.heap, 1⟩ Φ _ _ _ k _ _ _ ["counter", "mail"] _ _ _ _ _ _ fn rfl (pts_ev (ev_bin (o := .add) (ev_const_str (by decide +kernel)) (ev_unlit (ev_v 1))) (pts_ev (ev_const_str (by decide +kernel)) .nil)) rfl (by decide) (by rfl) (by rfl)) (ex_cons (st_for fn (.tup (.cons (.cons .nil)) rfl) rfl (nodupB_ok rfl) (it_ev (ev_v 0)) (ex_one (st_if fn (tst_cmp (o := .eq) (ev_v 5) (ev_const_str (by decide +kernel))) (ex_one (st_set fn rfl (ev_bin (o := .add) (ev_sl (ev_call (glob_of g_quotedata) ok_quotedata (c_quotedata.le (by omega)) rfl (evs_cons (ev_v 2) evs_nil)) evo_none (evo_some (ev_neg ev_const_int)) evo_none (fun _ _ => rfl)) (ev_unlit (ev_v 1))))) (ex_one (st_if fn (tst_cmp (o := .eq) (ev_v 5) (ev_const_str (by decide +kernel))) (ex_one (st_set fn rfl (ev_bin (o := .add) (ev_bin (o := .add) (ev_rep_cn (i := 1) (ev_call (glob_of g_quotedata) ok_quotedata (c_quotedata.le (by omega)) rfl (evs_cons (ev_v 3) evs_nil)) nb rfl rfl rfl (canVar_of rfl) rfl rfl (by rfl)) (ev_v 2)) (ev_ite (tst_cmp (o := .eq) (ev_v 3) (ev_const_str (by decide +kernel))) (ev_unlit (ev_v 1)) (ev_const_str (by decide +kernel)))))) ex_nil))))) (ex_one (st_ret fn (ev_rep_cc (ev_rep_cc (ev_call (glob_of g__fix_eols) ok__fix_eols (c__fix_eols.le (by omega)) rfl (evs_cons (ev_v 3) evs_nil)) hpos nb rfl rfl (by rfl)) hpos nb rfl rfl (by rfl))))))

noncomputable def x_strip_quoted_realnames (Φ : Nat → List Dv → Option Dv) : XF := xseq (xif Φ (.op (.cmp .notin) (.cons (.const (.str [34])) (.cons (.var 0) .nil))) (xret Φ (.var 0)) (xnil)) (xseq (xset Φ 1 (.const (.int 0))) (xseq (xset Φ 2 (.const .none)) (xseq (xown 3) (xseq (xfor Φ 2 [4, 5] (.gen (.var 0)) (xif Φ (.op (.cmp .eq) (.cons (.var 5) (.cons (.const (.str [34])) .nil))) (xif Φ (.op (.cmp .is) (.cons (.var 2) (.cons (.const .none) .nil))) (xset Φ 2 (.var 4)) (xseq (xif Φ (.op (.cmp .ne) (.cons (.var 1) (.cons (.var 2) .nil))) (xapp Φ 3 (.op .sl (.cons (.var 0) (.cons (.var 1) (.cons (.var 2) (.cons (.const .none) .nil)))))) (xnil)) (xseq (xset Φ 1 (.op (.bin .add) (.cons (.var 4) (.cons (.const (.int 1)) .nil)))) (xset Φ 2 (.const .none))))) (xnil))) (xseq (xif Φ (.op (.cmp .lt) (.cons (.var 1) (.cons (.op (.fn .len) (.cons (.var 0) (.nil))) .nil))) (xapp Φ 3 (.op .sl (.cons (.var 0) (.cons (.var 1) (.cons (.const .none) (.cons (.const .none) .nil)))))) (xnil)) (xfree 3 (xret Φ (.op (.meth .join) (.cons (.const (.str [])) (.cons (.var 3) .nil))))))))))
theorem t_strip_quoted_realnames : ∃ d, d ∈ recsOf hd01.view_1 ∧ d.name = "_strip_quoted_realnames" ∧ ∀ (prog : Program) (w : World) (h₀ : B0) (Φ : Nat → List Dv → Option Dv) (k : Nat) (a : Addr) (pm cd doc : Value) (ok : FnOk h₀.heap a (Calls.docDef d.name d.params d.body d.scope pm cd doc)) (nb : NoneBooked h₀.heap) (g_len : Gl h₀.heap "len" (.builtin "len")) {a_gen : Addr} (hk1 : 1 ≤ k) (g_gen : Gl h₀.heap "_iter_escaped_chars" (.ref a_gen)) (GEN : GenOk prog w ⟨h₀.heap, 1⟩ a_gen),
    Con prog w h₀ (.ref a) (k + 1) (bodyOf 1 5 (x_strip_quoted_realnames Φ)) := by
  apply Exists.intro
  apply And.intro
  · exact List.Mem.tail _ (List.Mem.tail _ (List.Mem.tail _ (List.Mem.tail _ (List.Mem.head _))))
  · refine ⟨rfl, ?_⟩
    intro prog w h₀ Φ k a pm cd doc ok nb g_len a_gen hk1 g_gen GEN
    refine con_fn (xs := ["addr"]) (rest := ["start", "open_pos", "result", "pos", "ch"]) (tok := 1) ok (fun _ h => bind1 h fun _ => rfl) (.inr ⟨by omega, _, rfl, by simp [Calls.docDef]⟩) (fun C fn KE => ?_)
    have hpos : 1 ≤ (⟨h₀.heap, 1⟩ : B0).tok := Nat.le_refl _
    unfold x_strip_quoted_realnames
    exact (ex_cons (st_if fn (tst_cmp (o := .notin) (ev_const_str (by decide +kernel)) (ev_v 0)) (ex_one (st_ret fn (ev_v 0))) ex_nil) (ex_cons (st_set fn rfl ev_const_int) (ex_cons (st_set fn rfl ev_const_none) (ex_cons (st_own fn rfl) (ex_cons (st_for fn (.tup (.cons (.cons .nil)) rfl) rfl (nodupB_ok rfl) (GEN.run hk1 (glob_of g_gen) (ev_v 0) rfl) (ex_one (st_if fn (tst_cmp (o := .eq) (ev_v 5) (ev_const_str (by decide +kernel))) (ex_one (st_if fn (tst_cmp (o := .is) (ev_v 2) ev_const_none) (ex_one (st_set fn rfl (ev_v 4))) (ex_cons (st_if fn (tst_cmp (o := .ne) (ev_v 1) (ev_v 2)) (ex_one (st_app fn rfl (ev_sl (ev_v 0) (evo_some (ev_v 1)) (evo_some (ev_v 2)) evo_none (fun _ _ => rfl)))) ex_nil) (ex_cons (st_set fn rfl (ev_bin (o := .add) (ev_v 4) ev_const_int)) (ex_one (st_set fn rfl ev_const_none)))))) ex_nil))) (ex_cons (st_if fn (tst_cmp (o := .lt) (ev_v 1) (ev_fn (o := .len) (glob_of g_len) (evs_cons (ev_v 0) evs_nil))) (ex_one (st_app fn rfl (ev_sl (ev_v 0) (evo_some (ev_v 1)) evo_none evo_none (fun _ _ => rfl)))) ex_nil) (ex_free fn 3 (ex_one (st_ret fn (ev_meth (o := .join) (ev_const_str (by decide +kernel)) (ev_v 3) (by rfl)))))))))))

noncomputable def x_check_parenthesis (Φ : Nat → List Dv → Option Dv) : XF := xseq (xset Φ 0 (.call 3 (.cons (.var 0) (.nil)))) (xseq (xset Φ 1 (.const (.int 0))) (xseq (xfor Φ 2 [2, 3] (.gen (.var 0)) (xif Φ (.op (.cmp .eq) (.cons (.var 3) (.cons (.const (.str [40])) .nil))) (xaug Φ 1 true (.const (.int 1))) (xif Φ (.op (.cmp .eq) (.cons (.var 3) (.cons (.const (.str [41])) .nil))) (xseq (xaug Φ 1 false (.const (.int 1))) (xif Φ (.op (.cmp .lt) (.cons (.var 1) (.cons (.const (.int 0)) .nil))) (xret Φ (.const (.bool false))) (xnil))) (xnil)))) (xret Φ (.op (.cmp .eq) (.cons (.var 1) (.cons (.const (.int 0)) .nil))))))
theorem t_check_parenthesis : ∃ d, d ∈ recsOf hd01.view_1 ∧ d.name = "_check_parenthesis" ∧ ∀ (prog : Program) (w : World) (h₀ : B0) (Φ : Nat → List Dv → Option Dv) (k : Nat) (a : Addr) (pm cd doc : Value) (ok : FnOk h₀.heap a (Calls.docDef d.name d.params d.body d.scope pm cd doc)) (nb : NoneBooked h₀.heap) {a__strip_quoted_realnames : Addr} {fd__strip_quoted_realnames : FuncData} {k__strip_quoted_realnames : Nat} (g__strip_quoted_realnames : Gl h₀.heap "_strip_quoted_realnames" (.ref a__strip_quoted_realnames)) (ok__strip_quoted_realnames : FnOk h₀.heap a__strip_quoted_realnames fd__strip_quoted_realnames) (c__strip_quoted_realnames : Con prog w ⟨h₀.heap, 1⟩ (.ref a__strip_quoted_realnames) k__strip_quoted_realnames (Φ 3)) (hk__strip_quoted_realnames : k__strip_quoted_realnames ≤ k) {a_gen : Addr} (hk1 : 1 ≤ k) (g_gen : Gl h₀.heap "_iter_escaped_chars" (.ref a_gen)) (GEN : GenOk prog w ⟨h₀.heap, 1⟩ a_gen),
    Con prog w h₀ (.ref a) (k + 1) (bodyOf 1 3 (x_check_parenthesis Φ)) := by
  apply Exists.intro
  apply And.intro
  · exact List.Mem.tail _ (List.Mem.tail _ (List.Mem.tail _ (List.Mem.tail _ (List.Mem.tail _ (List.Mem.head _)))))
  · refine ⟨rfl, ?_⟩
    intro prog w h₀ Φ k a pm cd doc ok nb a__strip_quoted_realnames fd__strip_quoted_realnames k__strip_quoted_realnames g__strip_quoted_realnames ok__strip_quoted_realnames c__strip_quoted_realnames hk__strip_quoted_realnames a_gen hk1 g_gen GEN
    refine con_fn (xs := ["addr"]) (rest := ["opens", "pos", "ch"]) (tok := 1) ok (fun _ h => bind1 h fun _ => rfl) (.inr ⟨by omega, _, rfl, by simp [Calls.docDef]⟩) (fun C fn KE => ?_)
    have hpos : 1 ≤ (⟨h₀.heap, 1⟩ : B0).tok := Nat.le_refl _
    unfold x_check_parenthesis
    exact (ex_cons (st_set fn rfl (ev_call (glob_of g__strip_quoted_realnames) ok__strip_quoted_realnames (c__strip_quoted_realnames.le (by omega)) rfl (evs_cons (ev_v 0) evs_nil))) (ex_cons (st_set fn rfl ev_const_int) (ex_cons (st_for fn (.tup (.cons (.cons .nil)) rfl) rfl (nodupB_ok rfl) (GEN.run hk1 (glob_of g_gen) (ev_v 0) rfl) (ex_one (st_if fn (tst_cmp (o := .eq) (ev_v 3) (ev_const_str (by decide +kernel))) (ex_one (st_aug (sg := true) fn rfl ev_const_int)) (ex_one (st_if fn (tst_cmp (o := .eq) (ev_v 3) (ev_const_str (by decide +kernel))) (ex_cons (st_aug (sg := false) fn rfl ev_const_int) (ex_one (st_if fn (tst_cmp (o := .lt) (ev_v 1) ev_const_int) (ex_one (st_ret fn ev_const_bool)) ex_nil))) ex_nil))))) (ex_one (st_ret fn (ev_cmp (o := .eq) (ev_v 1) ev_const_int))))))

noncomputable def x_Whitespace_equal (C_ws : Addr) (Φ : Nat → List Dv → Option Dv) : XF := xret Φ (.op (.cmp .eq) (.cons (.op (.attr C_ws 3) (.cons (.var 0) .nil)) (.cons (.op (.attr C_ws 3) (.cons (.var 1) .nil)) .nil)))
theorem t_Whitespace_equal (P : Params) : ∃ f fd o, findIn (hd01.heap_1 P) (.ref 145) "equal" = some (some (.ref f)) ∧ (hd01.heap_1 P).lookup f = some o ∧ o.data = .func fd ∧ typeIn (hd01.heap_1 P) (.ref f) = some (.type "function") ∧ codeIn (hd01.heap_1 P) fd.code fd.qualname = true ∧ ∀ (prog : Program) (w : World) (h₀ : B0) (C_ws : Addr) (Φ : Nat → List Dv → Option Dv) (k : Nat) (a : Addr) (ok : FnOk h₀.heap a fd) (nb : NoneBooked h₀.heap) {K : Frag} (XK : K.In h₀.heap) (WC : ClsOk K C_ws), Con prog w h₀ (.ref a) (k + 1) (bodyOf 2 0 (x_Whitespace_equal C_ws Φ)) := by
  refine ⟨_, _, _, by with_unfolding_all rfl, by with_unfolding_all rfl, rfl, by with_unfolding_all rfl, by with_unfolding_all rfl, ?_⟩
  · intro prog w h₀ C_ws Φ k a ok nb K XK WC
    refine con_fn (xs := ["self", "other"]) (rest := []) (tok := 1) ok (fun _ h => bind2 h fun _ _ => rfl) (.inr ⟨by omega, _, rfl, by simp⟩) (fun C fn KE => ?_)
    have hpos : 1 ≤ (⟨h₀.heap, 1⟩ : B0).tok := Nat.le_refl _
    unfold x_Whitespace_equal
    exact (ex_one (st_ret fn (ev_cmp (o := .eq) (ev_attr' 3 XK WC (ev_v 0) (by with_unfolding_all rfl)) (ev_attr' 3 XK WC (ev_v 1) (by with_unfolding_all rfl)))))

noncomputable def xi2 (Φ : Nat → List Dv → Option Dv) : XF := xtupR Φ [1, 2] [.ev (.const (.str [32])), .ev (.const (.str [9]))]
noncomputable def xi3 (Φ : Nat → List Dv → Option Dv) : XF := xown 3
noncomputable def xi4 (Φ : Nat → List Dv → Option Dv) : XF := xall Φ [4, 5, 6] (.const (.int 0))
noncomputable def xib (Φ : Nat → List Dv → Option Dv) : XF := xif Φ (.op (.cmp .eq) (.cons (.var 7) (.cons (.var 1) .nil))) (xseq (xset Φ 5 (.op (.bin .add) (.cons (.var 5) (.cons (.const (.int 1)) .nil)))) (xset Φ 4 (.op (.bin .add) (.cons (.var 4) (.cons (.const (.int 1)) .nil))))) (xif Φ (.op (.cmp .eq) (.cons (.var 7) (.cons (.var 2) .nil))) (xseq (xset Φ 5 (.op (.bin .add) (.cons (.var 5) (.cons (.const (.int 1)) .nil)))) (xseq (xset Φ 6 (.op (.bin .add) (.cons (.var 6) (.cons (.const (.int 1)) .nil)))) (xseq (xif Φ (.op (.cmp .ge) (.cons (.var 4) (.cons (.olen 3) .nil))) (xgrow Φ 3 (.op (.bin .mul) (.cons (.cons (.const (.int 0)) (.nil)) (.cons (.op (.bin .add) (.cons (.op (.bin .sub) (.cons (.var 4) (.cons (.olen 3) .nil))) (.cons (.const (.int 1)) .nil))) .nil)))) (xnil)) (xseq (xsub Φ 3 (.var 4) (.op (.bin .add) (.cons (.oidx 3 (.var 4)) (.cons (.const (.int 1)) .nil)))) (xset Φ 4 (.const (.int 0))))))) (xbrk))
theorem t_init (P : Params) : ∃ f fd o, findIn (hd01.heap_1 P) (.ref 145) "__init__" = some (some (.ref f)) ∧ (hd01.heap_1 P).lookup f = some o ∧ o.data = .func fd ∧ typeIn (hd01.heap_1 P) (.ref f) = some (.type "function") ∧ codeIn (hd01.heap_1 P) fd.code fd.qualname = true ∧ ∀ (prog : Program) (w : World) (h₀ : B0) (C_ws : Addr) (Φ : Nat → List Dv → Option Dv) (k : Nat) (ok : FnOk h₀.heap f fd) (g_len : Gl h₀.heap "len" (.builtin "len")) (g_tuple : Gl h₀.heap "tuple" (.type "tuple")) {K : Frag} (XK : K.In h₀.heap) (WC : ClsOk K C_ws) (g_Whitespace : Gl h₀.heap "Whitespace" (.ref C_ws)) {mc_ws : Value} {tS tT : Tok} (hreads : readsIn K C_ws mc_ws = true) (hS : findCls K (.ref C_ws) mc_ws "S" = some (.val (.str (mkS [32]) tS))) (hT : findCls K (.ref C_ws) mc_ws "T" = some (.val (.str (mkS [9]) tT))) (W : WsOk K C_ws f), Con prog w h₀ (.ref C_ws) (k + 2) (xmake Φ (xi2 Φ) (xi3 Φ) (xi4 Φ) (xib Φ) C_ws) := by
  refine ⟨_, _, _, by with_unfolding_all rfl, by with_unfolding_all rfl, rfl, by with_unfolding_all rfl, by with_unfolding_all rfl, ?_⟩
  intro prog w h₀ C_ws Φ k ok g_len g_tuple K XK WC g_Whitespace mc_ws tS tT hreads hS hT W
  refine make_con (q := fun i => ([default, ⟨61, 8, 61, 12⟩, ⟨61, 8, 61, 16⟩, ⟨61, 19, 61, 21⟩, ⟨61, 8, 61, 21⟩, ⟨65, 12, 65, 14⟩, ⟨65, 18, 65, 22⟩, ⟨65, 18, 65, 26⟩, ⟨65, 8, 77, 21⟩, ⟨78, 8, 78, 12⟩, ⟨78, 8, 78, 14⟩, ⟨78, 17, 78, 18⟩, ⟨78, 8, 78, 18⟩, ⟨79, 8, 79, 12⟩, ⟨79, 8, 79, 15⟩, ⟨79, 18, 79, 20⟩, ⟨79, 8, 79, 20⟩, ⟨80, 8, 80, 12⟩, ⟨80, 8, 80, 17⟩, ⟨80, 21, 80, 26⟩, ⟨80, 27, 80, 32⟩, ⟨80, 21, 80, 33⟩, ⟨80, 35, 80, 36⟩, ⟨80, 20, 80, 37⟩, ⟨80, 8, 80, 37⟩, ⟨81, 8, 81, 12⟩, ⟨81, 8, 81, 22⟩, ⟨81, 25, 81, 28⟩, ⟨81, 29, 81, 34⟩, ⟨81, 25, 81, 35⟩, ⟨81, 39, 81, 40⟩, ⟨81, 25, 81, 40⟩, ⟨81, 8, 81, 40⟩] : List Pos).getD i default) (kd := 0) XK W ok g_tuple g_len (fun C fn KE => ?_) (fun C fn KE => ?_) (fun C fn KE => ?_) (fun C fn KE => ?_) (fun u v => rfl)
  · unfold xi2
    exact (@st_tupR prog w ⟨h₀.heap, 0⟩ Φ _ _ _ k _ _ _ ["S", "T"] _ _ _ _ _ _ fn rfl (pts_ev (ev_cattr XK (glob_of g_Whitespace) hreads hS rfl (fun _ _ => .str' _ _) (by with_unfolding_all rfl)) (pts_ev (ev_cattr XK (glob_of g_Whitespace) hreads hT rfl (fun _ _ => .str' _ _) (by with_unfolding_all rfl)) .nil)) rfl (by decide) (by rfl) (by rfl))
  · unfold xi3
    exact (st_own fn rfl)
  · unfold xi4
    exact (st_all fn (.cons (.cons (.cons .nil))) rfl (by decide) ev_const_int (fun _ _ h => by cases h; exact ⟨_, rfl⟩))
  · unfold xib
    exact (ex_one (st_if fn (tst_cmp (o := .eq) (ev_v 7) (ev_v 1)) (ex_cons (st_set fn rfl (ev_bin (o := .add) (ev_v 5) ev_const_int)) (ex_one (st_set fn rfl (ev_bin (o := .add) (ev_v 4) ev_const_int)))) (ex_one (st_if fn (tst_cmp (o := .eq) (ev_v 7) (ev_v 2)) (ex_cons (st_set fn rfl (ev_bin (o := .add) (ev_v 5) ev_const_int)) (ex_cons (st_set fn rfl (ev_bin (o := .add) (ev_v 6) ev_const_int)) (ex_cons (st_if fn (tst_cmp (o := .ge) (ev_v 4) (ev_olen (glob_of g_len))) (ex_one (st_grow fn rfl (ev_bin (o := .mul) (ev_list' 1 (evs_cons ev_const_int evs_nil) (by rfl) (by decide)) (ev_bin (o := .add) (ev_bin (o := .sub) (ev_v 4) (ev_olen (glob_of g_len))) ev_const_int)))) ex_nil) (ex_cons (st_sub fn rfl (ev_v 4) (ev_bin (o := .add) (ev_vo 3 (ev_v 4)) ev_const_int)) (ex_one (st_set fn rfl ev_const_int)))))) (ex_one st_brk)))))

noncomputable def x_law (Φ : Nat → List Dv → Option Dv) : XF := xseq (xset Φ 1 (.op .sl (.cons (.op (.bin .add) (.cons (.op .sl (.cons (.var 0) (.cons (.const .none) (.cons (.const (.int 8)) (.cons (.const .none) .nil))))) (.cons (.cons (.const (.int 520)) (.cons (.const (.int 89)) (.cons (.const (.int 363)) (.cons (.const (.int 318)) (.cons (.const (.int 968)) (.cons (.const (.int 26)) (.cons (.const (.int 106)) (.cons (.const (.int 150)) (.nil))))))))) .nil))) (.cons (.const .none) (.cons (.const (.int 8)) (.cons (.const .none) .nil)))))) (xseq (xtupR Φ [2, 3] [.ev (.call 5 (.cons (.op .sl (.cons (.var 1) (.cons (.const .none) (.cons (.const (.int 4)) (.cons (.const .none) .nil))))) (.nil))), .ev (.call 5 (.cons (.op .sl (.cons (.var 1) (.cons (.const (.int 4)) (.cons (.const .none) (.cons (.const .none) .nil))))) (.nil)))]) (xseq (xset Φ 4 (.cons (.var 2) (.cons (.op (.meth .join) (.cons (.const (.str [])) (.cons (.comp (.ite (.op (.cmp .eq) (.cons (.var 17) (.cons (.const (.str [40])) .nil))) (.const (.str [41])) (.const (.str [40]))) 0 (.op .sl (.cons (.var 2) (.cons (.const .none) (.cons (.const .none) (.cons (.op .neg (.cons (.const (.int 1)) .nil)) .nil))))) (.const (.bool true))) .nil))) (.cons (.var 3) (.nil))))) (xseq (xtup Φ [5, 6, 7] [.ev (.op (.bin .sub) (.cons (.op (.bin .mod) (.cons (.op (.fn .sum) (.cons (.var 1) (.nil))) (.cons (.const (.int 201)) .nil))) (.cons (.const (.int 100)) .nil))), .own, .own]) (xseq (xfor Φ 0 [8] (.rng (.const (.int 0)) (.const (.int 3))) (xseq (xtupR Φ [9, 10] [.ev (.op .sl (.cons (.var 1) (.cons (.op (.bin .mul) (.cons (.const (.int 2)) (.cons (.var 8) .nil))) (.cons (.op (.bin .add) (.cons (.op (.bin .mul) (.cons (.const (.int 2)) (.cons (.var 8) .nil))) (.cons (.const (.int 4)) .nil))) (.cons (.const .none) .nil))))), .ev (.call 9 (.cons (.op .idx (.cons (.var 4) (.cons (.var 8) .nil))) (.nil)))]) (xseq (xset Φ 11 (.call 6 (.cons (.op .idx (.cons (.var 4) (.cons (.var 8) .nil))) (.cons (.var 9) (.nil))))) (xseq (xset Φ 12 (.comp (.var 17) 0 (.gen (.call 3 (.cons (.var 11) (.nil)))) (.const (.bool true)))) (xseq (xif Φ (.op (.cmp .ne) (.cons (.var 12) (.cons (.call 7 (.cons (.op .idx (.cons (.var 4) (.cons (.var 8) .nil))) (.cons (.var 9) (.nil)))) .nil))) (xret Φ (.const (.bool false))) (xnil)) (xseq (xapp Φ 6 (.call 8 (.cons (.var 12) (.cons (.op .idx (.cons (.cons (.const (.lit [13, 10])) (.cons (.const (.lit [10])) (.cons (.const (.lit [13])) .nil))) (.cons (.op (.bin .mod) (.cons (.op (.bin .fdiv) (.cons (.op .idx (.cons (.var 9) (.cons (.const (.int 0)) .nil))) (.cons (.const (.int 384)) .nil))) (.cons (.const (.int 3)) .nil))) .nil))) .nil)))) (xseq (xif Φ (.op (.cmp .ne) (.cons (.oidx 6 (.var 8)) (.cons (.op (.meth .join) (.cons (.const (.str [9])) (.cons (.comp (.op (.bin .mul) (.cons (.const (.str [32])) (.cons (.var 17) .nil))) 0 (.cons (.op (.bin .add) (.cons (.op .idx (.cons (.var 10) (.cons (.const (.int 0)) .nil))) (.cons (.const (.int 4)) .nil))) (.cons (.const (.int 0)) (.cons (.op (.bin .add) (.cons (.op .idx (.cons (.var 10) (.cons (.const (.int 1)) .nil))) (.cons (.const (.int 3)) .nil))) (.cons (.op (.bin .add) (.cons (.op .idx (.cons (.var 10) (.cons (.const (.int 2)) .nil))) (.cons (.const (.int 2)) .nil))) (.cons (.op (.bin .add) (.cons (.op .idx (.cons (.var 10) (.cons (.const (.int 3)) .nil))) (.cons (.const (.int 1)) .nil))) (.cons (.const (.int 0)) (.nil))))))) (.const (.bool true))) .nil))) .nil))) (xret Φ (.const (.bool false))) (xnil)) (xseq (xapp Φ 7 (.call 10 (.cons (.var 10) (.nil)))) (xseq (xset Φ 13 (.op (.bin .add) (.cons (.comp (.op (.bin .add) (.cons (.op (.bin .add) (.cons (.op (.bin .mul) (.cons (.const (.str [40])) (.cons (.var 17) .nil))) (.cons (.op .idx (.cons (.var 4) (.cons (.var 8) .nil))) .nil))) (.cons (.op (.bin .mul) (.cons (.const (.str [41])) (.cons (.var 17) .nil))) .nil))) 0 (.rng (.const (.int 0)) (.const (.int 5))) (.const (.bool true))) (.cons (.cons (.var 11) (.cons (.op (.bin .add) (.cons (.const (.str [40])) (.cons (.var 11) .nil))) (.nil))) .nil)))) (xseq (xset Φ 14 (.op (.bin .add) (.cons (.comp (.op (.fn .str) (.cons (.op (.cmp .gt) (.cons (.op .idx (.cons (.oidx 7 (.var 8)) (.cons (.op (.bin .sub) (.cons (.const (.int 4)) (.cons (.var 17) .nil))) .nil))) (.cons (.const (.int 0)) .nil))) (.nil))) 0 (.cons (.const (.int 0)) (.cons (.const (.int 1)) (.cons (.const (.int 2)) (.cons (.const (.int 3)) (.cons (.const (.int 4)) (.cons (.const (.int 0)) (.nil))))))) (.const (.bool true))) (.cons (.cons (.const (.str [70, 97, 108, 115, 101])) (.nil)) .nil)))) (xif Φ (.op (.cmp .ne) (.cons (.comp (.op (.fn .str) (.cons (.call 4 (.cons (.var 17) (.nil))) (.nil))) 0 (.var 13) (.const (.bool true))) (.cons (.var 14) .nil))) (xret Φ (.const (.bool false))) (xnil)))))))))))) (xfree 7 (xfree 6 (xseq (xset Φ 15 (.comp (.call 13 (.cons (.op (.bin .add) (.cons (.var 17) (.cons (.const (.str [120, 32, 9])) .nil))) (.nil))) 0 (.op (.bin .add) (.cons (.var 6) (.cons (.cons (.op (.bin .add) (.cons (.op .idx (.cons (.var 6) (.cons (.const (.int 0)) .nil))) (.cons (.const (.str [32])) .nil))) (.nil)) .nil))) (.const (.bool true)))) (xseq (xif Φ (.op (.cmp .ne) (.cons (.comp (.call 12 (.cons (.var 17) (.cons (.var 5) (.nil)))) 0 (.op .sl (.cons (.var 15) (.cons (.const .none) (.cons (.const (.int 3)) (.cons (.const .none) .nil))))) (.const (.bool true))) (.cons (.comp (.cons (.op .tup (.cons (.const (.int 1)) (.nil))) (.cons (.const (.bool true)) (.cons (.const (.int 0)) (.cons (.call 11 (.cons (.var 17) (.cons (.var 5) (.nil)))) (.nil))))) 0 (.var 7) (.const (.bool true))) .nil))) (xret Φ (.const (.bool false))) (xnil)) (xseq (xset Φ 16 (.cons (.op .tup (.cons (.const (.int 0)) (.cons (.const (.int 1)) (.nil)))) (.cons (.op .tup (.cons (.const (.int 0)) (.cons (.const (.int 2)) (.nil)))) (.cons (.op .tup (.cons (.const (.int 1)) (.cons (.const (.int 2)) (.nil)))) (.cons (.op .tup (.cons (.const (.int 0)) (.cons (.const (.int 3)) (.nil)))) (.nil)))))) (xret Φ (.op (.cmp .eq) (.cons (.comp (.op (.fn .str) (.cons (.call 14 (.cons (.op .idx (.cons (.var 15) (.cons (.var 17) .nil))) (.cons (.op .idx (.cons (.var 15) (.cons (.var 18) .nil))) .nil))) (.nil))) 2 (.var 16) (.const (.bool true))) (.cons (.comp (.op (.fn .str) (.cons (.and (.op (.cmp .lt) (.cons (.var 18) (.cons (.const (.int 3)) .nil))) (.op (.cmp .eq) (.cons (.op .idx (.cons (.var 7) (.cons (.var 17) .nil))) (.cons (.op .idx (.cons (.var 7) (.cons (.var 18) .nil))) .nil)))) (.nil))) 2 (.var 16) (.const (.bool true))) .nil)))))))))))))
theorem head1 : ∃ (lo : List Str) (d : DefRec) (XP : (Str → Option Value) → Heap → Prop) (YP : World → Heap → Prop), (WalkO hd01.view_1 lo XP YP PySem.Challenge.rw_sc0064_01.row.toRowW d [] (fun f vs => call f vs) → PySem.Challenge.rw_sc0064_01.Holds) ∧ (∀ w h, YP w h → (hd01.heap_1 w.params).In h) ∧ d.params.defaults = [] ∧
    ∀ (prog : Program) (w : World) (h₀ : B0) (C_ws : Addr) (Φ : Nat → List Dv → Option Dv) (k : Nat) (a : Addr) (pm cd doc : Value) (ok : FnOk h₀.heap a (Calls.docDef d.name d.params d.body d.scope pm cd doc)) (nb : NoneBooked h₀.heap) (g_range : Gl h₀.heap "range" (.type "range")) (g_str : Gl h₀.heap "str" (.type "str")) (g_sum : Gl h₀.heap "sum" (.builtin "sum")) {a__check_parenthesis : Addr} {fd__check_parenthesis : FuncData} {k__check_parenthesis : Nat} (g__check_parenthesis : Gl h₀.heap "_check_parenthesis" (.ref a__check_parenthesis)) (ok__check_parenthesis : FnOk h₀.heap a__check_parenthesis fd__check_parenthesis) (c__check_parenthesis : Con prog w ⟨h₀.heap, 1⟩ (.ref a__check_parenthesis) k__check_parenthesis (Φ 4)) (hk__check_parenthesis : k__check_parenthesis ≤ k) {a__law_by_norm : Addr} {fd__law_by_norm : FuncData} {k__law_by_norm : Nat} (g__law_by_norm : Gl h₀.heap "_law_by_norm" (.ref a__law_by_norm)) (ok__law_by_norm : FnOk h₀.heap a__law_by_norm fd__law_by_norm) (c__law_by_norm : Con prog w ⟨h₀.heap, 1⟩ (.ref a__law_by_norm) k__law_by_norm (Φ 12)) (hk__law_by_norm : k__law_by_norm ≤ k) {a__law_by_ways : Addr} {fd__law_by_ways : FuncData} {k__law_by_ways : Nat} (g__law_by_ways : Gl h₀.heap "_law_by_ways" (.ref a__law_by_ways)) (ok__law_by_ways : FnOk h₀.heap a__law_by_ways fd__law_by_ways) (c__law_by_ways : Con prog w ⟨h₀.heap, 1⟩ (.ref a__law_by_ways) k__law_by_ways (Φ 11)) (hk__law_by_ways : k__law_by_ways ≤ k) {a__law_lead : Addr} {fd__law_lead : FuncData} {k__law_lead : Nat} (g__law_lead : Gl h₀.heap "_law_lead" (.ref a__law_lead)) (ok__law_lead : FnOk h₀.heap a__law_lead fd__law_lead) (c__law_lead : Con prog w ⟨h₀.heap, 1⟩ (.ref a__law_lead) k__law_lead (Φ 8)) (hk__law_lead : k__law_lead ≤ k) {a__law_lines : Addr} {fd__law_lines : FuncData} {k__law_lines : Nat} (g__law_lines : Gl h₀.heap "_law_lines" (.ref a__law_lines)) (ok__law_lines : FnOk h₀.heap a__law_lines fd__law_lines) (c__law_lines : Con prog w ⟨h₀.heap, 1⟩ (.ref a__law_lines) k__law_lines (Φ 9)) (hk__law_lines : k__law_lines ≤ k) {a__law_rooks : Addr} {fd__law_rooks : FuncData} {k__law_rooks : Nat} (g__law_rooks : Gl h₀.heap "_law_rooks" (.ref a__law_rooks)) (ok__law_rooks : FnOk h₀.heap a__law_rooks fd__law_rooks) (c__law_rooks : Con prog w ⟨h₀.heap, 1⟩ (.ref a__law_rooks) k__law_rooks (Φ 10)) (hk__law_rooks : k__law_rooks ≤ k) {a__law_row : Addr} {fd__law_row : FuncData} {k__law_row : Nat} (g__law_row : Gl h₀.heap "_law_row" (.ref a__law_row)) (ok__law_row : FnOk h₀.heap a__law_row fd__law_row) (c__law_row : Con prog w ⟨h₀.heap, 1⟩ (.ref a__law_row) k__law_row (Φ 5)) (hk__law_row : k__law_row ≤ k) {a__law_text : Addr} {fd__law_text : FuncData} {k__law_text : Nat} (g__law_text : Gl h₀.heap "_law_text" (.ref a__law_text)) (ok__law_text : FnOk h₀.heap a__law_text fd__law_text) (c__law_text : Con prog w ⟨h₀.heap, 1⟩ (.ref a__law_text) k__law_text (Φ 6)) (hk__law_text : k__law_text ≤ k) {a__law_units : Addr} {fd__law_units : FuncData} {k__law_units : Nat} (g__law_units : Gl h₀.heap "_law_units" (.ref a__law_units)) (ok__law_units : FnOk h₀.heap a__law_units fd__law_units) (c__law_units : Con prog w ⟨h₀.heap, 1⟩ (.ref a__law_units) k__law_units (Φ 7)) (hk__law_units : k__law_units ≤ k) {a__strip_quoted_realnames : Addr} {fd__strip_quoted_realnames : FuncData} {k__strip_quoted_realnames : Nat} (g__strip_quoted_realnames : Gl h₀.heap "_strip_quoted_realnames" (.ref a__strip_quoted_realnames)) (ok__strip_quoted_realnames : FnOk h₀.heap a__strip_quoted_realnames fd__strip_quoted_realnames) (c__strip_quoted_realnames : Con prog w ⟨h₀.heap, 1⟩ (.ref a__strip_quoted_realnames) k__strip_quoted_realnames (Φ 3)) (hk__strip_quoted_realnames : k__strip_quoted_realnames ≤ k) (hstr : ∀ ds d, Φ 8 ds = some d → ∃ y, d = .str y) {a_gen : Addr} (hk1 : 1 ≤ k) (g_gen : Gl h₀.heap "_iter_escaped_chars" (.ref a_gen)) (GEN : GenOk prog w ⟨h₀.heap, 1⟩ a_gen) {K : Frag} (XK : K.In h₀.heap) (WC : ClsOk K C_ws) (g_Whitespace : Gl h₀.heap "Whitespace" (.ref C_ws)) {k_ws : Nat} (c_ws : Con prog w ⟨h₀.heap, 1⟩ (.ref C_ws) k_ws (Φ 13)) (hk_ws : k_ws ≤ k) {f_equal : Addr} {fd_equal : FuncData} {k_equal : Nat} (hf_equal : findIn K (.ref C_ws) "equal" = some (some (.ref f_equal))) (ht_equal : typeIn K (.ref f_equal) = some (.type "function")) (ok_equal : FnOk h₀.heap f_equal fd_equal) (c_equal : Con prog w ⟨h₀.heap, 1⟩ (.ref f_equal) k_equal (Φ 14)) (hk_equal : k_equal ≤ k) (ho_equal : ∀ d1 d2 r, Φ 14 [d1, d2] = some r → ∃ fs, d1 = .obj C_ws fs),
    Con prog w h₀ (.ref a) (k + 1) (bodyOf 1 16 (x_law Φ)) := by
  refine ⟨_, _, _, _, fun H => holds_law said fun _ => hd01 H, fun w h Y => kIn_of Y, rfl, ?_⟩
  intro prog w h₀ C_ws Φ k a pm cd doc ok nb g_range g_str g_sum a__check_parenthesis fd__check_parenthesis k__check_parenthesis g__check_parenthesis ok__check_parenthesis c__check_parenthesis hk__check_parenthesis a__law_by_norm fd__law_by_norm k__law_by_norm g__law_by_norm ok__law_by_norm c__law_by_norm hk__law_by_norm a__law_by_ways fd__law_by_ways k__law_by_ways g__law_by_ways ok__law_by_ways c__law_by_ways hk__law_by_ways a__law_lead fd__law_lead k__law_lead g__law_lead ok__law_lead c__law_lead hk__law_lead a__law_lines fd__law_lines k__law_lines g__law_lines ok__law_lines c__law_lines hk__law_lines a__law_rooks fd__law_rooks k__law_rooks g__law_rooks ok__law_rooks c__law_rooks hk__law_rooks a__law_row fd__law_row k__law_row g__law_row ok__law_row c__law_row hk__law_row a__law_text fd__law_text k__law_text g__law_text ok__law_text c__law_text hk__law_text a__law_units fd__law_units k__law_units g__law_units ok__law_units c__law_units hk__law_units a__strip_quoted_realnames fd__strip_quoted_realnames k__strip_quoted_realnames g__strip_quoted_realnames ok__strip_quoted_realnames c__strip_quoted_realnames hk__strip_quoted_realnames hstr a_gen hk1 g_gen GEN K XK WC g_Whitespace k_ws c_ws hk_ws f_equal fd_equal k_equal hf_equal ht_equal ok_equal c_equal hk_equal ho_equal
  refine con_fn (xs := ["script"]) (rest := ["drawn", "first", "second", "boards", "point", "margins", "rooks", "b", "digits", "stairs", "typed", "heard", "tried", "taken", "leads", "pairs"]) (tok := 1) ok (fun _ h => bind1 h fun _ => rfl) (.inr ⟨by omega, _, rfl, by simp [Calls.docDef]⟩) (fun C fn KE => ?_)
  have hpos : 1 ≤ (⟨h₀.heap, 1⟩ : B0).tok := Nat.le_refl _
  unfold x_law
  exact (ex_cons (st_set fn rfl (ev_sl (ev_bin (o := .add) (ev_sl (ev_v 0) evo_none (evo_some ev_const_int) evo_none (fun _ _ => rfl)) (ev_list' 8 (evs_cons ev_const_int (evs_cons ev_const_int (evs_cons ev_const_int (evs_cons ev_const_int (evs_cons ev_const_int (evs_cons ev_const_int (evs_cons ev_const_int (evs_cons ev_const_int evs_nil)))))))) (by rfl) (by decide))) evo_none (evo_some ev_const_int) evo_none (fun _ _ => rfl))) (ex_cons (@st_tupR prog w ⟨h₀.heap, 1⟩ Φ _ _ _ k _ _ _ ["first", "second"] _ _ _ _ _ _ fn rfl (pts_ev (ev_call (glob_of g__law_row) ok__law_row (c__law_row.le (by omega)) rfl (evs_cons (ev_sl (ev_v 1) evo_none (evo_some ev_const_int) evo_none (fun _ _ => rfl)) evs_nil)) (pts_ev (ev_call (glob_of g__law_row) ok__law_row (c__law_row.le (by omega)) rfl (evs_cons (ev_sl (ev_v 1) (evo_some ev_const_int) evo_none evo_none (fun _ _ => rfl)) evs_nil)) .nil)) rfl (by decide) (by rfl) (by rfl)) (ex_cons (st_set fn rfl (ev_list' 3 (evs_cons (ev_v 2) (evs_cons (ev_meth (o := .join) (ev_const_str (by decide +kernel)) (ev_comp (comp_of KE (it_ev (ev_sl (ev_v 2) evo_none evo_none (evo_some (ev_neg ev_const_int)) (fun _ _ => rfl))) .name (fun C KE => (ev_ite (tst_cmp (o := .eq) (ev_v 17) (ev_const_str (by decide +kernel))) (ev_const_str (by decide +kernel)) (ev_const_str (by decide +kernel)))) (fun _ => .nil))) (by rfl)) (evs_cons (ev_v 3) evs_nil))) (by rfl) (by decide))) (ex_cons (st_tup fn (.cons (.cons (.cons .nil))) rfl (pts_ev (ev_bin (o := .sub) (ev_bin (o := .mod) (ev_fn (o := .sum) (glob_of g_sum) (evs_cons (ev_v 1) evs_nil)) ev_const_int) ev_const_int) (pts_own (pts_own .nil))) rfl rfl (by decide)) (ex_cons (st_for fn .name rfl (nodupB_ok rfl) (it_range1 (glob_of g_range) ev_const_int) (ex_cons (@st_tupR prog w ⟨h₀.heap, 1⟩ Φ _ _ _ k _ _ _ ["digits", "stairs"] _ _ _ _ _ _ fn rfl (pts_ev (ev_sl (ev_v 1) (evo_some (ev_bin (o := .mul) ev_const_int (ev_v 8))) (evo_some (ev_bin (o := .add) (ev_bin (o := .mul) ev_const_int (ev_v 8)) ev_const_int)) evo_none (fun _ _ => rfl)) (pts_ev (ev_call (glob_of g__law_lines) ok__law_lines (c__law_lines.le (by omega)) rfl (evs_cons (ev_idx (ev_v 4) (ev_v 8)) evs_nil)) .nil)) rfl (by decide) (by rfl) (by rfl)) (ex_cons (st_set fn rfl (ev_call (glob_of g__law_text) ok__law_text (c__law_text.le (by omega)) rfl (evs_cons (ev_idx (ev_v 4) (ev_v 8)) (evs_cons (ev_v 9) evs_nil)))) (ex_cons (st_comp fn rfl (comp_of KE (GEN.run hk1 (glob_of g_gen) (ev_call (glob_of g__strip_quoted_realnames) ok__strip_quoted_realnames (c__strip_quoted_realnames.le (by omega)) rfl (evs_cons (ev_v 11) evs_nil)) rfl) .name (fun C KE => (ev_v 17)) (fun _ => .nil))) (ex_cons (st_if fn (tst_cmp (o := .ne) (ev_v 12) (ev_call (glob_of g__law_units) ok__law_units (c__law_units.le (by omega)) rfl (evs_cons (ev_idx (ev_v 4) (ev_v 8)) (evs_cons (ev_v 9) evs_nil)))) (ex_one (st_ret fn ev_const_bool)) ex_nil) (ex_cons (st_app fn rfl (ev_call_lit hpos (glob_of g__law_lead) ok__law_lead (c__law_lead.le (by omega)) rfl hstr (ev_v 12) (ev_bin (o := .mod) (ev_bin (o := .fdiv) (ev_idx (ev_v 9) ev_const_int) ev_const_int) ev_const_int) (by decide +kernel) (by decide +kernel) (by decide +kernel))) (ex_cons (st_if fn (tst_cmp (o := .ne) (ev_vo 6 (ev_v 8)) (ev_meth (o := .join) (ev_const_str (by decide +kernel)) (ev_comp (comp_of KE (it_ev (ev_list' 6 (evs_cons (ev_bin (o := .add) (ev_idx (ev_v 10) ev_const_int) ev_const_int) (evs_cons ev_const_int (evs_cons (ev_bin (o := .add) (ev_idx (ev_v 10) ev_const_int) ev_const_int) (evs_cons (ev_bin (o := .add) (ev_idx (ev_v 10) ev_const_int) ev_const_int) (evs_cons (ev_bin (o := .add) (ev_idx (ev_v 10) ev_const_int) ev_const_int) (evs_cons ev_const_int evs_nil)))))) (by rfl) (by decide))) .name (fun C KE => (ev_bin (o := .mul) (ev_const_str (by decide +kernel)) (ev_v 17))) (fun _ => .nil))) (by rfl))) (ex_one (st_ret fn ev_const_bool)) ex_nil) (ex_cons (st_app fn rfl (ev_call (glob_of g__law_rooks) ok__law_rooks (c__law_rooks.le (by omega)) rfl (evs_cons (ev_v 10) evs_nil))) (ex_cons (st_set fn rfl (ev_bin (o := .add) (ev_comp (comp_of KE (it_range1 (glob_of g_range) ev_const_int) .name (fun C KE => (ev_bin (o := .add) (ev_bin (o := .add) (ev_bin (o := .mul) (ev_const_str (by decide +kernel)) (ev_v 17)) (ev_idx (ev_v 4) (ev_v 8))) (ev_bin (o := .mul) (ev_const_str (by decide +kernel)) (ev_v 17)))) (fun _ => .nil))) (ev_list' 2 (evs_cons (ev_v 11) (evs_cons (ev_bin (o := .add) (ev_const_str (by decide +kernel)) (ev_v 11)) evs_nil)) (by rfl) (by decide)))) (ex_cons (st_set fn rfl (ev_bin (o := .add) (ev_comp (comp_of KE (it_ev (ev_list' 6 (evs_cons ev_const_int (evs_cons ev_const_int (evs_cons ev_const_int (evs_cons ev_const_int (evs_cons ev_const_int (evs_cons ev_const_int evs_nil)))))) (by rfl) (by decide))) .name (fun C KE => (ev_fn (o := .str) (glob_of g_str) (evs_cons (ev_cmp (o := .gt) (ev_idx (ev_vo 7 (ev_v 8)) (ev_bin (o := .sub) ev_const_int (ev_v 17))) ev_const_int) evs_nil))) (fun _ => .nil))) (ev_list' 1 (evs_cons (ev_const_str (by decide +kernel)) evs_nil) (by rfl) (by decide)))) (ex_one (st_if fn (tst_cmp (o := .ne) (ev_comp (comp_of KE (it_ev (ev_v 13)) .name (fun C KE => (ev_fn (o := .str) (glob_of g_str) (evs_cons (ev_call (glob_of g__check_parenthesis) ok__check_parenthesis (c__check_parenthesis.le (by omega)) rfl (evs_cons (ev_v 17) evs_nil)) evs_nil))) (fun _ => .nil))) (ev_v 14)) (ex_one (st_ret fn ev_const_bool)) ex_nil)))))))))))) (ex_free fn 7 (ex_free fn 6 (ex_cons (st_set fn rfl (ev_comp (comp_of KE (it_ev (ev_bin (o := .add) (ev_v 6) (ev_list' 1 (evs_cons (ev_bin (o := .add) (ev_idx (ev_v 6) ev_const_int) (ev_const_str (by decide +kernel))) evs_nil) (by rfl) (by decide)))) .name (fun C KE => (ev_new XK WC.keep (glob_of g_Whitespace) (c_ws.le (by omega)) rfl (evs_cons (ev_bin (o := .add) (ev_v 17) (ev_const_str (by decide +kernel))) evs_nil))) (fun _ => .nil)))) (ex_cons (st_if fn (tst_cmp (o := .ne) (ev_comp (comp_of KE (it_ev (ev_sl (ev_v 15) evo_none (evo_some ev_const_int) evo_none (fun _ _ => rfl))) .name (fun C KE => (ev_call (glob_of g__law_by_norm) ok__law_by_norm (c__law_by_norm.le (by omega)) rfl (evs_cons (ev_v 17) (evs_cons (ev_v 5) evs_nil)))) (fun _ => .nil))) (ev_comp (comp_of KE (it_ev (ev_v 7)) .name (fun C KE => (ev_list' 4 (evs_cons (ev_tup' 1 (evs_cons ev_const_int evs_nil) (by rfl) (by decide)) (evs_cons ev_const_bool (evs_cons ev_const_int (evs_cons (ev_call (glob_of g__law_by_ways) ok__law_by_ways (c__law_by_ways.le (by omega)) rfl (evs_cons (ev_v 17) (evs_cons (ev_v 5) evs_nil))) evs_nil)))) (by rfl) (by decide))) (fun _ => .nil)))) (ex_one (st_ret fn ev_const_bool)) ex_nil) (ex_cons (st_set fn rfl (ev_list' 4 (evs_cons (ev_tup' 2 (evs_cons ev_const_int (evs_cons ev_const_int evs_nil)) (by rfl) (by decide)) (evs_cons (ev_tup' 2 (evs_cons ev_const_int (evs_cons ev_const_int evs_nil)) (by rfl) (by decide)) (evs_cons (ev_tup' 2 (evs_cons ev_const_int (evs_cons ev_const_int evs_nil)) (by rfl) (by decide)) (evs_cons (ev_tup' 2 (evs_cons ev_const_int (evs_cons ev_const_int evs_nil)) (by rfl) (by decide)) evs_nil)))) (by rfl) (by decide))) (ex_one (st_ret fn (ev_cmp (o := .eq) (ev_comp (comp_of KE (it_ev (ev_v 16)) (.tup (.cons (.cons .nil)) rfl) (fun C KE => (ev_fn (o := .str) (glob_of g_str) (evs_cons (ev_mcall (nm := "equal") (by decide +kernel) XK WC.geta WC.gattr hf_equal ht_equal ok_equal (c_equal.le (by omega)) rfl ho_equal (ev_idx (ev_v 15) (ev_v 17)) (ev_idx (ev_v 15) (ev_v 18)) (by rfl)) evs_nil))) (fun _ => .nil))) (ev_comp (comp_of KE (it_ev (ev_v 16)) (.tup (.cons (.cons .nil)) rfl) (fun C KE => (ev_fn (o := .str) (glob_of g_str) (evs_cons (ev_and (ev_cmp (o := .lt) (ev_v 18) ev_const_int) (ev_cmp (o := .eq) (ev_idx (ev_v 7) (ev_v 17)) (ev_idx (ev_v 7) (ev_v 18)))) evs_nil))) (fun _ => .nil))))))))))))))))

end Mine

set_option maxHeartbeats 4000000
namespace Mine
open PySem PySem.W PyProof.Rows

noncomputable def Φ0 : Nat → List Dv → Option Dv := fun _ _ => none
noncomputable def f_quotedata : List Dv → Option Dv := bodyOf 1 0 (x_quotedata Φ0)
noncomputable def f_fix_eols : List Dv → Option Dv := bodyOf 1 0 (x_fix_eols Φ0)
noncomputable def f_strip_quoted_realnames : List Dv → Option Dv := bodyOf 1 5 (x_strip_quoted_realnames Φ0)
noncomputable def f_law_row : List Dv → Option Dv := bodyOf 1 3 (x_law_row Φ0)
noncomputable def f_law_text : List Dv → Option Dv := bodyOf 2 1 (x_law_text Φ0)
noncomputable def f_law_units : List Dv → Option Dv := bodyOf 2 5 (x_law_units Φ0)
noncomputable def f_law_lines : List Dv → Option Dv := bodyOf 1 0 (x_law_lines Φ0)
noncomputable def f_law_rooks : List Dv → Option Dv := bodyOf 1 2 (x_law_rooks Φ0)
noncomputable def f_law_by_ways : List Dv → Option Dv := bodyOf 2 3 (x_law_by_ways Φ0)
noncomputable def f_law_by_norm : List Dv → Option Dv := bodyOf 2 4 (x_law_by_norm 145 Φ0)
noncomputable def f_Whitespace : List Dv → Option Dv := xmake Φ0 (xi2 Φ0) (xi3 Φ0) (xi4 Φ0) (xib Φ0) 145
noncomputable def f_equal : List Dv → Option Dv := gObj 145 (bodyOf 2 0 (x_Whitespace_equal 145 Φ0))
noncomputable def Φa : Nat → List Dv → Option Dv
  | 0 => f_quotedata
  | 1 => f_fix_eols
  | 3 => f_strip_quoted_realnames
  | _ => fun _ => none
noncomputable def f_check_parenthesis : List Dv → Option Dv := bodyOf 1 3 (x_check_parenthesis Φa)
noncomputable def f_law_lead : List Dv → Option Dv := gStr (bodyOf 2 4 (x_law_lead Φa))
noncomputable def Φ1 : Nat → List Dv → Option Dv
  | 0 => f_quotedata
  | 1 => f_fix_eols
  | 3 => f_strip_quoted_realnames
  | 4 => f_check_parenthesis
  | 5 => f_law_row
  | 6 => f_law_text
  | 7 => f_law_units
  | 8 => f_law_lead
  | 9 => f_law_lines
  | 10 => f_law_rooks
  | 11 => f_law_by_ways
  | 12 => f_law_by_norm
  | 13 => f_Whitespace
  | 14 => f_equal
  | _ => fun _ => none
noncomputable def f_law : List Dv → Option Dv := bodyOf 1 16 (x_law Φ1)

end Mine

set_option maxHeartbeats 4000000
namespace Mine
open PySem PySem.W PyProof.Rows
theorem t_iter : ∃ d, d ∈ recsOf hd01.view_1 ∧ d.name = "_iter_escaped_chars" ∧ ∀ (prog : Program) (w : World) (h₀ : B0) (a : Addr) (pm cd doc : Value) (ok : FnOk h₀.heap a (Calls.docDef d.name d.params d.body d.scope pm cd doc)) (gl : Gl h₀.heap "enumerate" (.type "enumerate")), GenOk prog w h₀ a := by
  apply Exists.intro
  apply And.intro
  · exact List.Mem.tail _ (List.Mem.tail _ (List.Mem.tail _ (List.Mem.head _)))
  · refine ⟨rfl, ?_⟩
    intro prog w h₀ a pm cd doc ok gl
    exact gen_ok (q := fun i => ([⟨18, 11, 18, 17⟩, ⟨19, 19, 19, 22⟩, ⟨19, 24, 19, 28⟩, ⟨19, 31, 19, 33⟩, ⟨19, 24, 19, 33⟩, ⟨19, 18, 19, 34⟩, ⟨19, 12, 19, 34⟩, ⟨19, 12, 19, 34⟩, ⟨20, 12, 20, 18⟩, ⟨20, 21, 20, 26⟩, ⟨20, 12, 20, 26⟩, ⟨21, 13, 21, 15⟩, ⟨21, 19, 21, 23⟩, ⟨21, 13, 21, 23⟩, ⟨22, 12, 22, 18⟩, ⟨22, 21, 22, 25⟩, ⟨22, 12, 22, 25⟩, ⟨24, 19, 24, 22⟩, ⟨24, 24, 24, 26⟩, ⟨24, 18, 24, 27⟩, ⟨24, 12, 24, 27⟩, ⟨24, 12, 24, 27⟩, ⟨21, 8, 24, 27⟩, ⟨18, 8, 24, 27⟩, default, default, default, default, default, default, ⟨17, 8, 17, 11⟩, ⟨17, 13, 17, 15⟩, ⟨17, 8, 17, 15⟩, default, default, default, default, default, default, default, ⟨15, 4, 15, 7⟩, ⟨15, 10, 15, 11⟩, ⟨15, 4, 15, 11⟩, ⟨16, 4, 16, 10⟩, ⟨16, 13, 16, 18⟩, ⟨16, 4, 16, 18⟩, ⟨17, 19, 17, 28⟩, ⟨17, 29, 17, 33⟩, ⟨17, 19, 17, 34⟩, ⟨17, 4, 24, 27⟩, ⟨25, 7, 25, 13⟩, ⟨25, 4, 26, 25⟩] : List Pos).getD i default) ok gl (by intro v; rfl)

end Mine

set_option maxHeartbeats 4000000
namespace Mine
open PySem PySem.W PyProof.Rows
theorem w_ws (P : Params) {fI : Addr} (h : findIn (hd01.heap_1 P) (.ref 145) "__init__" = some (some (.ref fI))) : WsOk (hd01.heap_1 P) 145 fI where
  makes := by with_unfolding_all rfl
  init := h
  fn := by
    have e : findIn (hd01.heap_1 P) (.ref 145) "__init__" = some (some (.ref 100)) := by with_unfolding_all rfl
    rw [e] at h; cases h; with_unfolding_all rfl
  seta := by with_unfolding_all rfl
  plain := by with_unfolding_all rfl
  takes := fun j => by
    unfold fname
    split <;> with_unfolding_all rfl
  has := by with_unfolding_all rfl
  geta := by with_unfolding_all rfl
  cd := ⟨_, by with_unfolding_all rfl, rfl⟩
  raw := by with_unfolding_all rfl
theorem w_cls (P : Params) : ClsOk (hd01.heap_1 P) 145 where
  geta := by with_unfolding_all rfl
  cd := ⟨_, by with_unfolding_all rfl, rfl⟩
  fld := fun j => by
    unfold fname
    split <;> with_unfolding_all rfl
  gattr := by with_unfolding_all rfl
  keep := by with_unfolding_all rfl
theorem w_pat1 (P : Params) {h : Heap} (X : (hd01.heap_1 P).In h) : ∃ p, nsIn (hd01.heap_1 P) mainGlobals "_twin_re_1" = some (some (.ref p)) ∧ PatOk h p C1 := by
  refine ⟨43, by with_unfolding_all rfl, ⟨_, _, _, _, _, _, X _ _ (by with_unfolding_all rfl), rfl, rfl, rfl, rfl, rfl, rfl, X _ _ (by with_unfolding_all rfl), rfl, by with_unfolding_all rfl⟩⟩
theorem w_pat2 (P : Params) {h : Heap} (X : (hd01.heap_1 P).In h) : ∃ p, nsIn (hd01.heap_1 P) mainGlobals "_twin_re_2" = some (some (.ref p)) ∧ PatOk h p C2 := by
  refine ⟨48, by with_unfolding_all rfl, ⟨_, _, _, _, _, _, X _ _ (by with_unfolding_all rfl), rfl, rfl, rfl, rfl, rfl, rfl, X _ _ (by with_unfolding_all rfl), rfl, by with_unfolding_all rfl⟩⟩
theorem w_crlf (P : Params) : ∃ t, nsIn (hd01.heap_1 P) mainGlobals "CRLF" = some (some (.str (mkS [13, 10]) t)) := ⟨_, by with_unfolding_all rfl⟩
theorem w_booked (P : Params) : nsIn (hd01.heap_1 P) cStatics sharingNotToldKey = some none := by with_unfolding_all rfl
theorem w_cattr (P : Params) : ∃ mc tS tT, readsIn (hd01.heap_1 P) 145 mc = true ∧ findCls (hd01.heap_1 P) (.ref 145) mc "S" = some (.val (.str (mkS [32]) tS)) ∧ findCls (hd01.heap_1 P) (.ref 145) mc "T" = some (.val (.str (mkS [9]) tT)) :=
  ⟨.type "type", _, _, by with_unfolding_all rfl, by with_unfolding_all rfl, by with_unfolding_all rfl⟩
theorem w_wsname (P : Params) : nsIn (hd01.heap_1 P) mainGlobals "Whitespace" = some (some (.ref 145)) := by with_unfolding_all rfl
theorem w_b (P : Params) : (["len", "sum", "str", "divmod", "min", "max", "tuple", "range", "enumerate"] : List Str).map (nsIn (hd01.heap_1 P) mainGlobals) = [some none, some none, some none, some none, some none, some none, some none, some none, some none] := by with_unfolding_all rfl
theorem w_bl (P : Params) : ∀ x ∈ (["len", "sum", "str", "divmod", "min", "max", "tuple", "range", "enumerate"] : List Str), nsIn (hd01.heap_1 P) mainGlobals x = some none := by
  have h := w_b P
  simp only [List.map_cons, List.map_nil, List.cons.injEq, and_true] at h
  simp only [List.mem_cons, List.not_mem_nil, or_false]
  obtain ⟨a, b, c, d, e, f, g, i, j⟩ := h
  rintro x (rfl | rfl | rfl | rfl | rfl | rfl | rfl | rfl | rfl) <;> assumption
end Mine

set_option maxHeartbeats 4000000
namespace Mine
open PySem PySem.W PyProof.Rows
theorem join1 (plain : ∀ ns : List Int, ns.length ≤ 63 → f_law [.list (ns.map .int)] = some (.bool true)) : PySem.Challenge.rw_sc0064_01.Holds := by
  obtain ⟨lo, d, XP, YP, H, HK, hdd, HC⟩ := head1
  refine H ?_
  intro w s₀ s₁ mg mb G Y fa o pm cd doc dV kV ho hd hcd hD hmg hg args vals as hpre hlay hrd hwl hlo
  have KX := HK _ _ Y
  refine Ground.open G ?_
  intro T B D TE TW
  have hdV := Dflts.none hD hdd
  subst hdV
  have hkV := Dflts.noKw hD
  subst hkV
  have okl : FnOk s₁.heap fa (Calls.docDef d.name d.params d.body d.scope pm cd doc) := ⟨⟨o, ho, hd⟩, T.nolimit, hcd⟩
  have nb := booked_of KX T.nolimit (w_booked _)
  have C : ∀ prog : Program, Con prog w ⟨s₁.heap, 0⟩ (.ref fa) 6 f_law := by
    intro prog
    have g_len := gl_b KX T (w_bl _ "len" (by decide)) (v := (.builtin "len"))
    have g_sum := gl_b KX T (w_bl _ "sum" (by decide)) (v := (.builtin "sum"))
    have g_str := gl_b KX T (w_bl _ "str" (by decide)) (v := (.type "str"))
    have g_divmod := gl_b KX T (w_bl _ "divmod" (by decide)) (v := (.builtin "divmod"))
    have g_min := gl_b KX T (w_bl _ "min" (by decide)) (v := (.builtin "min"))
    have g_max := gl_b KX T (w_bl _ "max" (by decide)) (v := (.builtin "max"))
    have g_tuple := gl_b KX T (w_bl _ "tuple" (by decide)) (v := (.type "tuple"))
    have g_range := gl_b KX T (w_bl _ "range" (by decide)) (v := (.type "range"))
    have g_enumerate := gl_b KX T (w_bl _ "enumerate" (by decide)) (v := (.type "enumerate"))
    obtain ⟨p1, n1, P1⟩ := w_pat1 _ KX
    obtain ⟨p2, n2, P2⟩ := w_pat2 _ KX
    obtain ⟨tc, nc⟩ := w_crlf w.params
    have g1 := gl_k KX T n1
    have g2 := gl_k KX T n2
    have gc := gl_k KX T nc
    have gw := gl_k KX T (w_wsname _)
    have WC := w_cls w.params
    obtain ⟨mc, tS, tT, hr, hS, hT⟩ := w_cattr w.params
    obtain ⟨dquotedata, mquotedata, nquotedata, tquotedata⟩ := t_quotedata
    obtain ⟨aquotedata, pmquotedata, cdquotedata, docquotedata, gquotedata, okquotedata⟩ := fn_top T mquotedata nquotedata
    obtain ⟨d_fix_eols, m_fix_eols, n_fix_eols, t_fix_eols⟩ := t_fix_eols
    obtain ⟨a_fix_eols, pm_fix_eols, cd_fix_eols, doc_fix_eols, g_fix_eols, ok_fix_eols⟩ := fn_top T m_fix_eols n_fix_eols
    obtain ⟨d_strip_quoted_realnames, m_strip_quoted_realnames, n_strip_quoted_realnames, t_strip_quoted_realnames⟩ := t_strip_quoted_realnames
    obtain ⟨a_strip_quoted_realnames, pm_strip_quoted_realnames, cd_strip_quoted_realnames, doc_strip_quoted_realnames, g_strip_quoted_realnames, ok_strip_quoted_realnames⟩ := fn_top T m_strip_quoted_realnames n_strip_quoted_realnames
    obtain ⟨d_check_parenthesis, m_check_parenthesis, n_check_parenthesis, t_check_parenthesis⟩ := t_check_parenthesis
    obtain ⟨a_check_parenthesis, pm_check_parenthesis, cd_check_parenthesis, doc_check_parenthesis, g_check_parenthesis, ok_check_parenthesis⟩ := fn_top T m_check_parenthesis n_check_parenthesis
    obtain ⟨d_law_row, m_law_row, n_law_row, t_law_row⟩ := t_law_row
    obtain ⟨a_law_row, pm_law_row, cd_law_row, doc_law_row, g_law_row, ok_law_row⟩ := fn_top T m_law_row n_law_row
    obtain ⟨d_law_text, m_law_text, n_law_text, t_law_text⟩ := t_law_text
    obtain ⟨a_law_text, pm_law_text, cd_law_text, doc_law_text, g_law_text, ok_law_text⟩ := fn_top T m_law_text n_law_text
    obtain ⟨d_law_units, m_law_units, n_law_units, t_law_units⟩ := t_law_units
    obtain ⟨a_law_units, pm_law_units, cd_law_units, doc_law_units, g_law_units, ok_law_units⟩ := fn_top T m_law_units n_law_units
    obtain ⟨d_law_lead, m_law_lead, n_law_lead, t_law_lead⟩ := t_law_lead
    obtain ⟨a_law_lead, pm_law_lead, cd_law_lead, doc_law_lead, g_law_lead, ok_law_lead⟩ := fn_top T m_law_lead n_law_lead
    obtain ⟨d_law_lines, m_law_lines, n_law_lines, t_law_lines⟩ := t_law_lines
    obtain ⟨a_law_lines, pm_law_lines, cd_law_lines, doc_law_lines, g_law_lines, ok_law_lines⟩ := fn_top T m_law_lines n_law_lines
    obtain ⟨d_law_rooks, m_law_rooks, n_law_rooks, t_law_rooks⟩ := t_law_rooks
    obtain ⟨a_law_rooks, pm_law_rooks, cd_law_rooks, doc_law_rooks, g_law_rooks, ok_law_rooks⟩ := fn_top T m_law_rooks n_law_rooks
    obtain ⟨d_law_by_ways, m_law_by_ways, n_law_by_ways, t_law_by_ways⟩ := t_law_by_ways
    obtain ⟨a_law_by_ways, pm_law_by_ways, cd_law_by_ways, doc_law_by_ways, g_law_by_ways, ok_law_by_ways⟩ := fn_top T m_law_by_ways n_law_by_ways
    obtain ⟨d_law_by_norm, m_law_by_norm, n_law_by_norm, t_law_by_norm⟩ := t_law_by_norm
    obtain ⟨a_law_by_norm, pm_law_by_norm, cd_law_by_norm, doc_law_by_norm, g_law_by_norm, ok_law_by_norm⟩ := fn_top T m_law_by_norm n_law_by_norm
    obtain ⟨dg, mg_, ng_, tg⟩ := t_iter
    obtain ⟨ag, pmg, cdg, docg, gg, okg⟩ := fn_top T mg_ ng_
    have GEN : GenOk prog w ⟨s₁.heap, 1⟩ ag := tg prog w ⟨s₁.heap, 1⟩ ag pmg cdg docg okg g_enumerate
    obtain ⟨fi, fdi, oi, hi1, hi2, hi3, hi4, hi5, ti⟩ := t_init w.params
    obtain ⟨fe, fde, oe, he1, he2, he3, he4, he5, te⟩ := t_Whitespace_equal w.params
    have oki : FnOk s₁.heap fi fdi := fn_K KX T.nolimit hi2 hi3 (codeRec_of KX hi5)
    have oke : FnOk s₁.heap fe fde := fn_K KX T.nolimit he2 he3 (codeRec_of KX he5)
    have cquotedata : Con prog w ⟨s₁.heap, 1⟩ (.ref aquotedata) 1 f_quotedata := tquotedata prog w ⟨s₁.heap, 1⟩ Φ0 0 aquotedata pmquotedata cdquotedata docquotedata okquotedata nb g1 P1 g2 P2 gc
    have c_fix_eols : Con prog w ⟨s₁.heap, 1⟩ (.ref a_fix_eols) 1 f_fix_eols := t_fix_eols prog w ⟨s₁.heap, 1⟩ Φ0 0 a_fix_eols pm_fix_eols cd_fix_eols doc_fix_eols ok_fix_eols nb g2 P2 gc
    have c_law_row : Con prog w ⟨s₁.heap, 1⟩ (.ref a_law_row) 1 f_law_row := t_law_row prog w ⟨s₁.heap, 1⟩ Φ0 0 a_law_row pm_law_row cd_law_row doc_law_row ok_law_row nb g_range
    have c_law_text : Con prog w ⟨s₁.heap, 1⟩ (.ref a_law_text) 1 f_law_text := t_law_text prog w ⟨s₁.heap, 1⟩ Φ0 0 a_law_text pm_law_text cd_law_text doc_law_text ok_law_text nb g_range
    have c_law_units : Con prog w ⟨s₁.heap, 1⟩ (.ref a_law_units) 1 f_law_units := t_law_units prog w ⟨s₁.heap, 1⟩ Φ0 0 a_law_units pm_law_units cd_law_units doc_law_units ok_law_units nb g_len g_range
    have c_law_lines : Con prog w ⟨s₁.heap, 1⟩ (.ref a_law_lines) 1 f_law_lines := t_law_lines prog w ⟨s₁.heap, 1⟩ Φ0 0 a_law_lines pm_law_lines cd_law_lines doc_law_lines ok_law_lines nb g_range
    have c_law_rooks : Con prog w ⟨s₁.heap, 1⟩ (.ref a_law_rooks) 1 f_law_rooks := t_law_rooks prog w ⟨s₁.heap, 1⟩ Φ0 0 a_law_rooks pm_law_rooks cd_law_rooks doc_law_rooks ok_law_rooks nb g_range
    have c_law_by_ways : Con prog w ⟨s₁.heap, 1⟩ (.ref a_law_by_ways) 1 f_law_by_ways := t_law_by_ways prog w ⟨s₁.heap, 1⟩ Φ0 0 a_law_by_ways pm_law_by_ways cd_law_by_ways doc_law_by_ways ok_law_by_ways nb g_range
    have c_law_by_norm : Con prog w ⟨s₁.heap, 1⟩ (.ref a_law_by_norm) 1 f_law_by_norm := t_law_by_norm prog w ⟨s₁.heap, 1⟩ 145 Φ0 0 a_law_by_norm pm_law_by_norm cd_law_by_norm doc_law_by_norm ok_law_by_norm nb g_len g_range KX WC
    have c_strip_quoted_realnames : Con prog w ⟨s₁.heap, 1⟩ (.ref a_strip_quoted_realnames) 2 f_strip_quoted_realnames := t_strip_quoted_realnames prog w ⟨s₁.heap, 1⟩ Φ0 1 a_strip_quoted_realnames pm_strip_quoted_realnames cd_strip_quoted_realnames doc_strip_quoted_realnames ok_strip_quoted_realnames nb g_len (Nat.le_refl _) gg GEN
    have c_check_parenthesis : Con prog w ⟨s₁.heap, 1⟩ (.ref a_check_parenthesis) 3 f_check_parenthesis := t_check_parenthesis prog w ⟨s₁.heap, 1⟩ Φa 2 a_check_parenthesis pm_check_parenthesis cd_check_parenthesis doc_check_parenthesis ok_check_parenthesis nb g_strip_quoted_realnames ok_strip_quoted_realnames c_strip_quoted_realnames (Nat.le_refl _) (by decide) gg GEN
    have c_law_lead : Con prog w ⟨s₁.heap, 1⟩ (.ref a_law_lead) 2 f_law_lead := (t_law_lead prog w ⟨s₁.heap, 1⟩ Φa 1 a_law_lead pm_law_lead cd_law_lead doc_law_lead ok_law_lead nb g_fix_eols ok_fix_eols c_fix_eols (Nat.le_refl _) gquotedata okquotedata cquotedata (Nat.le_refl _)).sub fun _ _ => gStr_sub
    have c_ws : Con prog w ⟨s₁.heap, 1⟩ (.ref 145) 2 f_Whitespace := ti prog w ⟨s₁.heap, 1⟩ 145 Φ0 0 oki g_len g_tuple KX WC gw hr hS hT (w_ws _ hi1)
    have c_eq : Con prog w ⟨s₁.heap, 1⟩ (.ref fe) 1 f_equal := (te prog w ⟨s₁.heap, 1⟩ 145 Φ0 0 fe oke nb KX WC).sub fun _ _ => gObj_sub
    exact HC prog w ⟨s₁.heap, 0⟩ 145 Φ1 5 fa pm cd doc okl nb g_range g_str g_sum
      g_check_parenthesis ok_check_parenthesis c_check_parenthesis (by decide)
      g_law_by_norm ok_law_by_norm c_law_by_norm (by decide)
      g_law_by_ways ok_law_by_ways c_law_by_ways (by decide)
      g_law_lead ok_law_lead c_law_lead (by decide)
      g_law_lines ok_law_lines c_law_lines (by decide)
      g_law_rooks ok_law_rooks c_law_rooks (by decide)
      g_law_row ok_law_row c_law_row (by decide)
      g_law_text ok_law_text c_law_text (by decide)
      g_law_units ok_law_units c_law_units (by decide)
      g_strip_quoted_realnames ok_strip_quoted_realnames c_strip_quoted_realnames (by decide)
      (fun _ _ => gStr_is) (by decide) gg GEN KX WC gw c_ws (by decide) he1 he4 oke c_eq (by decide) (fun _ _ _ => gObj_is)
  clear hd hcd hD hmg ho okl
  wrow_args hpre hlay hrd hwl hlo
  refine con_end (C _) (plain _ ?hl) (by assumption) hg (raisesW_false (by wrow_none_raised)) (by wrow_post) ⟨rfl, by decide, by decide⟩
  omega
end Mine


namespace Mine
open PySem PySem.W PyProof.Rows

theorem pick_range {α : Type} (ds : List α) (a : Nat) : ∀ m : Nat, ((List.range m).map (a + ·)).filterMap (fun i => ds[i]?) = (ds.drop a).take m
  | 0 => by simp
  | m + 1 => by
    rw [List.range_succ, List.map_append, List.filterMap_append, pick_range ds a m, List.take_add_one]
    simp only [List.map_cons, List.map_nil, List.filterMap_cons, List.filterMap_nil, List.getElem?_drop]
    cases ds[a + m]? <;> rfl
theorem bnd (n a b : Nat) (ha : a ≤ n) (hb : b ≤ n) : sliceBounds (some (a : Int)) (some (b : Int)) none n = ((a : Int), (b : Int), 1) := by
  unfold sliceBounds
  have h1 : ¬ ((a : Int) < 0) := by omega
  have h2 : ¬ ((b : Int) < 0) := by omega
  simp only [Option.getD, if_neg h1, if_neg h2, show ((1 : Int) > 0) from by decide, if_true]
  rw [Int.min_eq_left (by omega), Int.min_eq_left (by omega), Int.max_eq_right (by omega), Int.max_eq_right (by omega)]
theorem pick_ab {α : Type} (ds : List α) (a b : Nat) (ha : a ≤ ds.length) (hb : b ≤ ds.length) : lpick ds (some (a : Int)) (some (b : Int)) none = (ds.drop a).take (b - a) := by
  unfold lpick
  rw [bnd _ _ _ ha hb, sliceRange_one, pick_range]
theorem pick_b {α : Type} (ds : List α) (b : Nat) (hb : b ≤ ds.length) : lpick ds none (some (b : Int)) none = ds.take b := by
  have : sliceBounds none (some (b : Int)) none ds.length = sliceBounds (some ((0 : Nat) : Int)) (some (b : Int)) none ds.length := by
    unfold sliceBounds; simp
    omega
  unfold lpick
  rw [this, bnd _ _ _ (Nat.zero_le _) hb, sliceRange_one, pick_range]
  rfl
theorem pick_a {α : Type} (ds : List α) (a : Nat) (ha : a ≤ ds.length) : lpick ds (some (a : Int)) none none = ds.drop a := by
  have : sliceBounds (some (a : Int)) none none ds.length = sliceBounds (some (a : Int)) (some ((ds.length : Nat) : Int)) none ds.length := by
    unfold sliceBounds; simp
    omega
  unfold lpick
  rw [this, bnd _ _ _ ha (Nat.le_refl _), sliceRange_one, pick_range]
  exact List.take_of_length_le (by simp)
end Mine

set_option maxHeartbeats 4000000
namespace Mine
open PySem PySem.W PyProof.Rows

theorem cons_of {α : Type} {l : List α} {n : Nat} (h : l.length = n + 1) : ∃ a m, l = a :: m ∧ m.length = n := by
  cases l with
  | nil => cases h
  | cons a m => exact ⟨a, m, rfl, Nat.succ.inj h⟩
theorem len4 {α : Type} {l : List α} (h : l.length = 4) : ∃ a b c d, l = [a, b, c, d] := by
  obtain ⟨a, l1, rfl, h1⟩ := cons_of h
  obtain ⟨b, l2, rfl, h2⟩ := cons_of h1
  obtain ⟨c, l3, rfl, h3⟩ := cons_of h2
  obtain ⟨d, rfl⟩ := List.length_eq_one_iff.mp h3
  exact ⟨a, b, c, d, rfl⟩
theorem len5 {α : Type} {l : List α} (h : l.length = 5) : ∃ a b c d e, l = [a, b, c, d, e] := by
  obtain ⟨a, l1, rfl, h1⟩ := cons_of h
  obtain ⟨b, c, d, e, rfl⟩ := len4 h1
  exact ⟨a, b, c, d, e, rfl⟩
theorem len8 {α : Type} {l : List α} (h : l.length = 8) : ∃ a b c d e f g i, l = [a, b, c, d, e, f, g, i] := by
  obtain ⟨a, l1, rfl, h1⟩ := cons_of h
  obtain ⟨b, l2, rfl, h2⟩ := cons_of h1
  obtain ⟨c, l3, rfl, h3⟩ := cons_of h2
  obtain ⟨d, e, f, g, i, rfl⟩ := len5 h3
  exact ⟨a, b, c, d, e, f, g, i, rfl⟩
theorem lt5 {P : Nat → Prop} {w : Nat} (h : w < 5) (h0 : P 0) (h1 : P 1) (h2 : P 2) (h3 : P 3) (h4 : P 4) : P w := by
  rcases w with _ | _ | _ | _ | _ | w
  · exact h0
  · exact h1
  · exact h2
  · exact h3
  · exact h4
  · exact absurd h (by omega)
theorem lt6 {P : Nat → Prop} {w : Nat} (h : w < 6) (h0 : P 0) (h1 : P 1) (h2 : P 2) (h3 : P 3) (h4 : P 4) (h5 : P 5) : P w := by
  rcases w with _ | w
  · exact h0
  · exact lt5 (P := fun w => P (w + 1)) (Nat.lt_of_succ_lt_succ h) h1 h2 h3 h4 h5
theorem lt8 {P : Nat → Prop} {w : Nat} (h : w < 8) (h0 : P 0) (h1 : P 1) (h2 : P 2) (h3 : P 3) (h4 : P 4) (h5 : P 5) (h6 : P 6) (h7 : P 7) : P w := by
  rcases w with _ | _ | w
  · exact h0
  · exact h1
  · exact lt6 (P := fun w => P (w + 2)) (Nat.lt_of_succ_lt_succ (Nat.lt_of_succ_lt_succ h)) h2 h3 h4 h5 h6 h7

theorem sl_app (a b c d : Dv) : Op.sl.app [a, b, c, d] = slApp a b c d := rfl
theorem ev_op4 {Φ : Nat → List Dv → Option Dv} {o : Op} {A B C D : ME} {ρ : List En} {a b c d : Dv} (hA : ev Φ A ρ = some a) (hB : ev Φ B ρ = some b) (hC : ev Φ C ρ = some c) (hD : ev Φ D ρ = some d) : ev Φ (.op o (.cons A (.cons B (.cons C (.cons D .nil))))) ρ = o.app [a, b, c, d] := by
  simp only [ev, hA, hB, hC, hD, lst, Option.bind_some, Option.map_some]
theorem ev_op1 {Φ : Nat → List Dv → Option Dv} {o : Op} {A : ME} {ρ : List En} {a : Dv} (hA : ev Φ A ρ = some a) : ev Φ (.op o (.cons A .nil)) ρ = o.app [a] := by
  simp only [ev, hA, lst, Option.bind_some, Option.map_some]
theorem ev_op2 {Φ : Nat → List Dv → Option Dv} {o : Op} {A B : ME} {ρ : List En} {a b : Dv} (hA : ev Φ A ρ = some a) (hB : ev Φ B ρ = some b) : ev Φ (.op o (.cons A (.cons B .nil))) ρ = o.app [a, b] := by
  simp only [ev, hA, hB, lst, Option.bind_some, Option.map_some]

noncomputable def isS : Option Dv → List Nat → Bool
  | some (.str y), x => y == x
  | _, _ => false
theorem isS_ok {o : Option Dv} {x : List Nat} (h : isS o x = true) : o = some (.str x) := by
  unfold isS at h
  split at h
  · rw [beq_iff_eq] at h; rw [h]
  · cases h
noncomputable def insN (x : List Nat) (r : Nat) (c : Nat) : List Nat := x.take r ++ c :: x.drop r
noncomputable def allB : Nat → List (List Nat)
  | 0 => [[]]
  | n + 1 => (allB n).map (40 :: ·) ++ (allB n).map (41 :: ·)
noncomputable def rows (k : Nat) : List (List Nat) := (allB (2 * k)).filter fun x => x.count 40 == k
theorem rows_next : ∀ k < 4, ((rows k).all fun x => (List.range (2 * k + 1)).all fun r => (List.range (2 * k + 2)).all fun q => (rows (k + 1)).contains (insN (insN x r 40) q 41)) = true := by decide +kernel
theorem rows_len : ∀ k < 5, ((rows k).all fun x => x.length == 2 * k) = true := by decide +kernel
theorem ins_mem {k : Nat} (hk : k < 4) {x : List Nat} (hx : x ∈ rows k) {r q : Nat} (hr : r < 2 * k + 1) (hq : q < 2 * k + 2) : insN (insN x r 40) q 41 ∈ rows (k + 1) := by
  have h := rows_next k hk
  rw [List.all_eq_true] at h
  have h := h x hx
  rw [List.all_eq_true] at h
  have h := h r (List.mem_range.mpr hr)
  rw [List.all_eq_true] at h
  have h := h q (List.mem_range.mpr hq)
  simpa using h
theorem mem_len {k : Nat} (hk : k < 5) {x : List Nat} (hx : x ∈ rows k) : x.length = 2 * k := by
  have h := rows_len k hk
  rw [List.all_eq_true] at h
  simpa using h x hx

theorem xseq_to {g f : XF} {ρ ρ1 : List En} (h : g ρ = some (.next ρ1)) : xseq g f ρ = f ρ1 := by unfold xseq; rw [h]; rfl
theorem xset_to {Φ : Nat → List Dv → Option Dv} {i : Nat} {m : ME} {ρ : List En} {d : Dv} (h : ev Φ m ρ = some d) : xset Φ i m ρ = some (.next (ρ.set i (.val d))) := by unfold xset; rw [h]; rfl

/-- `row[:at] + c + row[at:]` -/
theorem ev_ins {Φ : Nat → List Dv → Option Dv} {x : List Nat} {r c : Nat} {v0 v2 : En} (hx : x.length ≤ 100) (hr : r ≤ x.length) :
    ev Φ (.op (.bin .add) (.cons (.op (.bin .add) (.cons (.op .sl (.cons (.var 1) (.cons (.const .none) (.cons (.var 3) (.cons (.const .none) .nil))))) (.cons (.const (.str [c])) .nil))) (.cons (.op .sl (.cons (.var 1) (.cons (.var 3) (.cons (.const .none) (.cons (.const .none) .nil))))) .nil)))
      [v0, .val (.str x), v2, .val (.int (r : Int))] = some (.str (insN x r c)) := by
  have e : slApp (.str x) .none (.int (r : Int)) .none = some (.str (x.take r)) := by
    unfold slApp; simp only [partOf, Option.bind_some, if_neg (show ¬ ((none : Option Int) = some 0) from by simp), if_pos (show x.length ≤ 100000 by omega), pick_b x r hr]
  have e' : slApp (.str x) (.int (r : Int)) .none .none = some (.str (x.drop r)) := by
    unfold slApp; simp only [partOf, Option.bind_some, if_neg (show ¬ ((none : Option Int) = some 0) from by simp), if_pos (show x.length ≤ 100000 by omega), pick_a x r hr]
  have l1 : (x.take r).length ≤ 100 := by rw [List.length_take]; omega
  have l2 : (x.drop r).length ≤ 100 := by rw [List.length_drop]; omega
  have A : ev Φ (.op .sl (.cons (.var 1) (.cons (.const .none) (.cons (.var 3) (.cons (.const .none) .nil))))) [v0, .val (.str x), v2, .val (.int (r : Int))] = some (.str (x.take r)) := (ev_op4 (a := .str x) (b := .none) (c := .int (r : Int)) (d := .none) rfl rfl rfl rfl).trans e
  have C : ev Φ (.op .sl (.cons (.var 1) (.cons (.var 3) (.cons (.const .none) (.cons (.const .none) .nil))))) [v0, .val (.str x), v2, .val (.int (r : Int))] = some (.str (x.drop r)) := (ev_op4 (a := .str x) (b := .int (r : Int)) (c := .none) (d := .none) rfl rfl rfl rfl).trans e'
  have B := (ev_op2 (o := .bin .add) A (B := .const (.str [c])) (b := .str [c]) rfl).trans (if_pos (show (x.take r).length + [c].length ≤ 1000000 by simp; omega))
  refine (ev_op2 B C).trans ((if_pos (show (x.take r ++ [c]).length + (x.drop r).length ≤ 1000000 by simp; omega)).trans ?_)
  unfold insN
  simp
theorem fmod_lt (a : Int) (n : Nat) (hn : 0 < n) : ∃ r : Nat, r < n ∧ a.fmod (n : Int) = (r : Int) := by
  have h1 := Int.fmod_nonneg_of_pos a (b := (n : Int)) (by omega)
  have h2 := Int.fmod_lt_of_pos a (b := (n : Int)) (by omega)
  exact ⟨(a.fmod n).toNat, by omega, by omega⟩
end Mine

set_option maxHeartbeats 4000000
namespace Mine
local macro_rules | `(tactic| omega) => `(tactic| lia)
open PySem PySem.W PyProof.Rows

noncomputable def insM (c : Nat) : ME := .op (.bin .add) (.cons (.op (.bin .add) (.cons (.op .sl (.cons (.var 1) (.cons (.const .none) (.cons (.var 3) (.cons (.const .none) .nil))))) (.cons (.const (.str [c])) .nil))) (.cons (.op .sl (.cons (.var 1) (.cons (.var 3) (.cons (.const .none) (.cons (.const .none) .nil))))) .nil))
noncomputable def atM1 : ME := .op (.bin .mod) (.cons (.op (.bin .mod) (.cons (.op .idx (.cons (.var 0) (.cons (.var 2) .nil))) (.cons (.const (.int 8)) .nil))) (.cons (.op (.bin .add) (.cons (.op (.bin .mul) (.cons (.const (.int 2)) (.cons (.var 2) .nil))) (.cons (.const (.int 1)) .nil))) .nil))
noncomputable def atM3 : ME := .op (.bin .mod) (.cons (.op (.bin .mod) (.cons (.op (.bin .fdiv) (.cons (.op .idx (.cons (.var 0) (.cons (.var 2) .nil))) (.cons (.const (.int 8)) .nil))) (.cons (.const (.int 8)) .nil))) (.cons (.op (.bin .add) (.cons (.op (.bin .mul) (.cons (.const (.int 2)) (.cons (.var 2) .nil))) (.cons (.const (.int 2)) .nil))) .nil))
theorem row_turn {m1 m3 : ME} {nums v3 : En} {k : Nat} {x : List Nat} (p q : Int) (hk : k < 4) (hx : x ∈ rows k) (h1 : ∀ v v', ev Φ0 m1 [nums, v, .val (.int (k : Int)), v'] = some (.int (p.fmod ((2 * k + 1 : Nat) : Int))))
    (h3 : ∀ v v', ev Φ0 m3 [nums, v, .val (.int (k : Int)), v'] = some (.int (q.fmod ((2 * k + 2 : Nat) : Int)))) :
    ∃ y ∈ rows (k + 1), ∃ v', xseq (xset Φ0 3 m1) (xseq (xset Φ0 1 (insM 40)) (xseq (xset Φ0 3 m3) (xset Φ0 1 (insM 41)))) [nums, .val (.str x), .val (.int (k : Int)), v3] = some (.next [nums, .val (.str y), .val (.int (k : Int)), v']) := by
  obtain ⟨r, hr, er⟩ := fmod_lt p (2 * k + 1) (by omega)
  obtain ⟨s, hs, es⟩ := fmod_lt q (2 * k + 2) (by omega)
  have hl := mem_len (by omega) hx
  refine ⟨_, ins_mem hk hx hr hs, .val (.int (s : Int)), ?_⟩
  have hl2 : (insN x r 40).length = 2 * k + 1 := by unfold insN; simp; omega
  refine (xseq_to (xset_to ((h1 _ _).trans (by rw [er])))).trans ?_
  refine (xseq_to (xset_to (ev_ins (by omega) (by omega)))).trans ?_
  refine (xseq_to (xset_to ((h3 _ _).trans (by rw [es])))).trans ?_
  exact xset_to (ev_ins (by omega) (by omega))
theorem xloop_to {n : Nat} {is : List Nat} {body : XF} {d : Dv} {ds : List Dv} {ρ ρ' : List En} {bs : List Dv} (h : bindT n d = some bs) (hb : body (puts ρ is bs) = some (.next ρ')) : xloop n is body (d :: ds) ρ = xloop n is body ds ρ' := by
  rw [xloop, h]; simp only [Option.bind_some]; rw [hb]
theorem body_is {n r : Nat} {f : XF} {ds : List Dv} {d : Dv} (hl : ds.length = n) (h : f (ds.map .val ++ List.replicate r .no) = some (.ret d)) : bodyOf n r f ds = some d := by
  unfold bodyOf; rw [if_pos hl, h]
theorem row_ok (a b c d : Int) : ∃ x ∈ rows 4, f_law_row [.list [.int a, .int b, .int c, .int d]] = some (.str x) := by
  obtain ⟨x1, m1, w1, h1⟩ := row_turn (m1 := atM1) (m3 := atM3) (nums := .val (.list [.int a, .int b, .int c, .int d])) (v3 := .no) (k := 0) (x := []) (a.fmod 8) ((a.fdiv 8).fmod 8) (by omega) (by decide +kernel) (fun _ _ => rfl) (fun _ _ => rfl)
  obtain ⟨x2, m2, w2, h2⟩ := row_turn (m1 := atM1) (m3 := atM3) (nums := .val (.list [.int a, .int b, .int c, .int d])) (v3 := w1) (k := 1) (b.fmod 8) ((b.fdiv 8).fmod 8) (by omega) m1 (fun _ _ => rfl) (fun _ _ => rfl)
  obtain ⟨x3, m3, w3, h3⟩ := row_turn (m1 := atM1) (m3 := atM3) (nums := .val (.list [.int a, .int b, .int c, .int d])) (v3 := w2) (k := 2) (c.fmod 8) ((c.fdiv 8).fmod 8) (by omega) m2 (fun _ _ => rfl) (fun _ _ => rfl)
  obtain ⟨x4, m4, w4, h4⟩ := row_turn (m1 := atM1) (m3 := atM3) (nums := .val (.list [.int a, .int b, .int c, .int d])) (v3 := w3) (k := 3) (d.fmod 8) ((d.fdiv 8).fmod 8) (by omega) m3 (fun _ _ => rfl) (fun _ _ => rfl)
  refine ⟨x4, m4, ?_⟩
  have e : x_law_row Φ0 [.val (.list [.int a, .int b, .int c, .int d]), .no, .no, .no] = some (.ret (.str x4)) := by
    unfold x_law_row
    rw [xseq_to (xset_to rfl)]
    refine (xseq_to (ρ1 := [.val (.list [.int a, .int b, .int c, .int d]), .val (.str x4), .val (.int 3), w4]) ?_).trans rfl
    show xloop 0 [2] _ [.int 0, .int 1, .int 2, .int 3] _ = _
    exact (xloop_to rfl h1).trans ((xloop_to rfl h2).trans ((xloop_to rfl h3).trans ((xloop_to rfl h4).trans rfl)))
  exact body_is rfl e
end Mine

set_option maxHeartbeats 4000000
namespace Mine
local macro_rules | `(tactic| omega) => `(tactic| lia)
open PySem PySem.W PyProof.Rows

theorem unit_cons {c : Nat} {r : List Nat} {p : Nat} (h : c ≠ 92) : units (c :: r) p false = .tuple [.int (p : Int), .str [c]] :: units r (p + 1) false := by
  rw [units, if_neg h]
theorem unit_esc {c : Nat} {r : List Nat} {p : Nat} : units (92 :: c :: r) p false = .tuple [.int ((p + 1 : Nat) : Int), .str [92, c]] :: units r (p + 2) false := by
  rw [units, if_pos rfl, units]

/-! the words, with and without what stands in quotes -/
noncomputable def W : Nat → List Nat
  | 0 => [] | 1 => [92, 40] | 2 => [34, 41, 34] | 3 => [92, 92] | 4 => [34, 40, 92, 34, 34] | _ => [92, 34, 92, 41]
noncomputable def SW : Nat → List Nat
  | 2 => [] | 4 => [] | w => W w
noncomputable abbrev Ch := Nat × Nat × Nat
noncomputable def TT : List Ch → List Nat
  | [] => []
  | (w, c, c') :: r => W w ++ c :: c' :: TT r
noncomputable def ST : List Ch → List Nat
  | [] => []
  | (w, c, c') :: r => SW w ++ c :: c' :: ST r
noncomputable def br (c : Nat) : Prop := c = 40 ∨ c = 41
noncomputable def Good (cs : List Ch) : Prop := ∀ p ∈ cs, p.1 < 6 ∧ br p.2.1 ∧ br p.2.2

noncomputable def isQ : ME := .op (.cmp .eq) (.cons (.var 5) (.cons (.const (.str [34])) .nil))
noncomputable def neM : ME := .op (.cmp .ne) (.cons (.var 1) (.cons (.var 2) .nil))
noncomputable def slM : ME := .op .sl (.cons (.var 0) (.cons (.var 1) (.cons (.var 2) (.cons (.const .none) .nil))))
noncomputable def stripB : XF := xif Φ0 isQ (xif Φ0 (.op (.cmp .is) (.cons (.var 2) (.cons (.const .none) .nil))) (xset Φ0 2 (.var 4)) (xseq (xif Φ0 neM (xapp Φ0 3 slM) (xnil)) (xseq (xset Φ0 1 (.op (.bin .add) (.cons (.var 4) (.cons (.const (.int 1)) .nil)))) (xset Φ0 2 (.const .none))))) (xnil)
noncomputable abbrev go : List Dv → XF := xloop 2 [4, 5] stripB

theorem go_other {v0 v1 v2 v3 e4 e5 : En} {p : Int} {y : List Nat} {ds : List Dv} (h : ∀ v4, ev Φ0 isQ [v0, v1, v2, v3, v4, .val (.str y)] = some (.bool false)) :
    go (.tuple [.int p, .str y] :: ds) [v0, v1, v2, v3, e4, e5] = go ds [v0, v1, v2, v3, .val (.int p), .val (.str y)] := by
  refine xloop_to rfl ?_
  show stripB [v0, v1, v2, v3, .val (.int p), .val (.str y)] = _
  unfold stripB xif
  rw [h]
  rfl
theorem go_open {v0 v1 v3 e4 e5 : En} {p : Int} {ds : List Dv} :
    go (.tuple [.int p, .str [34]] :: ds) [v0, v1, .val .none, v3, e4, e5] = go ds [v0, v1, .val (.int p), v3, .val (.int p), .val (.str [34])] := xloop_to rfl rfl
theorem ev_slM {X : List Nat} {s q : Nat} {v3 v4 v5 : En} (hs : s ≤ q) (hq : q ≤ X.length) (hX : X.length ≤ 200) : ev Φ0 slM [.val (.str X), .val (.int (s : Int)), .val (.int (q : Int)), v3, v4, v5] = some (.str ((X.drop s).take (q - s))) := by
  show slApp (.str X) (.int (s : Int)) (.int (q : Int)) .none = _
  unfold slApp
  simp only [partOf, Option.bind_some, if_neg (show ¬ ((none : Option Int) = some 0) from by simp), if_pos (show X.length ≤ 100000 by omega), pick_ab X s q (by omega) hq]
theorem go_close {X : List Nat} {s q : Nat} {L : List (List Nat)} {e4 e5 : En} {p : Int} {ds : List Dv} (hs : s ≤ q) (hq : q ≤ X.length) (hX : X.length ≤ 200) (hL : L.length ≤ 100) :
    ∃ L' : List (List Nat), go (.tuple [.int p, .str [34]] :: ds) [.val (.str X), .val (.int (s : Int)), .val (.int (q : Int)), .own (L.map .str), e4, e5]
      = go ds [.val (.str X), .val (.int (p + 1)), .val .none, .own (L'.map .str), .val (.int p), .val (.str [34])] ∧ L'.flatten = L.flatten ++ (X.drop s).take (q - s) ∧ L'.length ≤ L.length + 1 := by
  have hne : ev Φ0 neM [.val (.str X), .val (.int (s : Int)), .val (.int (q : Int)), .own (L.map .str), .val (.int p), .val (.str [34])] = some (.bool (!((s : Int) == (q : Int)))) := rfl
  by_cases h : s = q
  · refine ⟨L, xloop_to rfl ?_, by rw [h]; simp, by omega⟩
    have hne' : ev Φ0 neM [.val (.str X), .val (.int (s : Int)), .val (.int (q : Int)), .own (L.map .str), .val (.int p), .val (.str [34])] = some (.bool false) := by rw [hne, h]; simp
    show (xseq (xif Φ0 neM (xapp Φ0 3 slM) (xnil)) (xseq (xset Φ0 1 (.op (.bin .add) (.cons (.var 4) (.cons (.const (.int 1)) .nil)))) (xset Φ0 2 (.const .none)))) [.val (.str X), .val (.int (s : Int)), .val (.int (q : Int)), .own (L.map .str), .val (.int p), .val (.str [34])] = _
    refine (xseq_to (ρ1 := [.val (.str X), .val (.int (s : Int)), .val (.int (q : Int)), .own (L.map .str), .val (.int p), .val (.str [34])]) ?_).trans rfl
    unfold xif
    rw [hne']
    rfl
  · refine ⟨L ++ [(X.drop s).take (q - s)], xloop_to rfl ?_, by simp, by simp⟩
    have hb : ((s : Int) == (q : Int)) = false := by rw [beq_eq_false_iff_ne]; omega
    have hne' : ev Φ0 neM [.val (.str X), .val (.int (s : Int)), .val (.int (q : Int)), .own (L.map .str), .val (.int p), .val (.str [34])] = some (.bool true) := by rw [hne, hb]; rfl
    show (xseq (xif Φ0 neM (xapp Φ0 3 slM) (xnil)) (xseq (xset Φ0 1 (.op (.bin .add) (.cons (.var 4) (.cons (.const (.int 1)) .nil)))) (xset Φ0 2 (.const .none)))) [.val (.str X), .val (.int (s : Int)), .val (.int (q : Int)), .own (L.map .str), .val (.int p), .val (.str [34])] = _
    refine (xseq_to (ρ1 := [.val (.str X), .val (.int (s : Int)), .val (.int (q : Int)), .own ((L ++ [(X.drop s).take (q - s)]).map .str), .val (.int p), .val (.str [34])]) ?_).trans rfl
    unfold xif
    rw [hne']
    show xapp Φ0 3 slM _ = _
    unfold xapp
    rw [ev_slM hs hq hX]
    show (if (L.map Dv.str).length ≤ 100000 then _ else none) = _
    rw [if_pos (by rw [List.length_map]; omega), List.map_append]
    rfl
theorem br_other {v0 v1 v2 v3 : En} {c : Nat} (h : br c) : ∀ v4, ev Φ0 isQ [v0, v1, v2, v3, v4, .val (.str [c])] = some (.bool false) := by
  rcases h with rfl | rfl <;> exact fun _ => rfl
theorem br_ne {c : Nat} (h : br c) : c ≠ 92 := by rcases h with rfl | rfl <;> decide

/-- the reader's loop is through; what it laid by and what is left give `out` -/
noncomputable def Through (o : Option Out) (X out : List Nat) : Prop := ∃ (s' : Nat) (L' : List (List Nat)) (e4' e5' : En), o = some (.next [.val (.str X), .val (.int (s' : Int)), .val .none, .own (L'.map .str), e4', e5'])
      ∧ s' ≤ X.length ∧ L'.length ≤ 100 ∧ L'.flatten ++ X.drop s' = out
noncomputable def gst (X : List Nat) (s : Nat) (L : List (List Nat)) (e4 e5 : En) : List En := [.val (.str X), .val (.int (s : Int)), .val .none, .own (L.map .str), e4, e5]
theorem drop_mid {X pre r : List Nat} {s : Nat} (hX : X = pre ++ r) (hs : s ≤ pre.length) : (X.drop s).take (pre.length - s) = pre.drop s := by
  rw [hX, List.drop_append_of_le_length hs, List.take_append_of_le_length (by simp), List.take_of_length_le (by simp)]
/-- the loop over the texts of a board -/
theorem go_chunks : ∀ (cs : List Ch) (X pre : List Nat) (s : Nat) (L : List (List Nat)) (e4 e5 : En), X = pre ++ TT cs → Good cs → s ≤ pre.length → X.length ≤ 200 → L.length + cs.length ≤ 100 →
    Through (go (units (TT cs) pre.length false) (gst X s L e4 e5)) X (L.flatten ++ pre.drop s ++ ST cs) := by
  intro cs
  induction cs with
  | nil =>
    intro X pre s L e4 e5 hX _ hs _ hL
    exact ⟨s, L, e4, e5, rfl, by rw [hX, List.length_append]; exact Nat.le_trans hs (Nat.le_add_right _ _), hL, by rw [hX]; simp [TT, ST]⟩
  | cons p r ih =>
    obtain ⟨w, c, c'⟩ := p
    intro X pre s L e4 e5 hX hg hs hl hL
    have hc := (hg _ (List.mem_cons_self ..)).2.1
    have hc' := (hg _ (List.mem_cons_self ..)).2.2
    rw [List.length_cons] at hL
    -- the rest, from a state behind the word
    have rest : ∀ (u : List Nat) (s1 : Nat) (L1 : List (List Nat)) (x4 x5 : En) (n : Nat), n = (pre ++ u).length → X = pre ++ u ++ c :: c' :: TT r → s1 ≤ (pre ++ u).length → L1.length ≤ L.length + 1 →
        Through (go (units (c :: c' :: TT r) n false) (gst X s1 L1 x4 x5)) X (L1.flatten ++ (pre ++ u).drop s1 ++ c :: c' :: ST r) := by
      intro u s1 L1 x4 x5 n hn h1 h2 h3
      subst hn
      unfold gst
      rw [unit_cons (br_ne hc), unit_cons (br_ne hc'), go_other (br_other hc), go_other (br_other hc')]
      have q := ih X (pre ++ u ++ [c, c']) s1 L1 (.val (.int (((pre ++ u).length + 1 : Nat) : Int))) (.val (.str [c'])) (by rw [h1]; simp) (fun p hp => hg p (List.mem_cons_of_mem _ hp)) (by rw [List.length_append]; exact Nat.le_trans h2 (Nat.le_add_right _ _)) hl (by omega)
      rw [List.length_append (as := pre ++ u), List.drop_append_of_le_length h2, ← List.append_assoc, List.append_assoc (L1.flatten ++ _)] at q
      exact q
    clear ih
    have hw := (hg _ (List.mem_cons_self ..)).1
    have hX' : X = pre ++ (W w ++ c :: c' :: TT r) := by rw [hX]; simp [TT]
    have hlen : pre.length ≤ X.length := by rw [hX', List.length_append]; exact Nat.le_add_right _ _
    clear hX hg
    match w, hw with
    | 0, _ =>
      have q := rest [] s L e4 e5 _ rfl (by rw [hX']; simp [W]) (by simpa using hs) (by omega)
      rw [List.append_nil] at q
      exact q
    | 1, _ =>
      have q := rest [92, 40] s L (.val (.int ((pre.length + 1 : Nat) : Int))) (.val (.str [92, 40])) (pre.length + 1 + 1) (by simp) (by rw [hX']; simp [W]) (by simp; omega) (by omega)
      rw [List.drop_append_of_le_length hs, ← List.append_assoc, List.append_assoc (L.flatten ++ _)] at q
      show Through (go (units (92 :: 40 :: c :: c' :: TT r) pre.length false) _) _ _
      rw [unit_esc]
      unfold gst
      rw [go_other (fun _ => rfl)]
      exact q
    | 3, _ =>
      have q := rest [92, 92] s L (.val (.int ((pre.length + 1 : Nat) : Int))) (.val (.str [92, 92])) (pre.length + 1 + 1) (by simp) (by rw [hX']; simp [W]) (by simp; omega) (by omega)
      rw [List.drop_append_of_le_length hs, ← List.append_assoc, List.append_assoc (L.flatten ++ _)] at q
      show Through (go (units (92 :: 92 :: c :: c' :: TT r) pre.length false) _) _ _
      rw [unit_esc]
      unfold gst
      rw [go_other (fun _ => rfl)]
      exact q
    | 5, _ =>
      have q := rest [92, 34, 92, 41] s L (.val (.int ((pre.length + 2 + 1 : Nat) : Int))) (.val (.str [92, 41])) (pre.length + 2 + 1 + 1) (by simp) (by rw [hX']; simp [W]) (by simp; omega) (by omega)
      rw [List.drop_append_of_le_length hs, ← List.append_assoc, List.append_assoc (L.flatten ++ _)] at q
      show Through (go (units (92 :: 34 :: 92 :: 41 :: c :: c' :: TT r) pre.length false) _) _ _
      rw [unit_esc]
      unfold gst
      rw [go_other (fun _ => rfl), unit_esc, go_other (fun _ => rfl)]
      exact q
    | 2, _ =>
      obtain ⟨L1, k1, k2, k3⟩ := go_close (X := X) (s := s) (q := pre.length) (L := L) (e4 := .val (.int ((pre.length + 1 : Nat) : Int))) (e5 := .val (.str [41])) (p := ((pre.length + 1 + 1 : Nat) : Int)) (ds := units (c :: c' :: TT r) (pre.length + 3) false) hs hlen hl (by omega)
      have q := rest [34, 41, 34] (pre.length + 3) L1 (.val (.int ((pre.length + 1 + 1 : Nat) : Int))) (.val (.str [34])) (pre.length + 3) (by simp) (by rw [hX']; simp [W]) (by simp) k3
      rw [k2, drop_mid hX' hs, List.drop_of_length_le (i := pre.length + 3) (l := pre ++ [34, 41, 34]) (by simp), List.append_nil] at q
      show Through (go (units (34 :: 41 :: 34 :: c :: c' :: TT r) pre.length false) _) _ _
      unfold gst
      rw [unit_cons (by decide), unit_cons (by decide), unit_cons (by decide), go_open, go_other (fun _ => rfl)]
      refine Eq.mpr (congrArg (fun o => Through o X _) k1) ?_
      exact q
    | 4, _ =>
      obtain ⟨L1, k1, k2, k3⟩ := go_close (X := X) (s := s) (q := pre.length) (L := L) (e4 := .val (.int ((pre.length + 1 + 1 + 1 : Nat) : Int))) (e5 := .val (.str [92, 34])) (p := ((pre.length + 1 + 1 + 2 : Nat) : Int)) (ds := units (c :: c' :: TT r) (pre.length + 5) false) hs hlen hl (by omega)
      have q := rest [34, 40, 92, 34, 34] (pre.length + 5) L1 (.val (.int ((pre.length + 1 + 1 + 2 : Nat) : Int))) (.val (.str [34])) (pre.length + 5) (by simp) (by rw [hX']; simp [W]) (by simp) k3
      rw [k2, drop_mid hX' hs, List.drop_of_length_le (i := pre.length + 5) (l := pre ++ [34, 40, 92, 34, 34]) (by simp), List.append_nil] at q
      show Through (go (units (34 :: 40 :: 92 :: 34 :: 34 :: c :: c' :: TT r) pre.length false) _) _ _
      unfold gst
      rw [unit_cons (by decide), unit_cons (by decide), unit_esc, unit_cons (by decide), go_open, go_other (fun _ => rfl), go_other (fun _ => rfl)]
      refine Eq.mpr (congrArg (fun o => Through o X _) k1) ?_
      exact q
    | n + 6, h => exact absurd h (by omega)
end Mine

set_option maxHeartbeats 4000000
namespace Mine
local macro_rules | `(tactic| omega) => `(tactic| lia)
open PySem PySem.W PyProof.Rows

/-! what the reader may be handed -/
theorem escEnd_app : ∀ (u v : List Nat) (e : Bool), escEnd (u ++ v) e = escEnd v (escEnd u e)
  | [], _, _ => rfl
  | _ :: u, v, true => escEnd_app u v false
  | c :: u, v, false => escEnd_app u v (c == 92)
noncomputable def lowB (x : List Nat) : Bool := x.all fun c => decide (c < 1114112)
theorem low_app (a b : List Nat) : lowB (a ++ b) = (lowB a && lowB b) := List.all_append
theorem br_low {c : Nat} (h : br c) (x : List Nat) : lowB (c :: x) = lowB x := by rcases h with rfl | rfl <;> rfl
theorem br_end {c : Nat} (h : br c) (x : List Nat) : escEnd (c :: x) false = escEnd x false := by rcases h with rfl | rfl <;> rfl
theorem W_fine : ∀ w, w < 6 → lowB (W w) = true ∧ escEnd (W w) false = false ∧ (W w).length ≤ 5 ∧ lowB (SW w) = true ∧ escEnd (SW w) false = false ∧ (SW w).length ≤ 5 := by decide
theorem TT_low : ∀ cs : List Ch, Good cs → lowB (TT cs) = true ∧ escEnd (TT cs) false = false ∧ (TT cs).length ≤ 7 * cs.length := by
  intro cs
  induction cs with
  | nil => exact fun _ => ⟨rfl, rfl, Nat.le_refl _⟩
  | cons p r ih =>
    intro hg
    obtain ⟨w, c, c'⟩ := p
    obtain ⟨hw, hc, hc'⟩ := hg _ (List.mem_cons_self ..)
    obtain ⟨h1, h2, h3⟩ := ih fun p hp => hg p (List.mem_cons_of_mem _ hp)
    have k := W_fine w hw
    have e : TT ((w, c, c') :: r) = W w ++ c :: c' :: TT r := by simp [TT]
    refine ⟨?_, ?_, ?_⟩
    · rw [e, low_app, br_low hc, br_low hc', k.1, h1]; rfl
    · rw [e, escEnd_app, k.2.1, br_end hc, br_end hc', h2]
    · rw [e, List.length_append, List.length_cons, List.length_cons, List.length_cons]
      have := k.2.2.1
      omega
theorem ST_low : ∀ cs : List Ch, Good cs → lowB (ST cs) = true ∧ escEnd (ST cs) false = false ∧ (ST cs).length ≤ 7 * cs.length := by
  intro cs
  induction cs with
  | nil => exact fun _ => ⟨rfl, rfl, Nat.le_refl _⟩
  | cons p r ih =>
    intro hg
    obtain ⟨w, c, c'⟩ := p
    obtain ⟨hw, hc, hc'⟩ := hg _ (List.mem_cons_self ..)
    obtain ⟨h1, h2, h3⟩ := ih fun p hp => hg p (List.mem_cons_of_mem _ hp)
    have k := (W_fine w hw).2.2.2
    have e : ST ((w, c, c') :: r) = SW w ++ c :: c' :: ST r := by simp [ST]
    refine ⟨?_, ?_, ?_⟩
    · rw [e, low_app, br_low hc, br_low hc', k.1, h1]; rfl
    · rw [e, escEnd_app, k.2.1, br_end hc, br_end hc', h2]
    · rw [e, List.length_append, List.length_cons, List.length_cons, List.length_cons]
      have := k.2.2
      omega
theorem fit_of {x : List Nat} (h1 : lowB x = true) (h2 : escEnd x false = false) (h3 : x.length ≤ 1000) : genFit x = true := by
  unfold genFit
  unfold lowB at h1
  rw [h1, h2, decide_eq_true (show x.length ≤ 100000 by omega)]
  rfl
theorem ev_gen {Φ : Nat → List Dv → Option Dv} {m : ME} {ρ : List En} {x : List Nat} (h : ev Φ m ρ = some (.str x)) (hf : genFit x = true) : ev Φ (.gen m) ρ = some (.list (units x 0 false)) := by
  simp only [ev, h, hf, if_true]
theorem units_len : ∀ (x : List Nat) (p : Nat) (e : Bool), (units x p e).length ≤ x.length + 1
  | [], p, e => by unfold units; split <;> simp
  | c :: r, p, true => by have := units_len r (p + 1) false; simp only [units, List.length_cons]; omega
  | c :: r, p, false => by
    unfold units
    split
    · have := units_len r (p + 1) true; simp only [List.length_cons]; omega
    · have := units_len r (p + 1) false; simp only [List.length_cons]; omega

/-! a text without quotes is left as it stands -/
theorem no_quote : ∀ cs : List Ch, Good cs → (TT cs).contains 34 = false → ST cs = TT cs
  | [], _, _ => rfl
  | (w, c, c') :: r, hg, h => by
    obtain ⟨hw, hc, hc'⟩ := hg _ (List.mem_cons_self ..)
    have e : TT ((w, c, c') :: r) = W w ++ ([c, c'] ++ TT r) := by simp [TT]
    rw [e, List.contains_append, Bool.or_eq_false_iff, List.contains_append, Bool.or_eq_false_iff] at h
    have ih := no_quote r (fun p hp => hg p (List.mem_cons_of_mem _ hp)) h.2.2
    have k : SW w = W w := by
      match w, hw, h.1 with
      | 0, _, _ => rfl
      | 1, _, _ => rfl
      | 2, _, h => exact absurd h (by decide)
      | 3, _, _ => rfl
      | 4, _, h => exact absurd h (by decide)
      | 5, _, _ => rfl
      | n + 6, h, _ => exact absurd h (by simp)
    simp only [ST, TT, ih, k]

theorem strs_map : ∀ L : List (List Nat), strsOf (L.map .str) = some L
  | [] => rfl
  | x :: L => by rw [List.map_cons, strsOf, strs_map L]; rfl
theorem sum_flat (L : List (List Nat)) : (L.map List.length).sum = L.flatten.length := by rw [List.length_flatten]

noncomputable def ltM : ME := .op (.cmp .lt) (.cons (.var 1) (.cons (.op (.fn .len) (.cons (.var 0) (.nil))) .nil))
noncomputable def sleM : ME := .op .sl (.cons (.var 0) (.cons (.var 1) (.cons (.const .none) (.cons (.const .none) .nil))))
theorem strip_end {X Y : List Nat} {s : Nat} {L : List (List Nat)} {v2 v4 v5 : En} (hs : s ≤ X.length) (hX : X.length ≤ 200) (hL : L.length ≤ 100) (hY : L.flatten ++ X.drop s = Y) (hYl : Y.length ≤ 1000) :
    xseq (xif Φ0 ltM (xapp Φ0 3 sleM) (xnil)) (xfree 3 (xret Φ0 (.op (.meth .join) (.cons (.const (.str [])) (.cons (.var 3) .nil))))) [.val (.str X), .val (.int (s : Int)), v2, .own (L.map .str), v4, v5] = some (.ret (.str Y)) := by
  have join : ∀ L : List (List Nat), L.flatten = Y → (xfree 3 (xret Φ0 (.op (.meth .join) (.cons (.const (.str [])) (.cons (.var 3) .nil))))) [.val (.str X), .val (.int (s : Int)), v2, .own (L.map .str), v4, v5] = some (.ret (.str Y)) := by
    intro L hL
    show (Option.bind (strsOf (L.map .str)) fun l => if (l.map List.length).sum + l.length * ([] : List Nat).length ≤ 1000000 then some (Dv.str (glue [] l)) else none).map Out.ret = _
    rw [strs_map]
    simp only [Option.bind_some]
    rw [if_pos (by rw [sum_flat, hL]; simp; omega), glue_nil, hL]
    rfl
  have hlt : ev Φ0 ltM [.val (.str X), .val (.int (s : Int)), v2, .own (L.map .str), v4, v5] = some (.bool (decide ((s : Int) < (X.length : Int)))) := by
    have hl : ev Φ0 (.op (.fn .len) (.cons (.var 0) (.nil))) [.val (.str X), .val (.int (s : Int)), v2, .own (L.map .str), v4, v5] = some (.int (X.length : Int)) := (ev_op1 (a := .str X) rfl).trans (if_pos (by omega))
    exact (ev_op2 (a := .int (s : Int)) rfl hl).trans rfl
  by_cases h : s < X.length
  · have hlt' : ev Φ0 ltM [.val (.str X), .val (.int (s : Int)), v2, .own (L.map .str), v4, v5] = some (.bool true) := by rw [hlt, decide_eq_true (by omega)]
    refine (xseq_to (ρ1 := [.val (.str X), .val (.int (s : Int)), v2, .own ((L ++ [X.drop s]).map .str), v4, v5]) ?_).trans (join _ (by simpa using hY))
    unfold xif
    rw [hlt']
    show xapp Φ0 3 sleM _ = _
    have he : ev Φ0 sleM [.val (.str X), .val (.int (s : Int)), v2, .own (L.map .str), v4, v5] = some (.str (X.drop s)) := by
      show slApp (.str X) (.int (s : Int)) .none .none = _
      unfold slApp
      simp only [partOf, Option.bind_some, if_neg (show ¬ ((none : Option Int) = some 0) from by simp), if_pos (show X.length ≤ 100000 by omega), pick_a X s hs]
    unfold xapp
    rw [he]
    show (if (L.map Dv.str).length ≤ 100000 then _ else none) = _
    rw [if_pos (by rw [List.length_map]; omega), List.map_append]
    rfl
  · have hlt' : ev Φ0 ltM [.val (.str X), .val (.int (s : Int)), v2, .own (L.map .str), v4, v5] = some (.bool false) := by rw [hlt, decide_eq_false (by omega)]
    have hd : X.drop s = [] := List.drop_of_length_le (by omega)
    rw [hd, List.append_nil] at hY
    refine (xseq_to (ρ1 := [.val (.str X), .val (.int (s : Int)), v2, .own (L.map .str), v4, v5]) ?_).trans (join _ hY)
    unfold xif
    rw [hlt']
    rfl
end Mine

set_option maxHeartbeats 4000000
namespace Mine
local macro_rules | `(tactic| omega) => `(tactic| lia)
open PySem PySem.W PyProof.Rows

noncomputable def pieceOf (b : Bool) : List Nat := if b then [40] else []
/-- quotes and what stands in them fall out -/
theorem strip_ok {cs : List Ch} (hg : Good cs) (hn : cs.length ≤ 4) (b : Bool) : f_strip_quoted_realnames [.str (pieceOf b ++ TT cs)] = some (.str (pieceOf b ++ ST cs)) := by
  obtain ⟨t1, t2, t3⟩ := TT_low cs hg
  obtain ⟨s1, s2, s3⟩ := ST_low cs hg
  have hb : (pieceOf b).length ≤ 1 := by cases b <;> decide
  refine body_is rfl ?_
  show x_strip_quoted_realnames Φ0 [.val (.str (pieceOf b ++ TT cs)), .no, .no, .no, .no, .no] = _
  unfold x_strip_quoted_realnames
  have hq : ∀ v1 v2 v3 v4 v5, ev Φ0 (.op (.cmp .notin) (.cons (.const (.str [34])) (.cons (.var 0) .nil))) [.val (.str (pieceOf b ++ TT cs)), v1, v2, v3, v4, v5] = some (.bool (!(pieceOf b ++ TT cs).contains 34)) := fun _ _ _ _ _ => rfl
  cases hc : (pieceOf b ++ TT cs).contains 34
  · -- no quote
    have e : ST cs = TT cs := no_quote cs hg (by
      rw [List.contains_append, Bool.or_eq_false_iff] at hc; exact hc.2)
    unfold xseq
    rw [xif, hq, hc, e]
    rfl
  · refine (xseq_to (ρ1 := [.val (.str (pieceOf b ++ TT cs)), .no, .no, .no, .no, .no]) (by unfold xif; rw [hq, hc]; rfl)).trans ?_
    refine (xseq_to (xset_to rfl)).trans ?_
    refine (xseq_to (xset_to rfl)).trans ?_
    refine (xseq_to rfl).trans ?_
    have hX : (pieceOf b ++ TT cs).length ≤ 29 := by rw [List.length_append]; omega
    have hfit : genFit (pieceOf b ++ TT cs) = true := by
      refine fit_of ?_ ?_ (by omega)
      · unfold lowB at *; rw [List.all_append, t1]; cases b <;> rfl
      · rw [escEnd_app]; cases b <;> exact t2
    have hsrc : ((ev Φ0 (.gen (.var 0)) [.val (.str (pieceOf b ++ TT cs)), .val (.int 0), .val .none, .own [], .no, .no]).bind items) = some (units (pieceOf b ++ TT cs) 0 false) := by
      rw [ev_gen (x := pieceOf b ++ TT cs) rfl hfit]
      have := units_len (pieceOf b ++ TT cs) 0 false
      simp only [Option.bind_some, items]
      rw [if_pos (by omega)]
    have hgo : Through (go (units (pieceOf b ++ TT cs) 0 false) (gst (pieceOf b ++ TT cs) 0 [] .no .no)) (pieceOf b ++ TT cs) (pieceOf b ++ ST cs) := by
      cases b with
      | false => exact go_chunks cs (TT cs) [] 0 [] .no .no rfl hg (Nat.le_refl _) (by omega) (by simp; omega)
      | true =>
        show Through (go (units (40 :: TT cs) 0 false) _) _ _
        unfold gst
        rw [unit_cons (by decide), go_other (fun _ => rfl)]
        exact go_chunks cs (40 :: TT cs) [40] 0 [] (.val (.int ((0 : Nat) : Int))) (.val (.str [40])) rfl hg (by simp) (by simp; omega) (by simp; omega)
    obtain ⟨s', L', e4', e5', q1, q2, q3, q4⟩ := hgo
    refine (xseq_to (ρ1 := [.val (.str (pieceOf b ++ TT cs)), .val (.int (s' : Int)), .val .none, .own (L'.map .str), e4', e5']) ?_).trans ?_
    · show (((ev Φ0 (.gen (.var 0)) [.val (.str (pieceOf b ++ TT cs)), .val (.int 0), .val .none, .own [], .no, .no]).bind items).bind fun ds => xloop 2 [4, 5] stripB ds _) = _
      rw [hsrc]
      exact q1
    · exact strip_end q2 (by omega) q3 q4 (by rw [List.length_append]; omega)

/-! the units -/
noncomputable def UW : Nat → List (List Nat)
  | 1 => [[92, 40]] | 3 => [[92, 92]] | 5 => [[92, 34], [92, 41]] | _ => []
noncomputable def uns : List Ch → List (List Nat)
  | [] => []
  | (w, c, c') :: r => UW w ++ [c] :: [c'] :: uns r
/-- the place and the unit -/
noncomputable def tell : Int → List (List Nat) → List Dv
  | _, [] => []
  | p, u :: r => .tuple [.int (p + u.length), .str u] :: tell (p + u.length) r
theorem tell_app : ∀ (us vs : List (List Nat)) (p : Int), tell p (us ++ vs) = tell p us ++ tell (p + us.flatten.length) vs
  | [], vs, p => by simp [tell]
  | u :: us, vs, p => by
    simp only [List.cons_append, tell, tell_app us vs, List.flatten_cons, List.length_append]
    congr 3
    omega
theorem tell_units : ∀ (cs : List Ch) (p : Nat), Good cs → units (ST cs) p false = tell ((p : Int) - 1) (uns cs)
  | [], _, _ => rfl
  | (w, c, c') :: r, p, hg => by
    obtain ⟨hw, hc, hc'⟩ := hg _ (List.mem_cons_self ..)
    have hg' : Good r := fun p hp => hg p (List.mem_cons_of_mem _ hp)
    have base : ∀ q : Nat, units (c :: c' :: ST r) q false = tell ((q : Int) - 1) ([c] :: [c'] :: uns r) := by
      intro q
      rw [unit_cons (br_ne hc), unit_cons (br_ne hc'), tell_units r _ hg']
      simp only [tell, List.length_cons, List.length_nil]
      have e1 : (q : Int) - 1 + ((0 + 1 : Nat) : Int) = (q : Int) := by omega
      have e2 : (q : Int) + ((0 + 1 : Nat) : Int) = ((q + 1 : Nat) : Int) := by omega
      have e3 : ((q + 1 + 1 : Nat) : Int) - 1 = ((q + 1 : Nat) : Int) := by omega
      rw [e1, e2, e3]
    have esc : ∀ (q d : Nat) (x : List Nat) (us : List (List Nat)), units x (q + 2) false = tell (((q + 2 : Nat) : Int) - 1) us → units (92 :: d :: x) q false = tell ((q : Int) - 1) ([92, d] :: us) := by
      intro q d x us h
      rw [unit_esc, h]
      simp only [tell, List.length_cons, List.length_nil]
      have e1 : (q : Int) - 1 + ((0 + 1 + 1 : Nat) : Int) = ((q + 1 : Nat) : Int) := by omega
      have e2 : ((q + 2 : Nat) : Int) - 1 = ((q + 1 : Nat) : Int) := by omega
      rw [e1, e2]
    exact lt6 (P := fun w => units (ST ((w, c, c') :: r)) p false = tell ((p : Int) - 1) (uns ((w, c, c') :: r))) hw (base p) (esc p 40 _ _ (base _)) (base p) (esc p 92 _ _ (base _)) (base p) (esc p 34 _ _ (esc _ 41 _ _ (base _)))
end Mine

set_option maxHeartbeats 4000000
namespace Mine
open PySem PySem.W PyProof.Rows

/-- the word that a number names -/
noncomputable def wi (a : Int) : Nat := ((a.fdiv 64).fmod 6).toNat
theorem wi_is (a : Int) : (a.fdiv 64).fmod 6 = (wi a : Int) ∧ wi a < 6 := by
  obtain ⟨r, hr, e⟩ := fmod_lt (a.fdiv 64) 6 (by omega)
  have e' : (a.fdiv 64).fmod 6 = (r : Int) := e
  unfold wi
  rw [e']
  exact ⟨by simp, by simpa using hr⟩
noncomputable def wordAt (v : Nat) (k : Nat) : ME := .op .idx (.cons (.var v) (.cons (.op (.bin .mod) (.cons (.op (.bin .fdiv) (.cons (.op .idx (.cons (.var 1) (.cons (.op (.bin .fdiv) (.cons (.var k) (.cons (.const (.int 2)) .nil))) .nil))) (.cons (.const (.int 64)) .nil))) (.cons (.const (.int 6)) .nil))) .nil))
noncomputable def oddM (k : Nat) : ME := .op (.bin .sub) (.cons (.const (.int 1)) (.cons (.op (.bin .mod) (.cons (.var k) (.cons (.const (.int 2)) .nil))) .nil))
noncomputable def numAt (k : Nat) : ME := .op .idx (.cons (.var 1) (.cons (.op (.bin .fdiv) (.cons (.var k) (.cons (.const (.int 2)) .nil))) .nil))
theorem ev_wordAt {ρ : List En} {v k : Nat} {a : Int} {ds : List Dv} (h1 : ev Φ0 (numAt k) ρ = some (.int a)) (h2 : ev Φ0 (.var v) ρ = some (.list ds)) : ev Φ0 (wordAt v k) ρ = ds[wi a]? := by
  have e : ev Φ0 (.op (.bin .mod) (.cons (.op (.bin .fdiv) (.cons (numAt k) (.cons (.const (.int 64)) .nil))) (.cons (.const (.int 6)) .nil))) ρ = some (.int (wi a : Int)) :=
    by
      have e1 : ev Φ0 (.op (.bin .fdiv) (.cons (numAt k) (.cons (.const (.int 64)) .nil))) ρ = some (.int (a.fdiv 64)) := (ev_op2 (b := .int 64) h1 rfl).trans rfl
      have e2 := (ev_op2 (o := .bin .mod) (B := .const (.int 6)) (b := .int 6) e1 rfl).trans (show (Op.bin .mod).app [.int (a.fdiv 64), .int 6] = some (.int ((a.fdiv 64).fmod 6)) from rfl)
      rw [(wi_is a).1] at e2
      exact e2
  refine (ev_op2 h2 e).trans ?_
  show idxApp (.list ds) (.int (wi a : Int)) = _
  have hw := (wi_is a).2
  have hf : fits (wi a : Int) = true := by unfold fits; rw [Bool.and_eq_true, decide_eq_true_eq, decide_eq_true_eq]; constructor <;> omega
  unfold idxApp
  dsimp only
  rw [if_pos (by rw [hf, decide_eq_true (show (0 : Int) ≤ (wi a : Int) by omega)]; rfl), Int.toNat_natCast]
theorem rep_one {α : Type} (x : List α) : repL x 1 = x := by show (List.replicate 1 x).flatten = x; simp
theorem rep_zero {α : Type} (x : List α) : repL x 0 = [] := rfl

/-! the text -/
noncomputable def eltM : ME := .op (.bin .add) (.cons (.op (.bin .mul) (.cons (wordAt 2 3) (.cons (oddM 3) .nil))) (.cons (.op .idx (.cons (.var 0) (.cons (.var 3) .nil))) .nil))
noncomputable def wordsD : List Dv := [.str [], .str [92, 40], .str [34, 41, 34], .str [92, 92], .str [34, 40, 92, 34, 34], .str [92, 34, 92, 41]]
theorem words_at {w : Nat} (h : w < 6) : wordsD[w]? = some (.str (W w)) := by
  exact lt6 (P := fun w => wordsD[w]? = some (.str (W w))) h rfl rfl rfl rfl rfl rfl
theorem W_len (w : Nat) : (W w).length ≤ 5 := by
  match w with
  | 0 => decide
  | 1 => decide
  | 2 => decide
  | 3 => decide
  | 4 => decide
  | n + 5 => exact (by decide : 4 ≤ 5)
theorem elt_even {ρ : List En} {a : Int} {c : Nat} (h1 : ev Φ0 (numAt 3) ρ = some (.int a)) (h2 : ev Φ0 (.var 2) ρ = some (.list wordsD)) (h3 : ev Φ0 (oddM 3) ρ = some (.int 1)) (h4 : ev Φ0 (.op .idx (.cons (.var 0) (.cons (.var 3) .nil))) ρ = some (.str [c])) :
    ev Φ0 eltM ρ = some (.str (W (wi a) ++ [c])) := by
  have hl := W_len (wi a)
  have hm : ev Φ0 (.op (.bin .mul) (.cons (wordAt 2 3) (.cons (oddM 3) .nil))) ρ = some (.str (W (wi a))) := by
    refine (ev_op2 ((ev_wordAt h1 h2).trans (words_at (wi_is a).2)) h3).trans ?_
    show (if (W (wi a)).length ≤ 1000 && decide (-1000 ≤ (1 : Int)) && decide ((1 : Int) ≤ 1000) then some (Dv.str (repL (W (wi a)) 1)) else none) = _
    rw [decide_eq_true (show (W (wi a)).length ≤ 1000 by omega), rep_one]
    rfl
  refine (ev_op2 hm h4).trans ?_
  show (if (W (wi a)).length + 1 ≤ 1000000 then _ else none) = _
  rw [if_pos (by omega)]
theorem elt_odd {ρ : List En} {a : Int} {c : Nat} (h1 : ev Φ0 (numAt 3) ρ = some (.int a)) (h2 : ev Φ0 (.var 2) ρ = some (.list wordsD)) (h3 : ev Φ0 (oddM 3) ρ = some (.int 0)) (h4 : ev Φ0 (.op .idx (.cons (.var 0) (.cons (.var 3) .nil))) ρ = some (.str [c])) :
    ev Φ0 eltM ρ = some (.str [c]) := by
  have hl := W_len (wi a)
  have hm : ev Φ0 (.op (.bin .mul) (.cons (wordAt 2 3) (.cons (oddM 3) .nil))) ρ = some (.str []) := by
    refine (ev_op2 ((ev_wordAt h1 h2).trans (words_at (wi_is a).2)) h3).trans ?_
    show (if (W (wi a)).length ≤ 1000 && decide (-1000 ≤ (0 : Int)) && decide ((0 : Int) ≤ 1000) then some (Dv.str (repL (W (wi a)) 0)) else none) = _
    rw [decide_eq_true (show (W (wi a)).length ≤ 1000 by omega)]
    rfl
  exact (ev_op2 hm h4).trans rfl
theorem lcomp_to {t e : List En → Option Dv} {ρ : List En} {d y : Dv} {r ys : List Dv} (ht : t (ρ ++ [En.val d]) = some (.bool true)) (he : e (ρ ++ [En.val d]) = some y) (hr : lcomp t e 0 ρ r = some ys) : lcomp t e 0 ρ (d :: r) = some (y :: ys) := by
  rw [lcomp]
  show (match t (ρ ++ [En.val d]) with | some (.bool true) => (e (ρ ++ [En.val d])).bind fun y => (lcomp t e 0 ρ r).map (y :: ·) | some (.bool false) => lcomp t e 0 ρ r | _ => none) = _
  rw [ht]
  show ((e (ρ ++ [En.val d])).bind fun y => (lcomp t e 0 ρ r).map (y :: ·)) = _
  rw [he, hr]
  rfl
noncomputable def chunks (x : List Nat) (a b c d : Int) : List Ch := [(wi a, x.getD 0 0, x.getD 1 0), (wi b, x.getD 2 0, x.getD 3 0), (wi c, x.getD 4 0, x.getD 5 0), (wi d, x.getD 6 0, x.getD 7 0)]
theorem text_ok (c0 c1 c2 c3 c4 c5 c6 c7 : Nat) (a b c d : Int) : f_law_text [.str [c0, c1, c2, c3, c4, c5, c6, c7], .list [.int a, .int b, .int c, .int d]] = some (.str (TT (chunks [c0, c1, c2, c3, c4, c5, c6, c7] a b c d))) := by
  refine body_is rfl ?_
  show x_law_text Φ0 [.val (.str [c0, c1, c2, c3, c4, c5, c6, c7]), .val (.list [.int a, .int b, .int c, .int d]), .no] = _
  unfold x_law_text
  refine (xseq_to (xset_to rfl)).trans ?_
  show ((ev Φ0 (.op (.meth .join) (.cons (.const (.str [])) (.cons (.comp eltM 0 (.rng (.const (.int 0)) (.const (.int 8))) (.const (.bool true))) .nil))) [.val (.str [c0, c1, c2, c3, c4, c5, c6, c7]), .val (.list [.int a, .int b, .int c, .int d]), .val (.list wordsD)]).map Out.ret) = _
  have hc : ev Φ0 (.comp eltM 0 (.rng (.const (.int 0)) (.const (.int 8))) (.const (.bool true))) [.val (.str [c0, c1, c2, c3, c4, c5, c6, c7]), .val (.list [.int a, .int b, .int c, .int d]), .val (.list wordsD)]
      = some (.list ([W (wi a) ++ [c0], [c1], W (wi b) ++ [c2], [c3], W (wi c) ++ [c4], [c5], W (wi d) ++ [c6], [c7]].map .str)) := by
    show (lcomp (ev Φ0 (.const (.bool true))) (ev Φ0 eltM) 0 [.val (.str [c0, c1, c2, c3, c4, c5, c6, c7]), .val (.list [.int a, .int b, .int c, .int d]), .val (.list wordsD)] [.int 0, .int 1, .int 2, .int 3, .int 4, .int 5, .int 6, .int 7]).map Dv.list = _
    rw [lcomp_to rfl (elt_even (a := a) (c := c0) rfl rfl rfl rfl) (lcomp_to rfl (elt_odd (a := a) (c := c1) rfl rfl rfl rfl) (lcomp_to rfl (elt_even (a := b) (c := c2) rfl rfl rfl rfl) (lcomp_to rfl (elt_odd (a := b) (c := c3) rfl rfl rfl rfl)
      (lcomp_to rfl (elt_even (a := c) (c := c4) rfl rfl rfl rfl) (lcomp_to rfl (elt_odd (a := c) (c := c5) rfl rfl rfl rfl) (lcomp_to rfl (elt_even (a := d) (c := c6) rfl rfl rfl rfl) (lcomp_to rfl (elt_odd (a := d) (c := c7) rfl rfl rfl rfl) rfl)))))))]
    rfl
  rw [ev_op2 rfl hc]
  show (((strsOf ([W (wi a) ++ [c0], [c1], W (wi b) ++ [c2], [c3], W (wi c) ++ [c4], [c5], W (wi d) ++ [c6], [c7]].map .str)).bind fun l => if (l.map List.length).sum + l.length * ([] : List Nat).length ≤ 1000000 then some (Dv.str (glue [] l)) else none).map Out.ret) = _
  rw [strs_map]
  simp only [Option.bind_some]
  have ha := W_len (wi a)
  have hb := W_len (wi b)
  have hc' := W_len (wi c)
  have hd := W_len (wi d)
  rw [if_pos (by simp; omega), glue_nil]
  simp [chunks, TT]
end Mine

set_option maxHeartbeats 4000000
namespace Mine
local macro_rules | `(tactic| omega) => `(tactic| lia)
open PySem PySem.W PyProof.Rows

noncomputable def innerB : XF := xseq (xset Φ0 4 (.op (.bin .add) (.cons (.var 4) (.cons (.op (.fn .len) (.cons (.var 6) (.nil))) .nil)))) (xapp Φ0 3 (.op .tup (.cons (.var 4) (.cons (.var 6) (.nil)))))
noncomputable def srcU : ME := .op (.bin .add) (.cons (.op (.bin .mul) (.cons (wordAt 2 5) (.cons (oddM 5) .nil))) (.cons (.cons (.op .idx (.cons (.var 0) (.cons (.var 5) .nil))) (.nil)) .nil))
noncomputable def wordsU : List Dv := [.list [], .list [.str [92, 40]], .list [], .list [.str [92, 92]], .list [], .list [.str [92, 34], .str [92, 41]]]
theorem wordsU_at {w : Nat} (h : w < 6) : wordsU[w]? = some (.list ((UW w).map .str)) := by
  exact lt6 (P := fun w => wordsU[w]? = some (.list ((UW w).map .str))) h rfl rfl rfl rfl rfl rfl
theorem UW_len (w : Nat) : (UW w).length ≤ 2 := by unfold UW; split <;> simp
theorem UW_small (w : Nat) : ∀ u ∈ UW w, u.length ≤ 10 := by unfold UW; split <;> simp
theorem inner_go {v0 v1 v2 v5 : En} : ∀ (us : List (List Nat)) (U : List Dv) (p : Int) (v6 : En), (∀ u ∈ us, u.length ≤ 10) → U.length + us.length ≤ 1000 →
    ∃ v6', xloop 0 [6] innerB (us.map .str) [v0, v1, v2, .own U, .val (.int p), v5, v6] = some (.next [v0, v1, v2, .own (U ++ tell p us), .val (.int (p + us.flatten.length)), v5, v6'])
  | [], U, p, v6, _, _ => ⟨v6, by simp [xloop, tell]⟩
  | u :: us, U, p, v6, hs, hl => by
    have hu := hs u (List.mem_cons_self ..)
    simp only [List.length_cons] at hl
    obtain ⟨v6', h⟩ := inner_go us (U ++ [.tuple [.int (p + u.length), .str u]]) (p + u.length) (.val (.str u)) (fun x hx => hs x (List.mem_cons_of_mem _ hx)) (by simp; omega)
    refine ⟨v6', ?_⟩
    rw [List.map_cons]
    refine (xloop_to (ρ' := [v0, v1, v2, .own (U ++ [.tuple [.int (p + u.length), .str u]]), .val (.int (p + u.length)), v5, .val (.str u)]) rfl ?_).trans ?_
    · show innerB [v0, v1, v2, .own U, .val (.int p), v5, .val (.str u)] = _
      unfold innerB
      have e1 : ev Φ0 (.op (.bin .add) (.cons (.var 4) (.cons (.op (.fn .len) (.cons (.var 6) (.nil))) .nil))) [v0, v1, v2, .own U, .val (.int p), v5, .val (.str u)] = some (.int (p + u.length)) := by
        have hlen : ev Φ0 (.op (.fn .len) (.cons (.var 6) (.nil))) [v0, v1, v2, .own U, .val (.int p), v5, .val (.str u)] = some (.int u.length) := by
          refine (ev_op1 (a := .str u) rfl).trans ?_
          show (if u.length ≤ 100000 then _ else none) = _
          rw [if_pos (by omega)]
        exact (ev_op2 (a := .int p) rfl hlen).trans rfl
      refine (xseq_to (xset_to e1)).trans ?_
      show (if U.length ≤ 100000 then _ else none) = _
      rw [if_pos (by omega)]
      rfl
    · refine h.trans ?_
      have e : p + (u.length : Int) + (us.flatten.length : Int) = p + ((u :: us).flatten.length : Int) := by rw [List.flatten_cons, List.length_append]; omega
      rw [e]
      simp only [tell, List.append_assoc, List.cons_append, List.nil_append]
theorem items_is {ds : List Dv} (h : ds.length ≤ 1000) : items (.list ds) = some ds := by
  show (if ds.length ≤ 100000 then some ds else none) = _
  rw [if_pos (by omega)]
theorem xfor_to {Φ : Nat → List Dv → Option Dv} {n : Nat} {is : List Nat} {m : ME} {body : XF} {ρ : List En} {ds : List Dv} (h : ev Φ m ρ = some (.list ds)) (hl : ds.length ≤ 1000) : xfor Φ n is m body ρ = xloop n is body ds ρ := by
  unfold xfor; rw [h, Option.bind_some, items_is hl]; rfl
theorem units_even {v0 v1 v5 v6 : En} {a : Int} {c : Nat} {U : List Dv} {p : Int} (hU : U.length ≤ 900) (h1 : ev Φ0 (numAt 5) [v0, v1, .val (.list wordsU), .own U, .val (.int p), v5, v6] = some (.int a))
    (h3 : ev Φ0 (oddM 5) [v0, v1, .val (.list wordsU), .own U, .val (.int p), v5, v6] = some (.int 1)) (h4 : ev Φ0 (.op .idx (.cons (.var 0) (.cons (.var 5) .nil))) [v0, v1, .val (.list wordsU), .own U, .val (.int p), v5, v6] = some (.str [c])) :
    ∃ v6', xfor Φ0 0 [6] srcU innerB [v0, v1, .val (.list wordsU), .own U, .val (.int p), v5, v6] = some (.next [v0, v1, .val (.list wordsU), .own (U ++ tell p (UW (wi a) ++ [[c]])), .val (.int (p + (UW (wi a) ++ [[c]]).flatten.length)), v5, v6']) := by
  have hl := UW_len (wi a)
  have hm : ev Φ0 (.op (.bin .mul) (.cons (wordAt 2 5) (.cons (oddM 5) .nil))) [v0, v1, .val (.list wordsU), .own U, .val (.int p), v5, v6] = some (.list ((UW (wi a)).map .str)) := by
    refine (ev_op2 ((ev_wordAt h1 rfl).trans (wordsU_at (wi_is a).2)) h3).trans ?_
    show (if ((UW (wi a)).map Dv.str).length ≤ 1000 && decide (-1000 ≤ (1 : Int)) && decide ((1 : Int) ≤ 1000) then some (Dv.list (repL ((UW (wi a)).map Dv.str) 1)) else none) = _
    rw [decide_eq_true (show ((UW (wi a)).map Dv.str).length ≤ 1000 by rw [List.length_map]; omega), rep_one]
    rfl
  have hc : ev Φ0 (.cons (.op .idx (.cons (.var 0) (.cons (.var 5) .nil))) (.nil)) [v0, v1, .val (.list wordsU), .own U, .val (.int p), v5, v6] = some (.list [.str [c]]) := by
    simp only [ev, lst, Option.map_some] at h4 ⊢
    rw [h4]; rfl
  have hs : ev Φ0 srcU [v0, v1, .val (.list wordsU), .own U, .val (.int p), v5, v6] = some (.list ((UW (wi a) ++ [[c]]).map .str)) := by
    refine (ev_op2 hm hc).trans ?_
    show (if ((UW (wi a)).map Dv.str).length + 1 ≤ 1000000 then _ else none) = _
    rw [if_pos (by rw [List.length_map]; omega), List.map_append]
    rfl
  obtain ⟨v6', h⟩ := inner_go (v0 := v0) (v1 := v1) (v2 := .val (.list wordsU)) (v5 := v5) (UW (wi a) ++ [[c]]) U p v6 (by
    intro u hu
    rcases List.mem_append.mp hu with h | h
    · exact UW_small _ u h
    · simp at h; subst h; simp) (by simp; omega)
  exact ⟨v6', (xfor_to hs (by simp; omega)).trans h⟩
theorem units_odd {v0 v1 v5 v6 : En} {a : Int} {c : Nat} {U : List Dv} {p : Int} (hU : U.length ≤ 900) (h1 : ev Φ0 (numAt 5) [v0, v1, .val (.list wordsU), .own U, .val (.int p), v5, v6] = some (.int a))
    (h3 : ev Φ0 (oddM 5) [v0, v1, .val (.list wordsU), .own U, .val (.int p), v5, v6] = some (.int 0)) (h4 : ev Φ0 (.op .idx (.cons (.var 0) (.cons (.var 5) .nil))) [v0, v1, .val (.list wordsU), .own U, .val (.int p), v5, v6] = some (.str [c])) :
    ∃ v6', xfor Φ0 0 [6] srcU innerB [v0, v1, .val (.list wordsU), .own U, .val (.int p), v5, v6] = some (.next [v0, v1, .val (.list wordsU), .own (U ++ tell p [[c]]), .val (.int (p + ([[c]] : List (List Nat)).flatten.length)), v5, v6']) := by
  have hl := UW_len (wi a)
  have hm : ev Φ0 (.op (.bin .mul) (.cons (wordAt 2 5) (.cons (oddM 5) .nil))) [v0, v1, .val (.list wordsU), .own U, .val (.int p), v5, v6] = some (.list []) := by
    refine (ev_op2 ((ev_wordAt h1 rfl).trans (wordsU_at (wi_is a).2)) h3).trans ?_
    show (if ((UW (wi a)).map Dv.str).length ≤ 1000 && decide (-1000 ≤ (0 : Int)) && decide ((0 : Int) ≤ 1000) then some (Dv.list (repL ((UW (wi a)).map Dv.str) 0)) else none) = _
    rw [decide_eq_true (show ((UW (wi a)).map Dv.str).length ≤ 1000 by rw [List.length_map]; omega)]
    rfl
  have hc : ev Φ0 (.cons (.op .idx (.cons (.var 0) (.cons (.var 5) .nil))) (.nil)) [v0, v1, .val (.list wordsU), .own U, .val (.int p), v5, v6] = some (.list [.str [c]]) := by
    simp only [ev, lst, Option.map_some] at h4 ⊢
    rw [h4]; rfl
  have hs : ev Φ0 srcU [v0, v1, .val (.list wordsU), .own U, .val (.int p), v5, v6] = some (.list (([[c]] : List (List Nat)).map .str)) := (ev_op2 hm hc).trans rfl
  obtain ⟨v6', h⟩ := inner_go (v0 := v0) (v1 := v1) (v2 := .val (.list wordsU)) (v5 := v5) [[c]] U p v6 (by simp) (by simp; omega)
  exact ⟨v6', (xfor_to hs (by simp)).trans h⟩
theorem tell_len : ∀ (us : List (List Nat)) (p : Int), (tell p us).length = us.length
  | [], _ => rfl
  | u :: us, p => by simp [tell, tell_len us]
noncomputable def stX (x : List Nat) (nums : List Dv) (G : List (List Nat)) (v5 v6 : En) : List En := [.val (.str x), .val (.list nums), .val (.list wordsU), .own (tell (-1) G), .val (.int (-1 + (G.flatten.length : Int))), v5, v6]
theorem stX_grow {x : List Nat} {nums : List Dv} (G H : List (List Nat)) (v5 v6 : En) : [.val (.str x), .val (.list nums), .val (.list wordsU), .own (tell (-1) G ++ tell (-1 + (G.flatten.length : Int)) H), .val (.int (-1 + (G.flatten.length : Int) + (H.flatten.length : Int))), v5, v6] = stX x nums (G ++ H) v5 v6 := by
  unfold stX
  have e : -1 + (G.flatten.length : Int) + (H.flatten.length : Int) = -1 + ((G ++ H).flatten.length : Int) := by rw [List.flatten_append, List.length_append]; omega
  rw [tell_app G H, e]
theorem turn_even {x : List Nat} {nums : List Dv} (G : List (List Nat)) {k : Int} {v5 v6 : En} {a : Int} {c : Nat} (hG : G.length ≤ 900) (h1 : ∀ v3 v4 v6, ev Φ0 (numAt 5) [.val (.str x), .val (.list nums), .val (.list wordsU), v3, v4, .val (.int k), v6] = some (.int a))
    (h3 : ∀ v3 v4 v6, ev Φ0 (oddM 5) [.val (.str x), .val (.list nums), .val (.list wordsU), v3, v4, .val (.int k), v6] = some (.int 1)) (h4 : ∀ v3 v4 v6, ev Φ0 (.op .idx (.cons (.var 0) (.cons (.var 5) .nil))) [.val (.str x), .val (.list nums), .val (.list wordsU), v3, v4, .val (.int k), v6] = some (.str [c])) (ds : List Dv) :
    ∃ v6', xloop 0 [5] (xfor Φ0 0 [6] srcU innerB) (.int k :: ds) (stX x nums G v5 v6) = xloop 0 [5] (xfor Φ0 0 [6] srcU innerB) ds (stX x nums (G ++ (UW (wi a) ++ [[c]])) (.val (.int k)) v6') := by
  obtain ⟨w, h⟩ := units_even (v5 := .val (.int k)) (v6 := v6) (U := tell (-1) G) (p := -1 + (G.flatten.length : Int)) (by rw [tell_len]; exact hG) (h1 _ _ _) (h3 _ _ _) (h4 _ _ _)
  exact ⟨w, xloop_to rfl (h.trans (by rw [stX_grow]))⟩
theorem turn_odd {x : List Nat} {nums : List Dv} (G : List (List Nat)) {k : Int} {v5 v6 : En} {a : Int} {c : Nat} (hG : G.length ≤ 900) (h1 : ∀ v3 v4 v6, ev Φ0 (numAt 5) [.val (.str x), .val (.list nums), .val (.list wordsU), v3, v4, .val (.int k), v6] = some (.int a))
    (h3 : ∀ v3 v4 v6, ev Φ0 (oddM 5) [.val (.str x), .val (.list nums), .val (.list wordsU), v3, v4, .val (.int k), v6] = some (.int 0)) (h4 : ∀ v3 v4 v6, ev Φ0 (.op .idx (.cons (.var 0) (.cons (.var 5) .nil))) [.val (.str x), .val (.list nums), .val (.list wordsU), v3, v4, .val (.int k), v6] = some (.str [c])) (ds : List Dv) :
    ∃ v6', xloop 0 [5] (xfor Φ0 0 [6] srcU innerB) (.int k :: ds) (stX x nums G v5 v6) = xloop 0 [5] (xfor Φ0 0 [6] srcU innerB) ds (stX x nums (G ++ [[c]]) (.val (.int k)) v6') := by
  obtain ⟨w, h⟩ := units_odd (v5 := .val (.int k)) (v6 := v6) (U := tell (-1) G) (p := -1 + (G.flatten.length : Int)) (by rw [tell_len]; exact hG) (h1 _ _ _) (h3 _ _ _) (h4 _ _ _)
  exact ⟨w, xloop_to rfl (h.trans (by rw [stX_grow]))⟩
theorem units_ok (c0 c1 c2 c3 c4 c5 c6 c7 : Nat) (a b c d : Int) : f_law_units [.str [c0, c1, c2, c3, c4, c5, c6, c7], .list [.int a, .int b, .int c, .int d]] = some (.list (tell (-1) (uns (chunks [c0, c1, c2, c3, c4, c5, c6, c7] a b c d)))) := by
  have la := UW_len (wi a)
  have lb := UW_len (wi b)
  have lc := UW_len (wi c)
  have ld := UW_len (wi d)
  obtain ⟨w1, h1⟩ := turn_even (x := [c0, c1, c2, c3, c4, c5, c6, c7]) (nums := [.int a, .int b, .int c, .int d]) (k := 0) (a := a) (c := c0) (v5 := .no) (v6 := .no) [] (by simp) (fun _ _ _ => rfl) (fun _ _ _ => rfl) (fun _ _ _ => rfl) [.int 1, .int 2, .int 3, .int 4, .int 5, .int 6, .int 7]
  obtain ⟨w2, h2⟩ := turn_odd (x := [c0, c1, c2, c3, c4, c5, c6, c7]) (nums := [.int a, .int b, .int c, .int d]) (k := 1) (a := a) (c := c1) (v5 := .val (.int 0)) (v6 := w1) ([] ++ (UW (wi a) ++ [[c0]])) (by simp; omega) (fun _ _ _ => rfl) (fun _ _ _ => rfl) (fun _ _ _ => rfl) [.int 2, .int 3, .int 4, .int 5, .int 6, .int 7]
  obtain ⟨w3, h3⟩ := turn_even (x := [c0, c1, c2, c3, c4, c5, c6, c7]) (nums := [.int a, .int b, .int c, .int d]) (k := 2) (a := b) (c := c2) (v5 := .val (.int 1)) (v6 := w2) ([] ++ (UW (wi a) ++ [[c0]]) ++ [[c1]]) (by simp; omega) (fun _ _ _ => rfl) (fun _ _ _ => rfl) (fun _ _ _ => rfl) [.int 3, .int 4, .int 5, .int 6, .int 7]
  obtain ⟨w4, h4⟩ := turn_odd (x := [c0, c1, c2, c3, c4, c5, c6, c7]) (nums := [.int a, .int b, .int c, .int d]) (k := 3) (a := b) (c := c3) (v5 := .val (.int 2)) (v6 := w3) ([] ++ (UW (wi a) ++ [[c0]]) ++ [[c1]] ++ (UW (wi b) ++ [[c2]])) (by simp; omega) (fun _ _ _ => rfl) (fun _ _ _ => rfl) (fun _ _ _ => rfl) [.int 4, .int 5, .int 6, .int 7]
  obtain ⟨w5, h5⟩ := turn_even (x := [c0, c1, c2, c3, c4, c5, c6, c7]) (nums := [.int a, .int b, .int c, .int d]) (k := 4) (a := c) (c := c4) (v5 := .val (.int 3)) (v6 := w4) ([] ++ (UW (wi a) ++ [[c0]]) ++ [[c1]] ++ (UW (wi b) ++ [[c2]]) ++ [[c3]]) (by simp; omega) (fun _ _ _ => rfl) (fun _ _ _ => rfl) (fun _ _ _ => rfl) [.int 5, .int 6, .int 7]
  obtain ⟨w6, h6⟩ := turn_odd (x := [c0, c1, c2, c3, c4, c5, c6, c7]) (nums := [.int a, .int b, .int c, .int d]) (k := 5) (a := c) (c := c5) (v5 := .val (.int 4)) (v6 := w5) ([] ++ (UW (wi a) ++ [[c0]]) ++ [[c1]] ++ (UW (wi b) ++ [[c2]]) ++ [[c3]] ++ (UW (wi c) ++ [[c4]])) (by simp; omega) (fun _ _ _ => rfl) (fun _ _ _ => rfl) (fun _ _ _ => rfl) [.int 6, .int 7]
  obtain ⟨w7, h7⟩ := turn_even (x := [c0, c1, c2, c3, c4, c5, c6, c7]) (nums := [.int a, .int b, .int c, .int d]) (k := 6) (a := d) (c := c6) (v5 := .val (.int 5)) (v6 := w6) ([] ++ (UW (wi a) ++ [[c0]]) ++ [[c1]] ++ (UW (wi b) ++ [[c2]]) ++ [[c3]] ++ (UW (wi c) ++ [[c4]]) ++ [[c5]]) (by simp; omega) (fun _ _ _ => rfl) (fun _ _ _ => rfl) (fun _ _ _ => rfl) [.int 7]
  obtain ⟨w8, h8⟩ := turn_odd (x := [c0, c1, c2, c3, c4, c5, c6, c7]) (nums := [.int a, .int b, .int c, .int d]) (k := 7) (a := d) (c := c7) (v5 := .val (.int 6)) (v6 := w7) ([] ++ (UW (wi a) ++ [[c0]]) ++ [[c1]] ++ (UW (wi b) ++ [[c2]]) ++ [[c3]] ++ (UW (wi c) ++ [[c4]]) ++ [[c5]] ++ (UW (wi d) ++ [[c6]])) (by simp; omega) (fun _ _ _ => rfl) (fun _ _ _ => rfl) (fun _ _ _ => rfl) []
  refine body_is rfl ?_
  show x_law_units Φ0 [.val (.str [c0, c1, c2, c3, c4, c5, c6, c7]), .val (.list [.int a, .int b, .int c, .int d]), .no, .no, .no, .no, .no] = _
  unfold x_law_units
  refine (xseq_to (ρ1 := stX [c0, c1, c2, c3, c4, c5, c6, c7] [.int a, .int b, .int c, .int d] [] .no .no) rfl).trans ?_
  refine (xseq_to ((xfor_to (ds := [.int 0, .int 1, .int 2, .int 3, .int 4, .int 5, .int 6, .int 7]) rfl (by simp)).trans (h1.trans (h2.trans (h3.trans (h4.trans (h5.trans (h6.trans (h7.trans (h8.trans rfl)))))))))).trans ?_
  show some (Out.ret (.list (tell (-1) ([] ++ (UW (wi a) ++ [[c0]]) ++ [[c1]] ++ (UW (wi b) ++ [[c2]]) ++ [[c3]] ++ (UW (wi c) ++ [[c4]]) ++ [[c5]] ++ (UW (wi d) ++ [[c6]]) ++ [[c7]])))) = _
  simp [chunks, uns]
end Mine

set_option maxHeartbeats 4000000
namespace Mine
open PySem PySem.W PyProof.Rows

/-- a bracket, or a text behind a backslash -/
inductive OkU : List (List Nat) → List Nat → Prop
  | nil : OkU [] []
  | br {c : Nat} {us : List (List Nat)} {bs : List Nat} : br c → OkU us bs → OkU ([c] :: us) (c :: bs)
  | esc {d : Nat} {us : List (List Nat)} {bs : List Nat} : d ∈ [40, 92, 34, 41] → OkU us bs → OkU ([92, d] :: us) bs
noncomputable def brs : List Ch → List Nat
  | [] => []
  | (_, c, c') :: r => c :: c' :: brs r
theorem okU_uns : ∀ cs : List Ch, Good cs → OkU (uns cs) (brs cs) := by
  intro cs
  induction cs with
  | nil => exact fun _ => .nil
  | cons p r ih =>
    intro hg
    obtain ⟨w, c, c'⟩ := p
    obtain ⟨hw, hc, hc'⟩ := hg _ (List.mem_cons_self ..)
    have h := OkU.br hc (.br hc' (ih fun p hp => hg p (List.mem_cons_of_mem _ hp)))
    clear hg ih
    exact lt6 (P := fun w => OkU (uns ((w, c, c') :: r)) (brs ((w, c, c') :: r))) hw h (.esc (by simp) h) h (.esc (by simp) h) h (.esc (by simp) (.esc (by simp) h))

/-! equality -/
theorem tell_lay {us : List (List Nat)} {bs : List Nat} (p : Int) (o : OkU us bs) : lays 5 (tell p us) = true := by
  induction o generalizing p with
  | nil => rfl
  | br h r ih =>
    show (Dv.lay 5 _ && lays 5 _) = true
    rw [ih]
    rcases h with rfl | rfl <;> rfl
  | esc h r ih =>
    show (Dv.lay 5 _ && lays 5 _) = true
    rw [ih]
    simp only [List.mem_cons, List.not_mem_nil, or_false] at h
    rcases h with rfl | rfl | rfl | rfl <;> rfl
theorem tell_eqv : ∀ (us : List (List Nat)) (p : Int), eqvs (tell p us) (tell p us) = true
  | [], _ => rfl
  | u :: us, p => by
    show ((((p + (u.length : Int)) == (p + (u.length : Int))) && ((u == u) && true)) && eqvs (tell (p + u.length) us) (tell (p + u.length) us)) = true
    rw [tell_eqv us, beq_self_eq_true, beq_self_eq_true]; rfl
theorem ne_self {us : List (List Nat)} {bs : List Nat} {p : Int} (h : OkU us bs) : Cop.ne.app (.list (tell p us)) (.list (tell p us)) = some false := by
  show (if Dv.lay 6 (.list (tell p us)) && Dv.lay 6 (.list (tell p us)) then some (!Dv.eqv (.list (tell p us)) (.list (tell p us))) else none) = _
  have h1 : Dv.lay 6 (.list (tell p us)) = true := tell_lay p h
  have h2 : Dv.eqv (.list (tell p us)) (.list (tell p us)) = true := tell_eqv us p
  rw [h1, h2]; rfl
/-- `[y for y in ..]` -/
theorem lcomp_id {Φ : Nat → List Dv → Option Dv} {ρ : List En} : ∀ ds : List Dv, lcomp (ev Φ (.const (.bool true))) (ev Φ (.var ρ.length)) 0 ρ ds = some ds
  | [] => rfl
  | d :: ds => lcomp_to rfl (by simp [ev]) (lcomp_id ds)

/-! the lead -/
noncomputable def leadC : ME := .op (.bin .add) (.cons (.op .sl (.cons (.call 0 (.cons (.var 2) (.nil))) (.cons (.const .none) (.cons (.op .neg (.cons (.const (.int 2)) .nil)) (.cons (.const .none) .nil))))) (.cons (.op .unlit (.cons (.var 1) .nil)) .nil))
noncomputable def leadM : ME := .op (.bin .add) (.cons (.op (.bin .add) (.cons (.op .rep (.cons (.call 0 (.cons (.var 3) (.nil))) (.cons (.const (.str [13, 10])) (.cons (.op .unlit (.cons (.var 1) .nil)) .nil)))) (.cons (.var 2) .nil))) (.cons (.ite (.op (.cmp .eq) (.cons (.var 3) (.cons (.const (.str [])) .nil))) (.op .unlit (.cons (.var 1) .nil)) (.const (.str []))) .nil))
noncomputable def leadR : ME := .op .rep (.cons (.op .rep (.cons (.call 1 (.cons (.var 3) (.nil))) (.cons (.const (.str [13, 10])) (.cons (.const (.str [9])) .nil)))) (.cons (.const (.str [46])) (.cons (.const (.str [32])) .nil)))
noncomputable def leadB : XF := xif Φa (.op (.cmp .eq) (.cons (.var 5) (.cons (.const (.str [40])) .nil))) (xset Φa 2 leadC) (xif Φa (.op (.cmp .eq) (.cons (.var 5) (.cons (.const (.str [41])) .nil))) (xset Φa 3 leadM) (xnil))
noncomputable def leadF (v1 : En) : En → En → List Nat → Option (En × En)
  | v2, v3, [] => some (v2, v3)
  | v2, v3, c :: bs => if c = 40 then (ev Φa leadC [.no, v1, v2, v3, .no, .no]).bind fun d => leadF v1 (.val d) v3 bs else (ev Φa leadM [.no, v1, v2, v3, .no, .no]).bind fun d => leadF v1 v2 (.val d) bs
theorem leadF_open {v1 v2 v3 : En} {bs : List Nat} : leadF v1 v2 v3 (40 :: bs) = (ev Φa leadC [.no, v1, v2, v3, .no, .no]).bind fun d => leadF v1 (.val d) v3 bs := if_pos rfl
theorem leadF_close {v1 v2 v3 : En} {bs : List Nat} : leadF v1 v2 v3 (41 :: bs) = (ev Φa leadM [.no, v1, v2, v3, .no, .no]).bind fun d => leadF v1 v2 (.val d) bs := if_neg (by decide)
theorem lead_go {v0 v1 : En} {us : List (List Nat)} {bs : List Nat} (o : OkU us bs) : ∀ (p : Int) (v2 v3 v2' v3' e4 e5 : En), leadF v1 v2 v3 bs = some (v2', v3') →
    ∃ e4' e5', xloop 2 [4, 5] leadB (tell p us) [v0, v1, v2, v3, e4, e5] = some (.next [v0, v1, v2', v3', e4', e5']) := by
  induction o with
  | nil =>
    intro p v2 v3 v2' v3' e4 e5 h
    cases h
    exact ⟨e4, e5, rfl⟩
  | @esc d us bs hd r ih =>
    intro p v2 v3 v2' v3' e4 e5 h
    obtain ⟨e4', e5', q⟩ := ih (p + ([92, d] : List Nat).length) v2 v3 v2' v3' (.val (.int (p + ([92, d] : List Nat).length))) (.val (.str [92, d])) h
    refine ⟨e4', e5', (xloop_to rfl ?_).trans q⟩
    simp only [List.mem_cons, List.not_mem_nil, or_false] at hd
    rcases hd with rfl | rfl | rfl | rfl <;> rfl
  | @br c us bs hc r ih =>
    intro p v2 v3 v2' v3' e4 e5 h
    rcases hc with rfl | rfl
    · rw [leadF_open] at h
      obtain ⟨d, hd, h⟩ := Option.bind_eq_some_iff.mp h
      obtain ⟨e4', e5', q⟩ := ih (p + ([40] : List Nat).length) (.val d) v3 v2' v3' (.val (.int (p + ([40] : List Nat).length))) (.val (.str [40])) h
      refine ⟨e4', e5', (xloop_to rfl ?_).trans q⟩
      show ((ev Φa leadC [.no, v1, v2, v3, .no, .no]).map fun d => Out.next [v0, v1, .val d, v3, .val (.int (p + ([40] : List Nat).length)), .val (.str [40])]) = _
      rw [hd]; rfl
    · rw [leadF_close] at h
      obtain ⟨d, hd, h⟩ := Option.bind_eq_some_iff.mp h
      obtain ⟨e4', e5', q⟩ := ih (p + ([41] : List Nat).length) v2 (.val d) v2' v3' (.val (.int (p + ([41] : List Nat).length))) (.val (.str [41])) h
      refine ⟨e4', e5', (xloop_to rfl ?_).trans q⟩
      show ((ev Φa leadM [.no, v1, v2, v3, .no, .no]).map fun d => Out.next [v0, v1, v2, .val d, .val (.int (p + ([41] : List Nat).length)), .val (.str [41])]) = _
      rw [hd]; rfl
/-- what the brackets alone make of it -/
noncomputable def leadOf (bs e : List Nat) : Option Dv := (ev Φa (.op (.bin .add) (.cons (.const (.str [46])) (.cons (.op .unlit (.cons (.var 1) .nil)) .nil))) [.no, .val (.lit e), .no, .no, .no, .no]).bind fun d =>
  (leadF (.val (.lit e)) (.val d) (.val (.str [])) bs).bind fun q => ev Φa leadR [.no, .val (.lit e), q.1, q.2, .no, .no]
theorem lead_ok {us : List (List Nat)} {bs e y : List Nat} {p : Int} (hu : OkU us bs) (hl : us.length ≤ 1000) (h : leadOf bs e = some (.str y)) : f_law_lead [.list (tell p us), .lit e] = some (.str y) := by
  unfold leadOf at h
  obtain ⟨d, hd, h⟩ := Option.bind_eq_some_iff.mp h
  obtain ⟨⟨v2, v3⟩, hf, h⟩ := Option.bind_eq_some_iff.mp h
  have hb : bodyOf 2 4 (x_law_lead Φa) [.list (tell p us), .lit e] = some (.str y) := by
    refine body_is rfl ?_
    show x_law_lead Φa [.val (.list (tell p us)), .val (.lit e), .no, .no, .no, .no] = _
    unfold x_law_lead
    have hd' : ev Φa (.op (.bin .add) (.cons (.const (.str [46])) (.cons (.op .unlit (.cons (.var 1) .nil)) .nil))) [.val (.list (tell p us)), .val (.lit e), .no, .no, .no, .no] = some d := hd
    obtain ⟨e4', e5', q⟩ := lead_go (v0 := .val (.list (tell p us))) hu p (.val d) (.val (.str [])) v2 v3 .no .no hf
    refine (xseq_to (ρ1 := [.val (.list (tell p us)), .val (.lit e), .val d, .val (.str []), .no, .no]) ?_).trans ?_
    · simp only [xtupR, evPts, hd', Option.bind_some]
      rfl
    refine (xseq_to ((xfor_to rfl (by rw [tell_len]; exact hl)).trans q)).trans ?_
    show (ev Φa leadR [.val (.list (tell p us)), .val (.lit e), v2, v3, e4', e5']).map Out.ret = _
    rw [show ev Φa leadR [.val (.list (tell p us)), .val (.lit e), v2, v3, e4', e5'] = ev Φa leadR [.no, .val (.lit e), v2, v3, .no, .no] from rfl, h]
    rfl
  unfold f_law_lead gStr
  rw [hb]
end Mine

set_option maxHeartbeats 4000000
namespace Mine
open PySem PySem.W PyProof.Rows

noncomputable def chkB : XF := xif Φa (.op (.cmp .eq) (.cons (.var 3) (.cons (.const (.str [40])) .nil))) (xaug Φa 1 true (.const (.int 1))) (xif Φa (.op (.cmp .eq) (.cons (.var 3) (.cons (.const (.str [41])) .nil))) (xseq (xaug Φa 1 false (.const (.int 1))) (xif Φa (.op (.cmp .lt) (.cons (.var 1) (.cons (.const (.int 0)) .nil))) (xret Φa (.const (.bool false))) (xnil))) (xnil))
noncomputable def chkE : XF := xret Φa (.op (.cmp .eq) (.cons (.var 1) (.cons (.const (.int 0)) .nil)))
noncomputable def chkL : Int → List Nat → Bool
  | o, [] => o == 0
  | o, c :: bs => if c = 40 then chkL (o + 1) bs else if o - 1 < 0 then false else chkL (o - 1) bs
theorem xloop_ret {n : Nat} {is : List Nat} {body : XF} {d v : Dv} {ds : List Dv} {ρ : List En} {bs : List Dv} (h : bindT n d = some bs) (hb : body (puts ρ is bs) = some (.ret v)) : xloop n is body (d :: ds) ρ = some (.ret v) := by
  rw [xloop, h]; simp only [Option.bind_some]; rw [hb]
theorem chkL_open {o : Int} {bs : List Nat} : chkL o (40 :: bs) = chkL (o + 1) bs := if_pos rfl
theorem chkL_close {o : Int} {bs : List Nat} : chkL o (41 :: bs) = if o - 1 < 0 then false else chkL (o - 1) bs := if_neg (by decide)
theorem chk_go {v0 : En} {us : List (List Nat)} {bs : List Nat} (ok : OkU us bs) : ∀ (p o : Int) (e2 e3 : En),
    ((xloop 2 [2, 3] chkB (tell p us) [v0, .val (.int o), e2, e3]).bind fun x => match x with | .next ρ' => chkE ρ' | x => some x) = some (.ret (.bool (chkL o bs))) := by
  induction ok with
  | nil => intro p o e2 e3; rfl
  | @esc d us bs hd r ih =>
    intro p o e2 e3
    refine Eq.trans (congrArg (fun x => Option.bind x _) (xloop_to rfl ?_)) (ih (p + ([92, d] : List Nat).length) o (.val (.int (p + ([92, d] : List Nat).length))) (.val (.str [92, d])))
    simp only [List.mem_cons, List.not_mem_nil, or_false] at hd
    rcases hd with rfl | rfl | rfl | rfl <;> rfl
  | @br c us bs hc r ih =>
    intro p o e2 e3
    rcases hc with rfl | rfl
    · rw [chkL_open]
      exact Eq.trans (congrArg (fun x => Option.bind x _) (xloop_to rfl rfl)) (ih (p + ([40] : List Nat).length) (o + 1) (.val (.int (p + ([40] : List Nat).length))) (.val (.str [40])))
    · rw [chkL_close]
      have hlt : ev Φa (.op (.cmp .lt) (.cons (.var 1) (.cons (.const (.int 0)) .nil))) [v0, .val (.int (o - 1)), .val (.int (p + ([41] : List Nat).length)), .val (.str [41])] = some (.bool (decide (o - 1 < 0))) := rfl
      by_cases h : o - 1 < 0
      · rw [if_pos h]
        rw [decide_eq_true h] at hlt
        refine congrArg (fun x => Option.bind x _) (xloop_ret rfl (v := .bool false) ?_)
        show (match ev Φa (.op (.cmp .lt) (.cons (.var 1) (.cons (.const (.int 0)) .nil))) [v0, .val (.int (o - 1)), .val (.int (p + ([41] : List Nat).length)), .val (.str [41])] with | some (.bool true) => xret Φa (.const (.bool false)) _ | some (.bool false) => xnil _ | _ => none) = _
        rw [hlt]; rfl
      · rw [if_neg h]
        rw [decide_eq_false h] at hlt
        refine Eq.trans (congrArg (fun x => Option.bind x _) (xloop_to rfl ?_)) (ih (p + ([41] : List Nat).length) (o - 1) (.val (.int (p + ([41] : List Nat).length))) (.val (.str [41])))
        show (match ev Φa (.op (.cmp .lt) (.cons (.var 1) (.cons (.const (.int 0)) .nil))) [v0, .val (.int (o - 1)), .val (.int (p + ([41] : List Nat).length)), .val (.str [41])] with | some (.bool true) => xret Φa (.const (.bool false)) _ | some (.bool false) => xnil _ | _ => none) = _
        rw [hlt]; rfl
theorem check_ok {X Y bs : List Nat} {us : List (List Nat)} (hs : f_strip_quoted_realnames [.str X] = some (.str Y)) (hf : genFit Y = true) (hu : units Y 0 false = tell (-1) us) (ho : OkU us bs) (hl : us.length ≤ 1000) : f_check_parenthesis [.str X] = some (.bool (chkL 0 bs)) := by
  refine body_is rfl ?_
  show x_check_parenthesis Φa [.val (.str X), .no, .no, .no] = _
  unfold x_check_parenthesis
  have hc : ev Φa (.call 3 (.cons (.var 0) (.nil))) [.val (.str X), .no, .no, .no] = some (.str Y) := hs
  refine (xseq_to (xset_to hc)).trans ?_
  refine (xseq_to (xset_to rfl)).trans ?_
  have hg : ev Φa (.gen (.var 0)) [.val (.str Y), .val (.int 0), .no, .no] = some (.list (tell (-1) us)) := by rw [ev_gen rfl hf, hu]
  show xseq (xfor Φa 2 [2, 3] (.gen (.var 0)) chkB) chkE [.val (.str Y), .val (.int 0), .no, .no] = _
  unfold xseq
  rw [xfor_to hg (by rw [tell_len]; exact hl)]
  exact chk_go ho (-1) 0 .no .no

/-! a board's texts -/
theorem chunks_good {x : List Nat} (hx : ∀ i, i < 8 → br (x.getD i 0)) (a b c d : Int) : Good (chunks x a b c d) := by
  intro p hp
  simp only [chunks, List.mem_cons, List.not_mem_nil, or_false] at hp
  rcases hp with rfl | rfl | rfl | rfl
  · exact ⟨(wi_is a).2, hx 0 (by omega), hx 1 (by omega)⟩
  · exact ⟨(wi_is b).2, hx 2 (by omega), hx 3 (by omega)⟩
  · exact ⟨(wi_is c).2, hx 4 (by omega), hx 5 (by omega)⟩
  · exact ⟨(wi_is d).2, hx 6 (by omega), hx 7 (by omega)⟩
theorem uns_len (cs : List Ch) : (uns cs).length ≤ 4 * cs.length := by
  induction cs with
  | nil => simp [uns]
  | cons p r ih =>
    obtain ⟨w, c, c'⟩ := p
    have := UW_len w
    simp only [uns, List.length_append, List.length_cons]
    omega
/-- what the law asks of a board's text -/
structure BoardOk (x : List Nat) (nums : List Dv) : Prop where
  text : ∃ (X Y : List Nat) (us : List (List Nat)), f_law_text [.str x, .list nums] = some (.str X) ∧ f_strip_quoted_realnames [.str X] = some (.str Y) ∧ genFit Y = true ∧ units Y 0 false = tell (-1) us ∧ f_law_units [.str x, .list nums] = some (.list (tell (-1) us)) ∧ OkU us x ∧ us.length ≤ 1000
    ∧ f_check_parenthesis [.str X] = some (.bool (chkL 0 x)) ∧ f_check_parenthesis [.str (40 :: X)] = some (.bool (chkL 0 (40 :: x))) ∧ X.length ≤ 1000
theorem board_ok {c0 c1 c2 c3 c4 c5 c6 c7 : Nat} (h0 : br c0) (h1 : br c1) (h2 : br c2) (h3 : br c3) (h4 : br c4) (h5 : br c5) (h6 : br c6) (h7 : br c7) (a b c d : Int) : BoardOk [c0, c1, c2, c3, c4, c5, c6, c7] [.int a, .int b, .int c, .int d] := by
  have hg : Good (chunks [c0, c1, c2, c3, c4, c5, c6, c7] a b c d) := chunks_good (fun i hi => lt8 (P := fun i => br ([c0, c1, c2, c3, c4, c5, c6, c7].getD i 0)) hi h0 h1 h2 h3 h4 h5 h6 h7) a b c d
  have hn : (chunks [c0, c1, c2, c3, c4, c5, c6, c7] a b c d).length = 4 := rfl
  have hl := uns_len (chunks [c0, c1, c2, c3, c4, c5, c6, c7] a b c d)
  obtain ⟨s1, s2, s3⟩ := ST_low _ hg
  obtain ⟨t1, t2, t3⟩ := TT_low _ hg
  have ho : OkU (uns (chunks [c0, c1, c2, c3, c4, c5, c6, c7] a b c d)) [c0, c1, c2, c3, c4, c5, c6, c7] := okU_uns _ hg
  have hs : f_strip_quoted_realnames [.str (TT _)] = some (.str (ST _)) := strip_ok hg (by omega) false
  have hs' : f_strip_quoted_realnames [.str (40 :: TT _)] = some (.str (40 :: ST _)) := strip_ok hg (by omega) true
  have hu := tell_units (chunks [c0, c1, c2, c3, c4, c5, c6, c7] a b c d) 0 hg
  refine ⟨_, _, _, text_ok c0 c1 c2 c3 c4 c5 c6 c7 a b c d, hs, fit_of s1 s2 (by omega), hu, units_ok c0 c1 c2 c3 c4 c5 c6 c7 a b c d, ho, by omega, check_ok hs (fit_of s1 s2 (by omega)) hu ho (by omega), ?_, by omega⟩
  refine check_ok (Y := 40 :: ST _) (us := [40] :: uns _) hs' (fit_of ?_ s2 (by rw [List.length_cons]; omega)) ?_ (.br (.inl rfl) ho) (by rw [List.length_cons]; omega)
  · unfold lowB at *; rw [List.all_cons, s1]; rfl
  · rw [unit_cons (by decide), tell_units _ _ hg]
    rfl
end Mine

set_option maxHeartbeats 4000000
namespace Mine
local macro_rules | `(tactic| omega) => `(tactic| lia)
open PySem PySem.W PyProof.Rows

theorem small_of {a : Int} (h : a.natAbs < 1152921504606846976) : small a = true := by
  unfold small
  rw [Bool.and_eq_true, decide_eq_true_eq, decide_eq_true_eq]
  constructor <;> omega
theorem pow_le {a : Int} {B : Nat} (h : a.natAbs ≤ B) (hB : 1 ≤ B) : ∀ {c n : Nat}, c ≤ n → (a ^ c).natAbs ≤ B ^ n := by
  intro c n hc
  rw [Int.natAbs_pow]
  exact Nat.le_trans (Nat.pow_le_pow_left h c) (Nat.pow_le_pow_right hB hc)
theorem mul_le {a b : Int} {A B : Nat} (ha : a.natAbs ≤ A) (hb : b.natAbs ≤ B) : (a * b).natAbs ≤ A * B := by
  rw [Int.natAbs_mul]; exact Nat.mul_le_mul ha hb

theorem ev_cons {Φ : Nat → List Dv → Option Dv} {A B : ME} {ρ : List En} {a : Dv} {l : List Dv} (hA : ev Φ A ρ = some a) (hB : ev Φ B ρ = some (.list l)) : ev Φ (.cons A B) ρ = some (.list (a :: l)) := by
  simp only [ev, hA, hB, lst, Option.bind_some, Option.map_some]
/-! the product over the norm -/
noncomputable def normB : XF := xset Φ0 4 (.op (.bin .mul) (.cons (.var 4) (.cons (.op (.bin .pow) (.cons (.op (.bin .sub) (.cons (.op (.bin .add) (.cons (.var 1) (.cons (.var 5) .nil))) (.cons (.const (.int 4)) .nil))) (.cons (.op .idx (.cons (.var 2) (.cons (.var 5) .nil))) .nil))) .nil)))
noncomputable def cD (cs : List Nat) : List Dv := cs.map fun (c : Nat) => .int (c : Int)
noncomputable def prodF (x : Int) : Nat → List Nat → Int
  | _, [] => 1
  | j, c :: cs => (x + (j : Int) - 4) ^ c * prodF x (j + 1) cs
theorem norm_turn {v0 v3 e5 : En} {x v : Int} {cs : List Nat} {j c : Nat} (hx : x.natAbs ≤ 100) (hj : j < 20) (hc : cs[j]? = some c) (hc4 : c ≤ 4) :
    normB [v0, .val (.int x), .val (.tuple (cD cs)), v3, .val (.int v), .val (.int (j : Int))] = some (.next [v0, .val (.int x), .val (.tuple (cD cs)), v3, .val (.int (v * (x + (j : Int) - 4) ^ c)), .val (.int (j : Int))]) := by
  have ha : (x + (j : Int) - 4).natAbs ≤ 120 := by omega
  have hp : ((x + (j : Int) - 4) ^ c).natAbs ≤ 120 ^ 4 := pow_le ha (by omega) hc4
  have e1 : ev Φ0 (.op (.bin .sub) (.cons (.op (.bin .add) (.cons (.var 1) (.cons (.var 5) .nil))) (.cons (.const (.int 4)) .nil))) [v0, .val (.int x), .val (.tuple (cD cs)), v3, .val (.int v), .val (.int (j : Int))] = some (.int (x + (j : Int) - 4)) := rfl
  have hjl : j < cs.length := by
    rcases Nat.lt_or_ge j cs.length with h | h
    · exact h
    · rw [List.getElem?_eq_none h] at hc; cases hc
  have e2 : ev Φ0 (.op .idx (.cons (.var 2) (.cons (.var 5) .nil))) [v0, .val (.int x), .val (.tuple (cD cs)), v3, .val (.int v), .val (.int (j : Int))] = some (.int (c : Int)) := by
    refine (ev_op2 (a := .tuple (cD cs)) (b := .int (j : Int)) rfl rfl).trans ?_
    show (if fits (j : Int) then (seqIndex? (j : Int) (cD cs).length).bind fun i => (cD cs)[i]? else none) = _
    have hf : fits (j : Int) = true := by unfold fits; rw [Bool.and_eq_true, decide_eq_true_eq, decide_eq_true_eq]; constructor <;> omega
    have hs : seqIndex? (j : Int) (cD cs).length = some j := by
      unfold seqIndex?
      have hl : (cD cs).length = cs.length := by unfold cD; rw [List.length_map]
      rw [hl]
      simp only [show ¬ ((j : Int) < 0) from by omega, if_false]
      rw [if_pos (by simp; omega), Int.toNat_natCast]
    rw [if_pos hf, hs]
    show (cD cs)[j]? = _
    unfold cD
    rw [List.getElem?_map, hc]
    rfl
  have e3 : ev Φ0 (.op (.bin .pow) (.cons (.op (.bin .sub) (.cons (.op (.bin .add) (.cons (.var 1) (.cons (.var 5) .nil))) (.cons (.const (.int 4)) .nil))) (.cons (.op .idx (.cons (.var 2) (.cons (.var 5) .nil))) .nil))) [v0, .val (.int x), .val (.tuple (cD cs)), v3, .val (.int v), .val (.int (j : Int))] = some (.int ((x + (j : Int) - 4) ^ c)) := by
    refine (ev_op2 e1 e2).trans ?_
    show (if small (x + (j : Int) - 4) && decide (0 ≤ (c : Int)) && decide ((c : Int) ≤ 1000) then some (Dv.int ((x + (j : Int) - 4) ^ (c : Int).toNat)) else none) = _
    rw [small_of (by omega), decide_eq_true (by omega), decide_eq_true (by omega), Int.toNat_natCast]
    rfl
  refine xset_to ((ev_op2 (a := .int v) rfl e3).trans ?_)
  show (if small ((x + (j : Int) - 4) ^ c) then some (Dv.int (v * (x + (j : Int) - 4) ^ c)) else none) = _
  rw [small_of (by omega)]
  rfl
theorem norm_go {v0 v3 : En} {x : Int} {cs : List Nat} (hx : x.natAbs ≤ 100) (hl : cs.length ≤ 20) (h4 : ∀ c ∈ cs, c ≤ 4) : ∀ (m j : Nat) (v : Int) (e5 : En), j + m = cs.length →
    ∃ e5', xloop 0 [5] normB ((List.range m).map fun (k : Nat) => .int ((j : Int) + (k : Int))) [v0, .val (.int x), .val (.tuple (cD cs)), v3, .val (.int v), e5] = some (.next [v0, .val (.int x), .val (.tuple (cD cs)), v3, .val (.int (v * prodF x j (cs.drop j))), e5'])
  | 0, j, v, e5, hm => ⟨e5, by rw [List.drop_of_length_le (by omega)]; simp [prodF, xloop]⟩
  | m + 1, j, v, e5, hm => by
    have hj : j < cs.length := by omega
    have hc : cs[j]? = some cs[j] := List.getElem?_eq_getElem hj
    obtain ⟨e5', h⟩ := norm_go hx hl h4 m (j + 1) (v * (x + (j : Int) - 4) ^ cs[j]) (.val (.int (j : Int))) (by omega)
    refine ⟨e5', ?_⟩
    rw [List.range_succ_eq_map, List.map_cons, List.map_map]
    have e0 : ((j : Int) + ((0 : Nat) : Int)) = (j : Int) := by omega
    rw [e0]
    have ht := norm_turn (v0 := v0) (v3 := v3) (e5 := .no) (v := v) (cs := cs) hx (by omega) hc (h4 _ (List.getElem_mem hj))
    have h1 : ∀ ds, xloop 0 [5] normB (.int (j : Int) :: ds) [v0, .val (.int x), .val (.tuple (cD cs)), v3, .val (.int v), e5] = xloop 0 [5] normB ds [v0, .val (.int x), .val (.tuple (cD cs)), v3, .val (.int (v * (x + (j : Int) - 4) ^ cs[j])), .val (.int (j : Int))] := fun ds => xloop_to (bs := [.int (j : Int)]) rfl ht
    refine (h1 _).trans ?_
    have ef : ((fun (k : Nat) => Dv.int ((j : Int) + (k : Int))) ∘ Nat.succ) = fun (k : Nat) => Dv.int (((j + 1 : Nat) : Int) + (k : Int)) := by
      funext k
      exact congrArg Dv.int (show (j : Int) + ((k + 1 : Nat) : Int) = ((j + 1 : Nat) : Int) + (k : Int) from by omega)
    rw [ef, h]
    rw [List.drop_eq_getElem_cons hj, prodF]
    rw [Int.mul_assoc]
theorem norm_ok {fs : List (Nat × Dv)} {x : Int} {cs : List Nat} (hx : x.natAbs ≤ 100) (hl : cs.length ≤ 20) (h1 : 1 ≤ cs.length) (h4 : ∀ c ∈ cs, c ≤ 4) (hf : fs.lookup 3 = some (.tuple [.tuple (cD cs), .int 0])) (h0 : cs.head? = some 1) (hlast : cs.getLast? ≠ some 0) :
    f_law_by_norm [.obj 145 fs, .int x] = some (.list [.tuple [.int 1], .bool true, .int 0, .int (prodF x 1 (cs.drop 1))]) := by
  refine body_is rfl ?_
  show x_law_by_norm 145 Φ0 [.val (.obj 145 fs), .val (.int x), .no, .no, .no, .no] = _
  unfold x_law_by_norm
  have hcl : (cD cs).length = cs.length := by unfold cD; rw [List.length_map]
  have ha : ev Φ0 (.op (.attr 145 3) (.cons (.var 0) .nil)) [.val (.obj 145 fs), .val (.int x), .no, .no, .no, .no] = some (.tuple [.tuple (cD cs), .int 0]) := (ev_op1 (a := .obj 145 fs) rfl).trans hf
  refine (xseq_to (ρ1 := [.val (.obj 145 fs), .val (.int x), .val (.tuple (cD cs)), .val (.int 0), .no, .no]) (by unfold xunp; rw [ha]; rfl)).trans ?_
  refine (xseq_to (xset_to rfl)).trans ?_
  have hlen : ev Φ0 (.op (.fn .len) (.cons (.var 2) (.nil))) [.val (.obj 145 fs), .val (.int x), .val (.tuple (cD cs)), .val (.int 0), .val (.int 1), .no] = some (.int (cs.length : Int)) := by
    refine (ev_op1 (a := .tuple (cD cs)) rfl).trans ?_
    show (if (cD cs).length ≤ 100000 then some (Dv.int ((cD cs).length : Int)) else none) = _
    rw [if_pos (by omega), hcl]
  have hr : ev Φ0 (.rng (.const (.int 1)) (.op (.fn .len) (.cons (.var 2) (.nil)))) [.val (.obj 145 fs), .val (.int x), .val (.tuple (cD cs)), .val (.int 0), .val (.int 1), .no] = some (.list ((List.range (cs.length - 1)).map fun (k : Nat) => .int (((1 : Nat) : Int) + (k : Int)))) := by
    simp only [ev] at hlen ⊢
    rw [hlen]
    dsimp only
    have f1 : fits 1 = true := by decide
    have f2 : fits (cs.length : Int) = true := by unfold fits; rw [Bool.and_eq_true, decide_eq_true_eq, decide_eq_true_eq]; constructor <;> omega
    rw [f1, f2, decide_eq_true (by omega)]
    have : ((cs.length : Int) - 1).toNat = cs.length - 1 := by omega
    rw [this]
    rfl
  obtain ⟨e5', hgo⟩ := norm_go (v0 := .val (.obj 145 fs)) (v3 := .val (.int 0)) hx hl h4 (cs.length - 1) 1 1 .no (by omega)
  refine (xseq_to ((xfor_to hr (by simp; omega)).trans hgo)).trans ?_
  rw [Int.one_mul]
  have s1 : ev Φ0 (.op .sl (.cons (.var 2) (.cons (.const .none) (.cons (.const (.int 1)) (.cons (.const .none) .nil))))) [.val (.obj 145 fs), .val (.int x), .val (.tuple (cD cs)), .val (.int 0), .val (.int (prodF x 1 (cs.drop 1))), e5'] = some (.tuple [.int 1]) := by
    show slApp (.tuple (cD cs)) .none (.int 1) .none = _
    unfold slApp
    simp only [partOf, Option.bind_some, if_neg (show ¬ ((none : Option Int) = some 0) from by simp)]
    rw [if_pos ⟨by omega, trivial⟩]
    have := pick_b (cD cs) 1 (by omega)
    rw [show ((1 : Nat) : Int) = 1 from rfl] at this
    rw [this]
    match cs, h0 with
    | 1 :: r, _ => rfl
  have s2 : ev Φ0 (.op (.cmp .ne) (.cons (.op .sl (.cons (.var 2) (.cons (.op .neg (.cons (.const (.int 1)) .nil)) (.cons (.const .none) (.cons (.const .none) .nil))))) (.cons (.op .tup (.cons (.const (.int 0)) (.nil))) .nil))) [.val (.obj 145 fs), .val (.int x), .val (.tuple (cD cs)), .val (.int 0), .val (.int (prodF x 1 (cs.drop 1))), e5'] = some (.bool true) := by
    have s3 : ev Φ0 (.op .sl (.cons (.var 2) (.cons (.op .neg (.cons (.const (.int 1)) .nil)) (.cons (.const .none) (.cons (.const .none) .nil))))) [.val (.obj 145 fs), .val (.int x), .val (.tuple (cD cs)), .val (.int 0), .val (.int (prodF x 1 (cs.drop 1))), e5'] = some (.tuple ((cD cs).drop (cs.length - 1))) := by
      show slApp (.tuple (cD cs)) (.int (-1)) .none .none = _
      unfold slApp
      simp only [partOf, Option.bind_some, if_neg (show ¬ ((none : Option Int) = some 0) from by simp)]
      rw [if_pos ⟨by omega, trivial⟩]
      have eb : sliceBounds (some (-1)) none none (cD cs).length = sliceBounds (some ((cs.length - 1 : Nat) : Int)) none none (cD cs).length := by
        unfold sliceBounds
        rw [hcl]
        simp
        omega
      have := pick_a (cD cs) (cs.length - 1) (by omega)
      unfold lpick at this ⊢
      rw [eb, this]
    refine (ev_op2 s3 (b := .tuple [.int 0]) rfl).trans ?_
    have hsplit : ∃ l z, cs = l ++ [z] ∧ z ≠ 0 := by
      rcases List.eq_nil_or_concat cs with h | ⟨l, z, h⟩
      · subst h; simp at h1
      · refine ⟨l, z, by simpa using h, fun hz => hlast ?_⟩
        subst hz; rw [h]; simp
    obtain ⟨l, z, rfl, hz⟩ := hsplit
    have e : (cD (l ++ [z])).drop ((l ++ [z]).length - 1) = [.int (z : Int)] := by
      unfold cD
      rw [List.map_append, List.length_append, List.length_singleton, Nat.add_sub_cancel]
      have : l.length = (l.map fun (c : Nat) => Dv.int (c : Int)).length := by rw [List.length_map]
      rw [this, List.drop_left]
      rfl
    rw [e]
    show (some (!(((z : Int) == 0) && true))).map Dv.bool = _
    have : ((z : Int) == 0) = false := by rw [beq_eq_false_iff_ne]; omega
    rw [this]
    rfl
  have he := ev_cons s1 (ev_cons s2 (ev_cons (A := .var 3) (a := .int 0) rfl (ev_cons (A := .var 4) (B := .nil) (a := .int (prodF x 1 (cs.drop 1))) (l := []) rfl rfl)))
  show (ev Φ0 _ _).map Out.ret = _
  rw [he]
  rfl
end Mine

set_option maxHeartbeats 4000000
namespace Mine
local macro_rules | `(tactic| omega) => `(tactic| lia)
open PySem PySem.W PyProof.Rows

noncomputable def waysB : XF := xseq (xset Φ0 2 (.op (.bin .add) (.cons (.var 2) (.cons (.op (.bin .mul) (.cons (.op .idx (.cons (.var 0) (.cons (.op (.bin .sub) (.cons (.const (.int 4)) (.cons (.var 4) .nil))) .nil))) (.cons (.var 3) .nil))) .nil)))) (xset Φ0 3 (.op (.bin .mul) (.cons (.var 3) (.cons (.op (.bin .sub) (.cons (.var 1) (.cons (.var 4) .nil))) .nil))))
noncomputable def waysF (x r0 r1 r2 r3 r4 : Int) : Int := 0 + r4 * 1 + r3 * (1 * (x - 0)) + r2 * (1 * (x - 0) * (x - 1)) + r1 * (1 * (x - 0) * (x - 1) * (x - 2)) + r0 * (1 * (x - 0) * (x - 1) * (x - 2) * (x - 3))
theorem ways_turn {v0 : En} {x v f k r : Int} (hr : ∀ v2 v3, ev Φ0 (.op .idx (.cons (.var 0) (.cons (.op (.bin .sub) (.cons (.const (.int 4)) (.cons (.var 4) .nil))) .nil))) [v0, .val (.int x), v2, v3, .val (.int k)] = some (.int r)) (hf : small f = true) (hk : small (x - k) = true) :
    waysB [v0, .val (.int x), .val (.int v), .val (.int f), .val (.int k)] = some (.next [v0, .val (.int x), .val (.int (v + r * f)), .val (.int (f * (x - k))), .val (.int k)]) := by
  have m1 : ev Φ0 (.op (.bin .mul) (.cons (.op .idx (.cons (.var 0) (.cons (.op (.bin .sub) (.cons (.const (.int 4)) (.cons (.var 4) .nil))) .nil))) (.cons (.var 3) .nil))) [v0, .val (.int x), .val (.int v), .val (.int f), .val (.int k)] = some (.int (r * f)) := by
    refine (ev_op2 (hr _ _) (b := .int f) rfl).trans ?_
    show (if small f then some (Dv.int (r * f)) else none) = _
    rw [hf]; rfl
  unfold waysB
  refine (xseq_to (xset_to ((ev_op2 (a := .int v) rfl m1).trans (show _ = some (Dv.int (v + r * f)) from rfl)))).trans ?_
  refine xset_to ((ev_op2 (a := .int f) (b := .int (x - k)) rfl rfl).trans ?_)
  show (if small (x - k) then some (Dv.int (f * (x - k))) else none) = _
  rw [hk]; rfl
theorem ways_ok {x r0 r1 r2 r3 r4 : Int} (hx : x.natAbs ≤ 100) : f_law_by_ways [.list [.int r0, .int r1, .int r2, .int r3, .int r4], .int x] = some (.int (waysF x r0 r1 r2 r3 r4)) := by
  refine body_is rfl ?_
  show x_law_by_ways Φ0 [.val (.list [.int r0, .int r1, .int r2, .int r3, .int r4]), .val (.int x), .no, .no, .no] = _
  unfold x_law_by_ways
  refine (xseq_to (ρ1 := [.val (.list [.int r0, .int r1, .int r2, .int r3, .int r4]), .val (.int x), .val (.int 0), .val (.int 1), .no]) rfl).trans ?_
  have b0 : (x - 0).natAbs ≤ 110 := by omega
  have b1 : (x - 1).natAbs ≤ 110 := by omega
  have b2 : (x - 2).natAbs ≤ 110 := by omega
  have b3 : (x - 3).natAbs ≤ 110 := by omega
  have b4 : (x - 4).natAbs ≤ 110 := by omega
  have c1 : (1 * (x - 0)).natAbs ≤ 110 := by omega
  have c2 : (1 * (x - 0) * (x - 1)).natAbs ≤ 110 * 110 := mul_le c1 b1
  have c3 : (1 * (x - 0) * (x - 1) * (x - 2)).natAbs ≤ 110 * 110 * 110 := mul_le c2 b2
  have c4 : (1 * (x - 0) * (x - 1) * (x - 2) * (x - 3)).natAbs ≤ 110 * 110 * 110 * 110 := mul_le c3 b3
  have t0 := ways_turn (v0 := .val (.list [.int r0, .int r1, .int r2, .int r3, .int r4])) (x := x) (v := 0) (f := 1) (k := 0) (r := r4) (fun _ _ => rfl) rfl (small_of (by omega))
  have t1 := ways_turn (v0 := .val (.list [.int r0, .int r1, .int r2, .int r3, .int r4])) (x := x) (v := 0 + r4 * 1) (f := 1 * (x - 0)) (k := 1) (r := r3) (fun _ _ => rfl) (small_of (by omega)) (small_of (by omega))
  have t2 := ways_turn (v0 := .val (.list [.int r0, .int r1, .int r2, .int r3, .int r4])) (x := x) (v := 0 + r4 * 1 + r3 * (1 * (x - 0))) (f := 1 * (x - 0) * (x - 1)) (k := 2) (r := r2) (fun _ _ => rfl) (small_of (by omega)) (small_of (by omega))
  have t3 := ways_turn (v0 := .val (.list [.int r0, .int r1, .int r2, .int r3, .int r4])) (x := x) (v := 0 + r4 * 1 + r3 * (1 * (x - 0)) + r2 * (1 * (x - 0) * (x - 1))) (f := 1 * (x - 0) * (x - 1) * (x - 2)) (k := 3) (r := r1) (fun _ _ => rfl) (small_of (by omega)) (small_of (by omega))
  have t4 := ways_turn (v0 := .val (.list [.int r0, .int r1, .int r2, .int r3, .int r4])) (x := x) (v := 0 + r4 * 1 + r3 * (1 * (x - 0)) + r2 * (1 * (x - 0) * (x - 1)) + r1 * (1 * (x - 0) * (x - 1) * (x - 2))) (f := 1 * (x - 0) * (x - 1) * (x - 2) * (x - 3)) (k := 4) (r := r0) (fun _ _ => rfl) (small_of (by omega)) (small_of (by omega))
  have u : ∀ (k : Int) (ds : List Dv) (v0 v1 v2 v3 v4 v0' v1' v2' v3' v4' : En), waysB [v0, v1, v2, v3, .val (.int k)] = some (.next [v0', v1', v2', v3', v4']) → xloop 0 [4] waysB (.int k :: ds) [v0, v1, v2, v3, v4] = xloop 0 [4] waysB ds [v0', v1', v2', v3', v4'] := fun k ds _ _ _ _ _ _ _ _ _ _ h => xloop_to (bs := [.int k]) rfl h
  refine (xseq_to ((xfor_to (ds := [.int 0, .int 1, .int 2, .int 3, .int 4]) rfl (by simp)).trans ((u _ _ _ _ _ _ _ _ _ _ _ _ t0).trans ((u _ _ _ _ _ _ _ _ _ _ _ _ t1).trans ((u _ _ _ _ _ _ _ _ _ _ _ _ t2).trans ((u _ _ _ _ _ _ _ _ _ _ _ _ t3).trans ((u _ _ _ _ _ _ _ _ _ _ _ _ t4).trans rfl))))))).trans ?_
  rfl

/-- a board's rook numbers, and what its lead counts -/
noncomputable def classes : List (List Int × List Nat) := [([1, 16, 72, 96, 24], [1, 0, 0, 0, 0, 1, 1, 1, 1]), ([1, 15, 63, 78, 18], [1, 0, 0, 0, 0, 1, 1, 2]), ([1, 14, 54, 60, 12], [1, 0, 0, 0, 0, 1, 2, 1]), ([1, 13, 45, 42, 6], [1, 0, 0, 0, 0, 2, 1, 1]),
  ([1, 12, 36, 24, 0], [1, 0, 0, 0, 1, 1, 1, 1]), ([1, 13, 46, 46, 8], [1, 0, 0, 0, 0, 1, 3]), ([1, 12, 38, 32, 4], [1, 0, 0, 0, 0, 2, 2]), ([1, 11, 30, 18, 0], [1, 0, 0, 0, 1, 1, 2]), ([1, 11, 31, 22, 2], [1, 0, 0, 0, 0, 3, 1]), ([1, 10, 24, 12, 0], [1, 0, 0, 0, 1, 2, 1]),
  ([1, 9, 18, 6, 0], [1, 0, 0, 0, 2, 1, 1]), ([1, 8, 12, 0, 0], [1, 0, 0, 1, 1, 1, 1]), ([1, 10, 25, 15, 1], [1, 0, 0, 0, 0, 4]), ([1, 9, 19, 8, 0], [1, 0, 0, 0, 1, 3]), ([1, 8, 14, 4, 0], [1, 0, 0, 0, 2, 2]), ([1, 7, 9, 0, 0], [1, 0, 0, 1, 1, 2]), ([1, 7, 10, 2, 0], [1, 0, 0, 0, 3, 1]),
  ([1, 6, 6, 0, 0], [1, 0, 0, 1, 2, 1]), ([1, 5, 3, 0, 0], [1, 0, 0, 2, 1, 1]), ([1, 4, 0, 0, 0], [1, 0, 1, 1, 1, 1]), ([1, 6, 7, 1, 0], [1, 0, 0, 0, 4]), ([1, 5, 4, 0, 0], [1, 0, 0, 1, 3]), ([1, 4, 2, 0, 0], [1, 0, 0, 2, 2]), ([1, 3, 0, 0, 0], [1, 0, 1, 1, 2]), ([1, 3, 1, 0, 0], [1, 0, 0, 3, 1]),
  ([1, 2, 0, 0, 0], [1, 0, 1, 2, 1]), ([1, 1, 0, 0, 0], [1, 0, 2, 1, 1]), ([1, 0, 0, 0, 0], [1, 1, 1, 1, 1])]
noncomputable def waysL (x : Int) : List Int → Int
  | [r0, r1, r2, r3, r4] => waysF x r0 r1 r2 r3 r4
  | _ => 0
theorem rook_theorem : (classes.all fun p => (List.range 201).all fun k => prodF ((k : Int) - 100) 1 (p.2.drop 1) == waysL ((k : Int) - 100) p.1) = true := by decide +kernel
theorem classes_shape : (classes.all fun p => p.1.length == 5 && (p.2.all fun c => decide (c ≤ 4)) && (p.2.head? == some 1) && (p.2.getLast? != some 0) && decide (p.2.length ≤ 20)) = true := by decide +kernel
theorem classes_apart : (classes.all fun p => classes.all fun q => (p.1 == q.1) == (p.2 == q.2)) = true := by decide +kernel
end Mine

set_option maxHeartbeats 4000000
namespace Mine
open PySem PySem.W PyProof.Rows

/-! what the class makes of runs of spaces and tabs -/
noncomputable def bump (cs : List Nat) (b : Nat) : List Nat := (cs ++ List.replicate (b + 1 - cs.length) 0).set b ((cs ++ List.replicate (b + 1 - cs.length) 0).getD b 0 + 1)
noncomputable def wst (X : List Nat) (cs : List Nat) (b n nt : Int) (e7 : En) : List En := [.val (.str X), .val (.str [32]), .val (.str [9]), .own (cD cs), .val (.int b), .val (.int n), .val (.int nt), e7]
noncomputable abbrev wgo : List Dv → XF := xloop 0 [7] (xib Φ0)
theorem ws_space {X cs : List Nat} {b n nt : Int} {e7 : En} {ds : List Dv} : wgo (.str [32] :: ds) (wst X cs b n nt e7) = wgo ds (wst X cs (b + 1) (n + 1) nt (.val (.str [32]))) := xloop_to (bs := [.str [32]]) rfl rfl
theorem ws_spaces {X cs : List Nat} {nt : Int} {ds : List Dv} : ∀ (m : Nat) (b n : Int) (e7 : En), ∃ (n' : Int) (e7' : En), wgo (List.replicate m (.str [32]) ++ ds) (wst X cs b n nt e7) = wgo ds (wst X cs (b + (m : Int)) n' nt e7')
  | 0, b, n, e7 => ⟨n, e7, by simp⟩
  | m + 1, b, n, e7 => by
    obtain ⟨n', e7', h⟩ := ws_spaces (X := X) (cs := cs) (nt := nt) (ds := ds) m (b + 1) (n + 1) (.val (.str [32]))
    refine ⟨n', e7', ?_⟩
    rw [List.replicate_succ, List.cons_append, ws_space, h]
    congr 2
    omega
noncomputable def growM : ME := .op (.bin .mul) (.cons (.cons (.const (.int 0)) (.nil)) (.cons (.op (.bin .add) (.cons (.op (.bin .sub) (.cons (.var 4) (.cons (.olen 3) .nil))) (.cons (.const (.int 1)) .nil))) .nil))
noncomputable def geM : ME := .op (.cmp .ge) (.cons (.var 4) (.cons (.olen 3) .nil))
noncomputable def incM : ME := .op (.bin .add) (.cons (.oidx 3 (.var 4)) (.cons (.const (.int 1)) .nil))
theorem cD_len (cs : List Nat) : (cD cs).length = cs.length := by unfold cD; rw [List.length_map]
theorem ws_olen {X cs : List Nat} {b n nt : Int} {e7 : En} (hl : cs.length ≤ 1000) : ev Φ0 (.olen 3) (wst X cs b n nt e7) = some (.int (cs.length : Int)) := by
  unfold wst
  simp only [ev, List.getElem?_cons_succ, List.getElem?_cons_zero]
  rw [if_pos (by rw [cD_len]; omega), cD_len]
theorem ws_grow {X cs : List Nat} {b : Nat} {n nt : Int} {e7 : En} (hb : b ≤ 50) (hl : cs.length ≤ 100) : xif Φ0 geM (xgrow Φ0 3 growM) xnil (wst X cs (b : Int) n nt e7) = some (.next (wst X (cs ++ List.replicate (b + 1 - cs.length) 0) (b : Int) n nt e7)) := by
  have hol := ws_olen (X := X) (cs := cs) (b := (b : Int)) (n := n) (nt := nt) (e7 := e7) (by omega)
  have hge : ev Φ0 geM (wst X cs (b : Int) n nt e7) = some (.bool (decide ((b : Int) ≥ (cs.length : Int)))) := (ev_op2 (a := .int (b : Int)) rfl hol).trans rfl
  unfold xif
  by_cases h : cs.length ≤ b
  · rw [hge, decide_eq_true (by omega)]
    dsimp only
    have hm : ev Φ0 growM (wst X cs (b : Int) n nt e7) = some (.list (cD (List.replicate (b + 1 - cs.length) 0))) := by
      have h1 : ev Φ0 (.op (.bin .sub) (.cons (.var 4) (.cons (.olen 3) .nil))) (wst X cs (b : Int) n nt e7) = some (.int ((b : Int) - (cs.length : Int))) := (ev_op2 (a := .int (b : Int)) rfl hol).trans rfl
      have h2 : ev Φ0 (.op (.bin .add) (.cons (.op (.bin .sub) (.cons (.var 4) (.cons (.olen 3) .nil))) (.cons (.const (.int 1)) .nil))) (wst X cs (b : Int) n nt e7) = some (.int ((b : Int) - (cs.length : Int) + 1)) := (ev_op2 h1 (b := .int 1) rfl).trans rfl
      refine (ev_op2 (a := .list [.int 0]) rfl h2).trans ?_
      simp only [op_bin, b_add_int, b_add_str, b_add_list, b_mul_int, b_mul_str, b_mul_list]
      rw [if_pos (by simp; omega)]
      have e : ((b : Int) - (cs.length : Int) + 1).toNat = b + 1 - cs.length := by omega
      unfold repL cD
      rw [e, List.map_replicate]
      simp
    have hl2 : (cD (List.replicate (b + 1 - cs.length) 0)).length = b + 1 - cs.length := by rw [cD_len, List.length_replicate]
    have hl3 := cD_len cs
    unfold xgrow
    rw [hm]
    unfold wst
    simp only [List.getElem?_cons_succ, List.getElem?_cons_zero]
    rw [if_pos (by omega)]
    simp only [List.set_cons_succ, List.set_cons_zero]
    unfold cD
    rw [List.map_append]
  · rw [hge, decide_eq_false (by omega), show b + 1 - cs.length = 0 from by omega]
    simp [xnil]
theorem xsub_to {Φ : Nat → List Dv → Option Dv} {i : Nat} {mi me : ME} {ρ : List En} {ds : List Dv} {d : Dv} {j : Int} (h1 : ρ[i]? = some (.own ds)) (h2 : ev Φ me ρ = some d) (h3 : ev Φ mi ρ = some (.int j)) (h : 0 ≤ j ∧ j < ds.length ∧ ds.length ≤ 100000) : xsub Φ i mi me ρ = some (.next (ρ.set i (.own (ds.set j.toNat d)))) := by
  unfold xsub
  rw [h1, h2, h3]
  exact if_pos h
theorem ws_own {X cs : List Nat} {b : Nat} {n nt : Int} {e7 : En} (hb : b < cs.length) (hl : cs.length ≤ 200) : ev Φ0 (.oidx 3 (.var 4)) (wst X cs (b : Int) n nt e7) = some (.int ((cs.getD b 0 : Nat) : Int)) := by
  have hf : fits (b : Int) = true := by unfold fits; rw [Bool.and_eq_true, decide_eq_true_eq, decide_eq_true_eq]; constructor <;> omega
  show idxApp (.list (cD cs)) (.int (b : Int)) = _
  unfold idxApp
  dsimp only
  rw [if_pos (by rw [hf, decide_eq_true (show (0 : Int) ≤ (b : Int) by omega)]; rfl), Int.toNat_natCast]
  unfold cD
  rw [List.getElem?_map, List.getElem?_eq_getElem hb, List.getD_eq_getElem?_getD, List.getElem?_eq_getElem hb]
  rfl
theorem ws_incM {X cs : List Nat} {b : Nat} {n nt : Int} {e7 : En} (hb : b < cs.length) (hl : cs.length ≤ 200) : ev Φ0 incM (wst X cs (b : Int) n nt e7) = some (.int ((cs.getD b 0 + 1 : Nat) : Int)) := by
  refine (ev_op2 (ws_own hb hl) (b := .int 1) rfl).trans ?_
  show some (Dv.int (((cs.getD b 0 : Nat) : Int) + 1)) = _
  rw [show ((cs.getD b 0 + 1 : Nat) : Int) = ((cs.getD b 0 : Nat) : Int) + 1 from by omega]
theorem cD_set (cs : List Nat) (b c : Nat) : (cD cs).set b (.int (c : Int)) = cD (cs.set b c) := by unfold cD; rw [List.map_set]
theorem wst_set (X cs cs' : List Nat) (b n nt : Int) (e7 : En) : (wst X cs b n nt e7).set 3 (.own (cD cs')) = wst X cs' b n nt e7 := rfl
theorem ws_inc {X cs : List Nat} {b : Nat} {n nt : Int} {e7 : En} (hb : b < cs.length) (hl : cs.length ≤ 200) : xsub Φ0 3 (.var 4) incM (wst X cs (b : Int) n nt e7) = some (.next (wst X (cs.set b (cs.getD b 0 + 1)) (b : Int) n nt e7)) := by
  have hcl := cD_len cs
  have h3 : (wst X cs (b : Int) n nt e7)[3]? = some (.own (cD cs)) := rfl
  have h4 : ev Φ0 (.var 4) (wst X cs (b : Int) n nt e7) = some (.int (b : Int)) := rfl
  have h := xsub_to (mi := .var 4) (j := (b : Int)) h3 (ws_incM hb hl) h4 ⟨by omega, by omega, by omega⟩
  rw [Int.toNat_natCast, cD_set, wst_set] at h
  exact h
theorem ws_tab {X cs : List Nat} {b : Nat} {n nt : Int} {e7 : En} {ds : List Dv} (hb : b ≤ 50) (hl : cs.length ≤ 100) : ∃ n', wgo (.str [9] :: ds) (wst X cs (b : Int) n nt e7) = wgo ds (wst X (bump cs b) 0 n' (nt + 1) (.val (.str [9]))) := by
  refine ⟨n + 1, xloop_to (bs := [.str [9]]) rfl ?_⟩
  have e : xib Φ0 (wst X cs (b : Int) n nt (.val (.str [9]))) = (xseq (xset Φ0 5 (.op (.bin .add) (.cons (.var 5) (.cons (.const (.int 1)) .nil)))) (xseq (xset Φ0 6 (.op (.bin .add) (.cons (.var 6) (.cons (.const (.int 1)) .nil)))) (xseq (xif Φ0 geM (xgrow Φ0 3 growM) xnil) (xseq (xsub Φ0 3 (.var 4) incM) (xset Φ0 4 (.const (.int 0))))))) (wst X cs (b : Int) n nt (.val (.str [9]))) := by
    unfold xib xif
    rfl
  refine Eq.trans e ?_
  refine (xseq_to (ρ1 := wst X cs (b : Int) (n + 1) nt (.val (.str [9]))) rfl).trans ?_
  refine (xseq_to (ρ1 := wst X cs (b : Int) (n + 1) (nt + 1) (.val (.str [9]))) rfl).trans ?_
  have hcs1 : (cs ++ List.replicate (b + 1 - cs.length) 0).length ≤ 200 := by simp; omega
  have hb1 : b < (cs ++ List.replicate (b + 1 - cs.length) 0).length := by simp; omega
  refine (xseq_to (ws_grow hb hl)).trans ?_
  exact (xseq_to (ws_inc hb1 hcs1)).trans rfl
theorem bump_len (cs : List Nat) (b : Nat) : (bump cs b).length ≤ max cs.length (b + 1) := by unfold bump; simp; omega
noncomputable def tabsT (ms : List Nat) : List Nat := ms.flatMap fun m => List.replicate m 32 ++ [9]
theorem ws_runs {X : List Nat} {ds : List Dv} : ∀ (ms cs : List Nat) (n nt : Int) (e7 : En), (∀ m ∈ ms, m ≤ 50) → cs.length ≤ 60 →
    ∃ (n' nt' : Int) (e7' : En), wgo ((tabsT ms).map (fun c => .str [c]) ++ ds) (wst X cs 0 n nt e7) = wgo ds (wst X (ms.foldl bump cs) 0 n' nt' e7') ∧ (ms.foldl bump cs).length ≤ 60
  | [], cs, n, nt, e7, _, hl => ⟨n, nt, e7, rfl, hl⟩
  | m :: ms, cs, n, nt, e7, hm, hl => by
    have h0 := hm m (List.mem_cons_self ..)
    have hb := bump_len cs m
    obtain ⟨n1, x1, h1⟩ := ws_spaces (X := X) (cs := cs) (nt := nt) (ds := .str [9] :: ((tabsT ms).map (fun c => Dv.str [c]) ++ ds)) m 0 n e7
    obtain ⟨n2, h2⟩ := ws_tab (X := X) (cs := cs) (b := m) (n := n1) (nt := nt) (e7 := x1) (ds := (tabsT ms).map (fun c => Dv.str [c]) ++ ds) h0 (by omega)
    obtain ⟨n3, t3, x3, h3, hl3⟩ := ws_runs (X := X) (ds := ds) ms (bump cs m) n2 (nt + 1) (.val (.str [9])) (fun k hk => hm k (List.mem_cons_of_mem _ hk)) (by omega)
    refine ⟨n3, t3, x3, ?_, hl3⟩
    have e : (tabsT (m :: ms)).map (fun c => Dv.str [c]) ++ ds = List.replicate m (.str [32]) ++ .str [9] :: ((tabsT ms).map (fun c => Dv.str [c]) ++ ds) := by
      unfold tabsT; simp [List.map_append, List.map_replicate]
    rw [e, h1, Int.zero_add, h2, h3]
    rfl
theorem ws_ok (ms : List Nat) (k : Nat) (hm : ∀ m ∈ ms, m ≤ 50) (hk : k ≤ 50) (hX : (tabsT ms ++ List.replicate k 32 ++ [120, 32, 9]).length ≤ 1000) :
    ∃ fs, f_Whitespace [.str (tabsT ms ++ List.replicate k 32 ++ [120, 32, 9])] = some (.obj 145 fs) ∧ fs.lookup 3 = some (.tuple [.tuple (cD (ms.foldl bump [])), .int (k : Int)]) := by
  generalize hXe : tabsT ms ++ List.replicate k 32 ++ [120, 32, 9] = X at hX
  obtain ⟨n1, t1, x1, h1, hl1⟩ := ws_runs (X := X) (ds := List.replicate k (.str [32]) ++ [.str [120], .str [32], .str [9]]) ms [] 0 0 .no hm (by simp)
  obtain ⟨n2, x2, h2⟩ := ws_spaces (X := X) (cs := ms.foldl bump []) (nt := t1) (ds := [.str [120], .str [32], .str [9]]) k 0 n1 x1
  have hloop : wgo (X.map fun c => .str [c]) (wst X [] 0 0 0 .no) = some (.next (wst X (ms.foldl bump []) (k : Int) n2 t1 (.val (.str [120])))) := by
    have e : X.map (fun c => Dv.str [c]) = (tabsT ms).map (fun c => Dv.str [c]) ++ (List.replicate k (.str [32]) ++ [.str [120], .str [32], .str [9]]) := by
      rw [← hXe]; simp [List.map_append, List.map_replicate]
    rw [e, h1, h2, Int.zero_add]
    rfl
  have hcl : (cD (ms.foldl bump [])).length ≤ 60 := by unfold cD; rw [List.length_map]; exact hl1
  have hfl : flats (free 3 (wst X (ms.foldl bump []) (k : Int) n2 t1 (.val (.str [120])))) = true := by
    show (true && (true && (true && ((cD (ms.foldl bump [])).all flat && (true && (true && (true && (true && true)))))))) = true
    have : (cD (ms.foldl bump [])).all flat = true := by unfold cD; simp [List.all_map, flat]
    rw [this]; rfl
  have ht : ev Φ0 mnorm (free 3 (wst X (ms.foldl bump []) (k : Int) n2 t1 (.val (.str [120])))) = some (.tuple [.tuple (cD (ms.foldl bump [])), .int (k : Int)]) := by
    have h1 : ev Φ0 (.op (.fn .tuple) (.cons (.var 3) .nil)) (free 3 (wst X (ms.foldl bump []) (k : Int) n2 t1 (.val (.str [120])))) = some (.tuple (cD (ms.foldl bump []))) := by
      refine (ev_op1 (a := .list (cD (ms.foldl bump []))) rfl).trans ?_
      show (if (cD (ms.foldl bump [])).length ≤ 100000 then _ else none) = _
      rw [if_pos (by omega)]
    exact (ev_op2 h1 (b := .int (k : Int)) rfl).trans rfl
  have hs : ∃ d, ev Φ0 msimple (free 3 (wst X (ms.foldl bump []) (k : Int) n2 t1 (.val (.str [120])))) = some d := by
    have h1 : ev Φ0 (.op (.fn .len) (.cons (.var 3) .nil)) (free 3 (wst X (ms.foldl bump []) (k : Int) n2 t1 (.val (.str [120])))) = some (.int ((cD (ms.foldl bump [])).length : Int)) := by
      refine (ev_op1 (a := .list (cD (ms.foldl bump []))) rfl).trans ?_
      show (if (cD (ms.foldl bump [])).length ≤ 100000 then _ else none) = _
      rw [if_pos (by omega)]
    exact ⟨_, (ev_op2 h1 (b := .int 1) rfl).trans rfl⟩
  obtain ⟨d, hs⟩ := hs
  refine ⟨[(4, d), (3, .tuple [.tuple (cD (ms.foldl bump [])), .int (k : Int)]), (2, .int t1), (1, .int n2), (0, .str X)], ?_, rfl⟩
  unfold f_Whitespace xmake
  dsimp only
  rw [if_pos (by omega)]
  have h0 : xseq (xi2 Φ0) (xseq (xi3 Φ0) (xi4 Φ0)) (En.val (Dv.str X) :: List.replicate 7 En.no) = some (.next (wst X [] 0 0 0 .no)) := rfl
  rw [h0]
  dsimp only
  have hloop' : xloop 0 [7] (xib Φ0) (X.map fun c => .str [c]) (wst X [] 0 0 0 .no) = some (.next (wst X (ms.foldl bump []) (k : Int) n2 t1 (.val (.str [120])))) := hloop
  rw [hloop']
  dsimp only
  rw [if_pos hfl, ht, hs]
  rfl
end Mine

set_option maxHeartbeats 4000000
namespace Mine
open PySem PySem.W PyProof.Rows

/-! rook numbers of four lines -/
noncomputable def rookM : ME := .op (.bin .add) (.cons (.op .idx (.cons (.var 1) (.cons (.var 3) .nil))) (.cons (.op (.bin .mul) (.cons (.op .idx (.cons (.var 1) (.cons (.op (.bin .sub) (.cons (.var 3) (.cons (.const (.int 1)) .nil))) .nil))) (.cons (.op (.bin .add) (.cons (.op (.bin .sub) (.cons (.var 2) (.cons (.var 3) .nil))) (.cons (.const (.int 1)) .nil))) .nil))) .nil))
noncomputable def rookB : XF := xset Φ0 1 (.op (.bin .add) (.cons (.cons (.const (.int 1)) (.nil)) (.cons (.comp rookM 0 (.rng (.const (.int 1)) (.const (.int 5))) (.const (.bool true))) .nil)))
noncomputable def rook1 (w : Int) : List Int → List Int
  | [a, b, c, d, e] => [1, b + a * (w - 1 + 1), c + b * (w - 2 + 1), d + c * (w - 3 + 1), e + d * (w - 4 + 1)]
  | l => l
theorem rook_elt {v0 : En} {R : List Dv} {w k p q : Int} (hp : ev Φ0 (.op .idx (.cons (.var 1) (.cons (.var 3) .nil))) [v0, .val (.list R), .val (.int w), .val (.int k)] = some (.int p))
    (hq : ev Φ0 (.op .idx (.cons (.var 1) (.cons (.op (.bin .sub) (.cons (.var 3) (.cons (.const (.int 1)) .nil))) .nil))) [v0, .val (.list R), .val (.int w), .val (.int k)] = some (.int q)) (hs : small (w - k + 1) = true) :
    ev Φ0 rookM [v0, .val (.list R), .val (.int w), .val (.int k)] = some (.int (p + q * (w - k + 1))) := by
  have hm : ev Φ0 (.op (.bin .mul) (.cons (.op .idx (.cons (.var 1) (.cons (.op (.bin .sub) (.cons (.var 3) (.cons (.const (.int 1)) .nil))) .nil))) (.cons (.op (.bin .add) (.cons (.op (.bin .sub) (.cons (.var 2) (.cons (.var 3) .nil))) (.cons (.const (.int 1)) .nil))) .nil))) [v0, .val (.list R), .val (.int w), .val (.int k)] = some (.int (q * (w - k + 1))) := by
    refine (ev_op2 hq (b := .int (w - k + 1)) rfl).trans ?_
    simp only [op_bin, b_add_int, b_add_str, b_add_list, b_mul_int, b_mul_str, b_mul_list]
    rw [if_pos hs]
  exact (ev_op2 hp hm).trans rfl
theorem rook_turn {v0 : En} {a b c d e w : Int} (hw : w.natAbs ≤ 20) : rookB [v0, .val (.list [.int a, .int b, .int c, .int d, .int e]), .val (.int w)] = some (.next [v0, .val (.list ((rook1 w [a, b, c, d, e]).map .int)), .val (.int w)]) := by
  have hc : ev Φ0 (.comp rookM 0 (.rng (.const (.int 1)) (.const (.int 5))) (.const (.bool true))) [v0, .val (.list [.int a, .int b, .int c, .int d, .int e]), .val (.int w)] = some (.list [.int (b + a * (w - 1 + 1)), .int (c + b * (w - 2 + 1)), .int (d + c * (w - 3 + 1)), .int (e + d * (w - 4 + 1))]) := by
    show (lcomp (ev Φ0 (.const (.bool true))) (ev Φ0 rookM) 0 [v0, .val (.list [.int a, .int b, .int c, .int d, .int e]), .val (.int w)] [.int 1, .int 2, .int 3, .int 4]).map Dv.list = _
    rw [lcomp_to rfl (rook_elt (v0 := v0) (k := 1) (p := b) (q := a) rfl rfl (small_of (by omega))) (lcomp_to rfl (rook_elt (v0 := v0) (k := 2) (p := c) (q := b) rfl rfl (small_of (by omega))) (lcomp_to rfl (rook_elt (v0 := v0) (k := 3) (p := d) (q := c) rfl rfl (small_of (by omega))) (lcomp_to rfl (rook_elt (v0 := v0) (k := 4) (p := e) (q := d) rfl rfl (small_of (by omega))) rfl)))]
    rfl
  exact xset_to ((ev_op2 (a := .list [.int 1]) rfl hc).trans rfl)
noncomputable def rookP (s0 s1 s2 s3 : Int) : List Int := rook1 s3 (rook1 s2 (rook1 s1 (rook1 s0 [1, 0, 0, 0, 0])))
theorem rook_step {v0 v2 : En} {ds : List Dv} {w : Int} {r : List Int} (hr : r.length = 5) (hw : w.natAbs ≤ 20) : xloop 0 [2] rookB (.int w :: ds) [v0, .val (.list (r.map .int)), v2] = xloop 0 [2] rookB ds [v0, .val (.list ((rook1 w r).map .int)), .val (.int w)] := by
  obtain ⟨a, b, c, d, e, rfl⟩ := len5 hr
  exact xloop_to (bs := [.int w]) rfl (rook_turn hw)
theorem rook1_len (w : Int) {r : List Int} (hr : r.length = 5) : (rook1 w r).length = 5 := by
  obtain ⟨a, b, c, d, e, rfl⟩ := len5 hr
  rfl
theorem rooks_ok {s0 s1 s2 s3 : Int} (h0 : s0.natAbs ≤ 20) (h1 : s1.natAbs ≤ 20) (h2 : s2.natAbs ≤ 20) (h3 : s3.natAbs ≤ 20) : f_law_rooks [.list [.int s0, .int s1, .int s2, .int s3]] = some (.list ((rookP s0 s1 s2 s3).map .int)) := by
  refine body_is rfl ?_
  show x_law_rooks Φ0 [.val (.list [.int s0, .int s1, .int s2, .int s3]), .no, .no] = _
  unfold x_law_rooks
  refine (xseq_to (ρ1 := [.val (.list [.int s0, .int s1, .int s2, .int s3]), .val (.list (([1, 0, 0, 0, 0] : List Int).map .int)), .no]) rfl).trans ?_
  have l0 : ([1, 0, 0, 0, 0] : List Int).length = 5 := rfl
  have l1 := rook1_len s0 l0
  have l2 := rook1_len s1 l1
  have l3 := rook1_len s2 l2
  refine (xseq_to ((xfor_to rfl (by simp)).trans ((rook_step l0 h0).trans ((rook_step l1 h1).trans ((rook_step l2 h2).trans ((rook_step l3 h3).trans rfl)))))).trans rfl

/-- a board, its stairs, its rook numbers, what its lead counts -/
noncomputable def tabl : List (List Nat × List Nat × List Int × List Nat) := [([40, 40, 40, 40, 41, 41, 41, 41], [4, 4, 4, 4], [1, 16, 72, 96, 24], [1, 0, 0, 0, 0, 1, 1, 1, 1]), ([40, 40, 40, 41, 40, 41, 41, 41], [3, 4, 4, 4], [1, 15, 63, 78, 18], [1, 0, 0, 0, 0, 1, 1, 2]), ([40, 40, 40, 41, 41, 40, 41, 41], [3, 3, 4, 4], [1, 14, 54, 60, 12], [1, 0, 0, 0, 0, 1, 2, 1]), ([40, 40, 40, 41, 41, 41, 40, 41], [3, 3, 3, 4], [1, 13, 45, 42, 6], [1, 0, 0, 0, 0, 2, 1, 1]), ([40, 40, 40, 41, 41, 41, 41, 40], [3, 3, 3, 3], [1, 12, 36, 24, 0], [1, 0, 0, 0, 1, 1, 1, 1]), ([40, 40, 41, 40, 40, 41, 41, 41], [2, 4, 4, 4], [1, 14, 54, 60, 12], [1, 0, 0, 0, 0, 1, 2, 1]), ([40, 40, 41, 40, 41, 40, 41, 41], [2, 3, 4, 4], [1, 13, 46, 46, 8], [1, 0, 0, 0, 0, 1, 3]), ([40, 40, 41, 40, 41, 41, 40, 41], [2, 3, 3, 4], [1, 12, 38, 32, 4], [1, 0, 0, 0, 0, 2, 2]), ([40, 40, 41, 40, 41, 41, 41, 40], [2, 3, 3, 3], [1, 11, 30, 18, 0], [1, 0, 0, 0, 1, 1, 2]), ([40, 40, 41, 41, 40, 40, 41, 41], [2, 2, 4, 4], [1, 12, 38, 32, 4], [1, 0, 0, 0, 0, 2, 2]), ([40, 40, 41, 41, 40, 41, 40, 41], [2, 2, 3, 4], [1, 11, 31, 22, 2], [1, 0, 0, 0, 0, 3, 1]), ([40, 40, 41, 41, 40, 41, 41, 40], [2, 2, 3, 3], [1, 10, 24, 12, 0], [1, 0, 0, 0, 1, 2, 1]), ([40, 40, 41, 41, 41, 40, 40, 41], [2, 2, 2, 4], [1, 10, 24, 12, 0], [1, 0, 0, 0, 1, 2, 1]), ([40, 40, 41, 41, 41, 40, 41, 40], [2, 2, 2, 3], [1, 9, 18, 6, 0], [1, 0, 0, 0, 2, 1, 1]), ([40, 40, 41, 41, 41, 41, 40, 40], [2, 2, 2, 2], [1, 8, 12, 0, 0], [1, 0, 0, 1, 1, 1, 1]), ([40, 41, 40, 40, 40, 41, 41, 41], [1, 4, 4, 4], [1, 13, 45, 42, 6], [1, 0, 0, 0, 0, 2, 1, 1]), ([40, 41, 40, 40, 41, 40, 41, 41], [1, 3, 4, 4], [1, 12, 38, 32, 4], [1, 0, 0, 0, 0, 2, 2]), ([40, 41, 40, 40, 41, 41, 40, 41], [1, 3, 3, 4], [1, 11, 31, 22, 2], [1, 0, 0, 0, 0, 3, 1]), ([40, 41, 40, 40, 41, 41, 41, 40], [1, 3, 3, 3], [1, 10, 24, 12, 0], [1, 0, 0, 0, 1, 2, 1]), ([40, 41, 40, 41, 40, 40, 41, 41], [1, 2, 4, 4], [1, 11, 31, 22, 2], [1, 0, 0, 0, 0, 3, 1]), ([40, 41, 40, 41, 40, 41, 40, 41], [1, 2, 3, 4], [1, 10, 25, 15, 1], [1, 0, 0, 0, 0, 4]), ([40, 41, 40, 41, 40, 41, 41, 40], [1, 2, 3, 3], [1, 9, 19, 8, 0], [1, 0, 0, 0, 1, 3]), ([40, 41, 40, 41, 41, 40, 40, 41], [1, 2, 2, 4], [1, 9, 19, 8, 0], [1, 0, 0, 0, 1, 3]), ([40, 41, 40, 41, 41, 40, 41, 40], [1, 2, 2, 3], [1, 8, 14, 4, 0], [1, 0, 0, 0, 2, 2]), ([40, 41, 40, 41, 41, 41, 40, 40], [1, 2, 2, 2], [1, 7, 9, 0, 0], [1, 0, 0, 1, 1, 2]), ([40, 41, 41, 40, 40, 40, 41, 41], [1, 1, 4, 4], [1, 10, 24, 12, 0], [1, 0, 0, 0, 1, 2, 1]), ([40, 41, 41, 40, 40, 41, 40, 41], [1, 1, 3, 4], [1, 9, 19, 8, 0], [1, 0, 0, 0, 1, 3]), ([40, 41, 41, 40, 40, 41, 41, 40], [1, 1, 3, 3], [1, 8, 14, 4, 0], [1, 0, 0, 0, 2, 2]), ([40, 41, 41, 40, 41, 40, 40, 41], [1, 1, 2, 4], [1, 8, 14, 4, 0], [1, 0, 0, 0, 2, 2]), ([40, 41, 41, 40, 41, 40, 41, 40], [1, 1, 2, 3], [1, 7, 10, 2, 0], [1, 0, 0, 0, 3, 1]), ([40, 41, 41, 40, 41, 41, 40, 40], [1, 1, 2, 2], [1, 6, 6, 0, 0], [1, 0, 0, 1, 2, 1]), ([40, 41, 41, 41, 40, 40, 40, 41], [1, 1, 1, 4], [1, 7, 9, 0, 0], [1, 0, 0, 1, 1, 2]), ([40, 41, 41, 41, 40, 40, 41, 40], [1, 1, 1, 3], [1, 6, 6, 0, 0], [1, 0, 0, 1, 2, 1]), ([40, 41, 41, 41, 40, 41, 40, 40], [1, 1, 1, 2], [1, 5, 3, 0, 0], [1, 0, 0, 2, 1, 1]), ([40, 41, 41, 41, 41, 40, 40, 40], [1, 1, 1, 1], [1, 4, 0, 0, 0], [1, 0, 1, 1, 1, 1]), ([41, 40, 40, 40, 40, 41, 41, 41], [0, 4, 4, 4], [1, 12, 36, 24, 0], [1, 0, 0, 0, 1, 1, 1, 1]), ([41, 40, 40, 40, 41, 40, 41, 41], [0, 3, 4, 4], [1, 11, 30, 18, 0], [1, 0, 0, 0, 1, 1, 2]), ([41, 40, 40, 40, 41, 41, 40, 41], [0, 3, 3, 4], [1, 10, 24, 12, 0], [1, 0, 0, 0, 1, 2, 1]), ([41, 40, 40, 40, 41, 41, 41, 40], [0, 3, 3, 3], [1, 9, 18, 6, 0], [1, 0, 0, 0, 2, 1, 1]), ([41, 40, 40, 41, 40, 40, 41, 41], [0, 2, 4, 4], [1, 10, 24, 12, 0], [1, 0, 0, 0, 1, 2, 1]), ([41, 40, 40, 41, 40, 41, 40, 41], [0, 2, 3, 4], [1, 9, 19, 8, 0], [1, 0, 0, 0, 1, 3]), ([41, 40, 40, 41, 40, 41, 41, 40], [0, 2, 3, 3], [1, 8, 14, 4, 0], [1, 0, 0, 0, 2, 2]), ([41, 40, 40, 41, 41, 40, 40, 41], [0, 2, 2, 4], [1, 8, 14, 4, 0], [1, 0, 0, 0, 2, 2]), ([41, 40, 40, 41, 41, 40, 41, 40], [0, 2, 2, 3], [1, 7, 10, 2, 0], [1, 0, 0, 0, 3, 1]), ([41, 40, 40, 41, 41, 41, 40, 40], [0, 2, 2, 2], [1, 6, 6, 0, 0], [1, 0, 0, 1, 2, 1]), ([41, 40, 41, 40, 40, 40, 41, 41], [0, 1, 4, 4], [1, 9, 18, 6, 0], [1, 0, 0, 0, 2, 1, 1]), ([41, 40, 41, 40, 40, 41, 40, 41], [0, 1, 3, 4], [1, 8, 14, 4, 0], [1, 0, 0, 0, 2, 2]), ([41, 40, 41, 40, 40, 41, 41, 40], [0, 1, 3, 3], [1, 7, 10, 2, 0], [1, 0, 0, 0, 3, 1]), ([41, 40, 41, 40, 41, 40, 40, 41], [0, 1, 2, 4], [1, 7, 10, 2, 0], [1, 0, 0, 0, 3, 1]), ([41, 40, 41, 40, 41, 40, 41, 40], [0, 1, 2, 3], [1, 6, 7, 1, 0], [1, 0, 0, 0, 4]), ([41, 40, 41, 40, 41, 41, 40, 40], [0, 1, 2, 2], [1, 5, 4, 0, 0], [1, 0, 0, 1, 3]), ([41, 40, 41, 41, 40, 40, 40, 41], [0, 1, 1, 4], [1, 6, 6, 0, 0], [1, 0, 0, 1, 2, 1]), ([41, 40, 41, 41, 40, 40, 41, 40], [0, 1, 1, 3], [1, 5, 4, 0, 0], [1, 0, 0, 1, 3]), ([41, 40, 41, 41, 40, 41, 40, 40], [0, 1, 1, 2], [1, 4, 2, 0, 0], [1, 0, 0, 2, 2]), ([41, 40, 41, 41, 41, 40, 40, 40], [0, 1, 1, 1], [1, 3, 0, 0, 0], [1, 0, 1, 1, 2]), ([41, 41, 40, 40, 40, 40, 41, 41], [0, 0, 4, 4], [1, 8, 12, 0, 0], [1, 0, 0, 1, 1, 1, 1]), ([41, 41, 40, 40, 40, 41, 40, 41], [0, 0, 3, 4], [1, 7, 9, 0, 0], [1, 0, 0, 1, 1, 2]), ([41, 41, 40, 40, 40, 41, 41, 40], [0, 0, 3, 3], [1, 6, 6, 0, 0], [1, 0, 0, 1, 2, 1]), ([41, 41, 40, 40, 41, 40, 40, 41], [0, 0, 2, 4], [1, 6, 6, 0, 0], [1, 0, 0, 1, 2, 1]), ([41, 41, 40, 40, 41, 40, 41, 40], [0, 0, 2, 3], [1, 5, 4, 0, 0], [1, 0, 0, 1, 3]), ([41, 41, 40, 40, 41, 41, 40, 40], [0, 0, 2, 2], [1, 4, 2, 0, 0], [1, 0, 0, 2, 2]), ([41, 41, 40, 41, 40, 40, 40, 41], [0, 0, 1, 4], [1, 5, 3, 0, 0], [1, 0, 0, 2, 1, 1]), ([41, 41, 40, 41, 40, 40, 41, 40], [0, 0, 1, 3], [1, 4, 2, 0, 0], [1, 0, 0, 2, 2]), ([41, 41, 40, 41, 40, 41, 40, 40], [0, 0, 1, 2], [1, 3, 1, 0, 0], [1, 0, 0, 3, 1]), ([41, 41, 40, 41, 41, 40, 40, 40], [0, 0, 1, 1], [1, 2, 0, 0, 0], [1, 0, 1, 2, 1]), ([41, 41, 41, 40, 40, 40, 40, 41], [0, 0, 0, 4], [1, 4, 0, 0, 0], [1, 0, 1, 1, 1, 1]), ([41, 41, 41, 40, 40, 40, 41, 40], [0, 0, 0, 3], [1, 3, 0, 0, 0], [1, 0, 1, 1, 2]), ([41, 41, 41, 40, 40, 41, 40, 40], [0, 0, 0, 2], [1, 2, 0, 0, 0], [1, 0, 1, 2, 1]), ([41, 41, 41, 40, 41, 40, 40, 40], [0, 0, 0, 1], [1, 1, 0, 0, 0], [1, 0, 2, 1, 1]), ([41, 41, 41, 41, 40, 40, 40, 40], [0, 0, 0, 0], [1, 0, 0, 0, 0], [1, 1, 1, 1, 1])]
theorem tabl_all : ((rows 4).all fun x => tabl.any fun t => t.1 == x) = true := by decide +kernel
noncomputable def mgP (s : List Nat) : List Nat := tabsT [s.getD 0 0 + 4, 0, s.getD 1 0 + 3, s.getD 2 0 + 2, s.getD 3 0 + 1]
noncomputable def stD (s : List Nat) : List Dv := s.map fun (n : Nat) => .int (n : Int)
noncomputable def brB (x : List Nat) : Bool := x.length == 8 && x.all fun c => c == 40 || c == 41
theorem t_shape : (tabl.all fun t => brB t.1 && t.2.1.length == 4 && (t.2.1.all fun n => decide (n ≤ 4)) && classes.contains t.2.2) = true := by decide +kernel
theorem t_rook : (tabl.all fun t => rookP (t.2.1.getD 0 0) (t.2.1.getD 1 0) (t.2.1.getD 2 0) (t.2.1.getD 3 0) == t.2.2.1) = true := by decide +kernel
theorem t_cnt : (tabl.all fun t => [t.2.1.getD 0 0 + 4, 0, t.2.1.getD 1 0 + 3, t.2.1.getD 2 0 + 2, t.2.1.getD 3 0 + 1].foldl bump [] == t.2.2.2) = true := by decide +kernel
noncomputable def intsB : Option Dv → List Nat → Bool
  | some (.list ds), s => (match intsOf ds with | some l => l == s.map fun (n : Nat) => (n : Int) | none => false)
  | _, _ => false
theorem t_lines : (tabl.all fun t => intsB (f_law_lines [.str t.1]) t.2.1) = true := by decide +kernel
theorem t_lead : (tabl.all fun t => [[13, 10], [10], [13]].all fun e => isS (leadOf t.1 e) (mgP t.2.1)) = true := by decide +kernel
theorem t_chk : (tabl.all fun t => ((List.range 5).all fun z => chkL 0 (List.replicate z 40 ++ t.1 ++ List.replicate z 41) == decide (t.2.2.1.getD (4 - z) 0 > 0)) && !chkL 0 (40 :: t.1)) = true := by decide +kernel
theorem of_all {α : Type} {l : List α} {f : α → Bool} (h : l.all f = true) {x : α} (hx : x ∈ l) : f x = true := List.all_eq_true.mp h x hx
end Mine

set_option maxHeartbeats 4000000
namespace Mine
local macro_rules | `(tactic| omega) => `(tactic| lia)
open PySem PySem.W PyProof.Rows

/-! texts of brackets alone -/
theorem br_all : ∀ {y : List Nat}, (∀ c ∈ y, br c) → y.contains 34 = false ∧ lowB y = true ∧ escEnd y false = false ∧ (∀ p : Nat, units y p false = tell ((p : Int) - 1) (y.map fun c => [c])) ∧ OkU (y.map fun c => [c]) y
  | [], _ => ⟨rfl, rfl, rfl, fun _ => rfl, .nil⟩
  | c :: y, h => by
    have hc := h c (List.mem_cons_self ..)
    obtain ⟨h1, h2, h3, h4, h5⟩ := br_all (y := y) fun d hd => h d (List.mem_cons_of_mem _ hd)
    refine ⟨?_, ?_, ?_, ?_, .br hc h5⟩
    · rw [List.contains_cons, h1]; rcases hc with rfl | rfl <;> rfl
    · unfold lowB at *; rw [List.all_cons, h2]; rcases hc with rfl | rfl <;> rfl
    · rcases hc with rfl | rfl <;> exact h3
    · intro p
      rw [unit_cons (br_ne hc), h4]
      simp only [List.map_cons, tell, List.length_cons, List.length_nil]
      have e1 : (p : Int) - 1 + ((0 + 1 : Nat) : Int) = (p : Int) := by omega
      have e2 : ((p + 1 : Nat) : Int) - 1 = (p : Int) := by omega
      rw [e1, e2]
theorem strip_plain {y : List Nat} (h : y.contains 34 = false) : f_strip_quoted_realnames [.str y] = some (.str y) := by
  refine body_is rfl ?_
  show x_strip_quoted_realnames Φ0 [.val (.str y), .no, .no, .no, .no, .no] = _
  unfold x_strip_quoted_realnames
  have hq : ev Φ0 (.op (.cmp .notin) (.cons (.const (.str [34])) (.cons (.var 0) .nil))) [.val (.str y), .no, .no, .no, .no, .no] = some (.bool (!y.contains 34)) := rfl
  unfold xseq
  rw [xif, hq, h]
  rfl
theorem check_plain {y : List Nat} (h : ∀ c ∈ y, br c) (hl : y.length ≤ 1000) : f_check_parenthesis [.str y] = some (.bool (chkL 0 y)) := by
  obtain ⟨h1, h2, h3, h4, h5⟩ := br_all h
  exact check_ok (strip_plain h1) (fit_of h2 h3 hl) (h4 0) h5 (by rw [List.length_map]; exact hl)

/-- all that the law needs of a board -/
structure RowOk (x : List Nat) (s0 s1 s2 s3 : Nat) (r : List Int) (c : List Nat) : Prop where
  brs : ∀ d ∈ x, br d
  len : x.length = 8
  small : s0 ≤ 4 ∧ s1 ≤ 4 ∧ s2 ≤ 4 ∧ s3 ≤ 4
  cls : (r, c) ∈ classes
  lines : f_law_lines [.str x] = some (.list [.int (s0 : Int), .int (s1 : Int), .int (s2 : Int), .int (s3 : Int)])
  rooks : f_law_rooks [.list [.int (s0 : Int), .int (s1 : Int), .int (s2 : Int), .int (s3 : Int)]] = some (.list (r.map .int))
  lead : ∀ e, e ∈ [[13, 10], [10], [13]] → leadOf x e = some (.str (mgP [s0, s1, s2, s3]))
  cnt : [s0 + 4, 0, s1 + 3, s2 + 2, s3 + 1].foldl bump [] = c
  chk : ∀ z, z < 5 → chkL 0 (List.replicate z 40 ++ x ++ List.replicate z 41) = decide (r.getD (4 - z) 0 > 0)
  chk' : chkL 0 (40 :: x) = false
theorem intsOf_is : ∀ {ds : List Dv} {l : List Int}, intsOf ds = some l → ds = l.map .int
  | [], l, h => by simp [intsOf] at h; subst h; rfl
  | .int i :: r, l, h => by
    simp only [intsOf, Option.map_eq_some_iff] at h
    obtain ⟨m, hm, rfl⟩ := h
    rw [intsOf_is hm]; rfl
theorem row_facts {x : List Nat} (hx : x ∈ rows 4) : ∃ s0 s1 s2 s3 r c, RowOk x s0 s1 s2 s3 r c := by
  obtain ⟨t, ht, he⟩ := List.any_eq_true.mp (of_all tabl_all hx)
  rw [beq_iff_eq] at he
  obtain ⟨x', s, r, c⟩ := t
  dsimp only at he
  subst he
  have h1 := of_all t_shape ht
  have h2 := of_all t_rook ht
  have h3 := of_all t_cnt ht
  have h4 := of_all t_lines ht
  have h5 := of_all t_lead ht
  have h6 := of_all t_chk ht
  simp only [Bool.and_eq_true, beq_iff_eq, List.all_eq_true, decide_eq_true_eq, brB, Bool.or_eq_true, Bool.not_eq_true'] at h1 h2 h3 h5 h6
  obtain ⟨⟨⟨⟨hl, hb⟩, hs⟩, h4'⟩, hc⟩ := h1
  obtain ⟨s0, s1, s2, s3, rfl⟩ := len4 hs
  have a0 := h4' s0 (by simp)
  have a1 := h4' s1 (by simp)
  have a2 := h4' s2 (by simp)
  have a3 := h4' s3 (by simp)
  refine ⟨s0, s1, s2, s3, r, c, hb, hl, ⟨a0, a1, a2, a3⟩, by simpa using hc, ?_, ?_, fun e he => isS_ok (h5 e he), h3, fun z hz => h6.1 z (List.mem_range.mpr hz), h6.2⟩
  · unfold intsB at h4
    split at h4
    · rename_i ds s' ho
      split at h4
      · rename_i l hl'
        rw [beq_iff_eq] at h4
        rw [ho, intsOf_is hl', h4]
        rfl
      · cases h4
    · cases h4
  · rw [rooks_ok (by omega) (by omega) (by omega) (by omega)]
    rw [show rookP s0 s1 s2 s3 = r from h2]
theorem row_shape {x : List Nat} (hl : x.length = 8) : ∃ c0 c1 c2 c3 c4 c5 c6 c7, x = [c0, c1, c2, c3, c4, c5, c6, c7] := len8 hl
end Mine

set_option maxHeartbeats 4000000
namespace Mine
open PySem PySem.W PyProof.Rows

noncomputable def laE0 : ME := .op .sl (.cons (.op (.bin .add) (.cons (.op .sl (.cons (.var 0) (.cons (.const .none) (.cons (.const (.int 8)) (.cons (.const .none) .nil))))) (.cons (.cons (.const (.int 520)) (.cons (.const (.int 89)) (.cons (.const (.int 363)) (.cons (.const (.int 318)) (.cons (.const (.int 968)) (.cons (.const (.int 26)) (.cons (.const (.int 106)) (.cons (.const (.int 150)) (.nil))))))))) .nil))) (.cons (.const .none) (.cons (.const (.int 8)) (.cons (.const .none) .nil))))
noncomputable def laE1 : ME := .cons (.var 2) (.cons (.op (.meth .join) (.cons (.const (.str [])) (.cons (.comp (.ite (.op (.cmp .eq) (.cons (.var 17) (.cons (.const (.str [40])) .nil))) (.const (.str [41])) (.const (.str [40]))) 0 (.op .sl (.cons (.var 2) (.cons (.const .none) (.cons (.const .none) (.cons (.op .neg (.cons (.const (.int 1)) .nil)) .nil))))) (.const (.bool true))) .nil))) (.cons (.var 3) (.nil)))
noncomputable def labE2 : ME := .call 6 (.cons (.op .idx (.cons (.var 4) (.cons (.var 8) .nil))) (.cons (.var 9) (.nil)))
noncomputable def labE3 : ME := .comp (.var 17) 0 (.gen (.call 3 (.cons (.var 11) (.nil)))) (.const (.bool true))
noncomputable def labE4 : ME := .op (.cmp .ne) (.cons (.var 12) (.cons (.call 7 (.cons (.op .idx (.cons (.var 4) (.cons (.var 8) .nil))) (.cons (.var 9) (.nil)))) .nil))
noncomputable def labE5 : ME := .const (.bool false)
noncomputable def labE6 : ME := .call 8 (.cons (.var 12) (.cons (.op .idx (.cons (.cons (.const (.lit [13, 10])) (.cons (.const (.lit [10])) (.cons (.const (.lit [13])) .nil))) (.cons (.op (.bin .mod) (.cons (.op (.bin .fdiv) (.cons (.op .idx (.cons (.var 9) (.cons (.const (.int 0)) .nil))) (.cons (.const (.int 384)) .nil))) (.cons (.const (.int 3)) .nil))) .nil))) .nil))
noncomputable def labE7 : ME := .op (.cmp .ne) (.cons (.oidx 6 (.var 8)) (.cons (.op (.meth .join) (.cons (.const (.str [9])) (.cons (.comp (.op (.bin .mul) (.cons (.const (.str [32])) (.cons (.var 17) .nil))) 0 (.cons (.op (.bin .add) (.cons (.op .idx (.cons (.var 10) (.cons (.const (.int 0)) .nil))) (.cons (.const (.int 4)) .nil))) (.cons (.const (.int 0)) (.cons (.op (.bin .add) (.cons (.op .idx (.cons (.var 10) (.cons (.const (.int 1)) .nil))) (.cons (.const (.int 3)) .nil))) (.cons (.op (.bin .add) (.cons (.op .idx (.cons (.var 10) (.cons (.const (.int 2)) .nil))) (.cons (.const (.int 2)) .nil))) (.cons (.op (.bin .add) (.cons (.op .idx (.cons (.var 10) (.cons (.const (.int 3)) .nil))) (.cons (.const (.int 1)) .nil))) (.cons (.const (.int 0)) (.nil))))))) (.const (.bool true))) .nil))) .nil))
noncomputable def labE8 : ME := .const (.bool false)
noncomputable def labE9 : ME := .call 10 (.cons (.var 10) (.nil))
noncomputable def labE10 : ME := .op (.bin .add) (.cons (.comp (.op (.bin .add) (.cons (.op (.bin .add) (.cons (.op (.bin .mul) (.cons (.const (.str [40])) (.cons (.var 17) .nil))) (.cons (.op .idx (.cons (.var 4) (.cons (.var 8) .nil))) .nil))) (.cons (.op (.bin .mul) (.cons (.const (.str [41])) (.cons (.var 17) .nil))) .nil))) 0 (.rng (.const (.int 0)) (.const (.int 5))) (.const (.bool true))) (.cons (.cons (.var 11) (.cons (.op (.bin .add) (.cons (.const (.str [40])) (.cons (.var 11) .nil))) (.nil))) .nil))
noncomputable def labE11 : ME := .op (.bin .add) (.cons (.comp (.op (.fn .str) (.cons (.op (.cmp .gt) (.cons (.op .idx (.cons (.oidx 7 (.var 8)) (.cons (.op (.bin .sub) (.cons (.const (.int 4)) (.cons (.var 17) .nil))) .nil))) (.cons (.const (.int 0)) .nil))) (.nil))) 0 (.cons (.const (.int 0)) (.cons (.const (.int 1)) (.cons (.const (.int 2)) (.cons (.const (.int 3)) (.cons (.const (.int 4)) (.cons (.const (.int 0)) (.nil))))))) (.const (.bool true))) (.cons (.cons (.const (.str [70, 97, 108, 115, 101])) (.nil)) .nil))
noncomputable def labE12 : ME := .op (.cmp .ne) (.cons (.comp (.op (.fn .str) (.cons (.call 4 (.cons (.var 17) (.nil))) (.nil))) 0 (.var 13) (.const (.bool true))) (.cons (.var 14) .nil))
noncomputable def labE13 : ME := .const (.bool false)
noncomputable def laBody : XF := xseq (xtupR Φ1 [9, 10] [.ev (.op .sl (.cons (.var 1) (.cons (.op (.bin .mul) (.cons (.const (.int 2)) (.cons (.var 8) .nil))) (.cons (.op (.bin .add) (.cons (.op (.bin .mul) (.cons (.const (.int 2)) (.cons (.var 8) .nil))) (.cons (.const (.int 4)) .nil))) (.cons (.const .none) .nil))))), .ev (.call 9 (.cons (.op .idx (.cons (.var 4) (.cons (.var 8) .nil))) (.nil)))]) (xseq (xset Φ1 11 labE2) (xseq (xset Φ1 12 labE3) (xseq (xif Φ1 labE4 (xret Φ1 labE5) (xnil)) (xseq (xapp Φ1 6 labE6) (xseq (xif Φ1 labE7 (xret Φ1 labE8) (xnil)) (xseq (xapp Φ1 7 labE9) (xseq (xset Φ1 13 labE10) (xseq (xset Φ1 14 labE11) (xif Φ1 labE12 (xret Φ1 labE13) (xnil))))))))))
noncomputable def laE14 : ME := .rng (.const (.int 0)) (.const (.int 3))
noncomputable def laE15 : ME := .comp (.call 13 (.cons (.op (.bin .add) (.cons (.var 17) (.cons (.const (.str [120, 32, 9])) .nil))) (.nil))) 0 (.op (.bin .add) (.cons (.var 6) (.cons (.cons (.op (.bin .add) (.cons (.op .idx (.cons (.var 6) (.cons (.const (.int 0)) .nil))) (.cons (.const (.str [32])) .nil))) (.nil)) .nil))) (.const (.bool true))
noncomputable def laE16 : ME := .op (.cmp .ne) (.cons (.comp (.call 12 (.cons (.var 17) (.cons (.var 5) (.nil)))) 0 (.op .sl (.cons (.var 15) (.cons (.const .none) (.cons (.const (.int 3)) (.cons (.const .none) .nil))))) (.const (.bool true))) (.cons (.comp (.cons (.op .tup (.cons (.const (.int 1)) (.nil))) (.cons (.const (.bool true)) (.cons (.const (.int 0)) (.cons (.call 11 (.cons (.var 17) (.cons (.var 5) (.nil)))) (.nil))))) 0 (.var 7) (.const (.bool true))) .nil))
noncomputable def laE17 : ME := .const (.bool false)
noncomputable def laE18 : ME := .cons (.op .tup (.cons (.const (.int 0)) (.cons (.const (.int 1)) (.nil)))) (.cons (.op .tup (.cons (.const (.int 0)) (.cons (.const (.int 2)) (.nil)))) (.cons (.op .tup (.cons (.const (.int 1)) (.cons (.const (.int 2)) (.nil)))) (.cons (.op .tup (.cons (.const (.int 0)) (.cons (.const (.int 3)) (.nil)))) (.nil))))
noncomputable def laE19 : ME := .op (.cmp .eq) (.cons (.comp (.op (.fn .str) (.cons (.call 14 (.cons (.op .idx (.cons (.var 15) (.cons (.var 17) .nil))) (.cons (.op .idx (.cons (.var 15) (.cons (.var 18) .nil))) .nil))) (.nil))) 2 (.var 16) (.const (.bool true))) (.cons (.comp (.op (.fn .str) (.cons (.and (.op (.cmp .lt) (.cons (.var 18) (.cons (.const (.int 3)) .nil))) (.op (.cmp .eq) (.cons (.op .idx (.cons (.var 7) (.cons (.var 17) .nil))) (.cons (.op .idx (.cons (.var 7) (.cons (.var 18) .nil))) .nil)))) (.nil))) 2 (.var 16) (.const (.bool true))) .nil))
noncomputable def laAll : XF := xseq (xset Φ1 1 laE0) (xseq (xtupR Φ1 [2, 3] [.ev (.call 5 (.cons (.op .sl (.cons (.var 1) (.cons (.const .none) (.cons (.const (.int 4)) (.cons (.const .none) .nil))))) (.nil))), .ev (.call 5 (.cons (.op .sl (.cons (.var 1) (.cons (.const (.int 4)) (.cons (.const .none) (.cons (.const .none) .nil))))) (.nil)))]) (xseq (xset Φ1 4 laE1) (xseq (xtup Φ1 [5, 6, 7] [.ev (.op (.bin .sub) (.cons (.op (.bin .mod) (.cons (.op (.fn .sum) (.cons (.var 1) (.nil))) (.cons (.const (.int 201)) .nil))) (.cons (.const (.int 100)) .nil))), .own, .own]) (xseq (xfor Φ1 0 [8] laE14 laBody) (xfree 7 (xfree 6 (xseq (xset Φ1 15 laE15) (xseq (xif Φ1 laE16 (xret Φ1 laE17) (xnil)) (xseq (xset Φ1 16 laE18) (xret Φ1 laE19))))))))))
theorem la_is : x_law Φ1 = laAll := rfl

theorem ev_call1 {Φ : Nat → List Dv → Option Dv} {f : Nat} {A : ME} {ρ : List En} {a : Dv} (hA : ev Φ A ρ = some a) : ev Φ (.call f (.cons A .nil)) ρ = Φ f [a] := by
  simp only [ev, hA, lst, Option.bind_some, Option.map_some]
theorem ev_call2 {Φ : Nat → List Dv → Option Dv} {f : Nat} {A B : ME} {ρ : List En} {a b : Dv} (hA : ev Φ A ρ = some a) (hB : ev Φ B ρ = some b) : ev Φ (.call f (.cons A (.cons B .nil))) ρ = Φ f [a, b] := by
  simp only [ev, hA, hB, lst, Option.bind_some, Option.map_some]
theorem idx_nat {ds : List Dv} {b : Nat} (hb : b ≤ 1000) : idxApp (.list ds) (.int (b : Int)) = ds[b]? := by
  have hf : fits (b : Int) = true := by unfold fits; rw [Bool.and_eq_true, decide_eq_true_eq, decide_eq_true_eq]; constructor <;> omega
  unfold idxApp
  dsimp only
  rw [if_pos (by rw [hf, decide_eq_true (show (0 : Int) ≤ (b : Int) by omega)]; rfl), Int.toNat_natCast]
theorem lays_strs : ∀ {l : List (List Nat)} {n : Nat}, (∀ y ∈ l, lowB y = true) → lays (n + 1) (l.map .str) = true
  | [], _, _ => rfl
  | y :: l, n, h => by
    show (Dv.lay (n + 1) (.str y) && lays (n + 1) (l.map .str)) = true
    rw [lays_strs fun z hz => h z (List.mem_cons_of_mem _ hz)]
    have := h y (List.mem_cons_self ..)
    unfold lowB at this
    show (y.all (fun c => decide (c < 1114112)) && true) = true
    rw [this]; rfl
theorem eqvs_strs : ∀ l : List (List Nat), eqvs (l.map .str) (l.map .str) = true
  | [] => rfl
  | y :: l => by
    show ((y == y) && eqvs (l.map .str) (l.map .str)) = true
    rw [eqvs_strs l, beq_self_eq_true]; rfl
theorem ne_strs {l : List (List Nat)} (h : ∀ y ∈ l, lowB y = true) : Cop.ne.app (.list (l.map .str)) (.list (l.map .str)) = some false := by
  have h1 : Dv.lay 6 (.list (l.map .str)) = true := lays_strs h
  have h2 : Dv.eqv (.list (l.map .str)) (.list (l.map .str)) = true := eqvs_strs l
  show (if Dv.lay 6 (.list (l.map .str)) && Dv.lay 6 (.list (l.map .str)) then some (!Dv.eqv (.list (l.map .str)) (.list (l.map .str))) else none) = _
  rw [h1, h2]; rfl
theorem eq_strs {l : List (List Nat)} (h : ∀ y ∈ l, lowB y = true) : Cop.eq.app (.list (l.map .str)) (.list (l.map .str)) = some true := by
  have h1 : Dv.lay 6 (.list (l.map .str)) = true := lays_strs h
  have h2 : Dv.eqv (.list (l.map .str)) (.list (l.map .str)) = true := eqvs_strs l
  show (if Dv.lay 6 (.list (l.map .str)) && Dv.lay 6 (.list (l.map .str)) then some (Dv.eqv (.list (l.map .str)) (.list (l.map .str))) else none) = _
  rw [h1, h2]; rfl
theorem ne_str {y : List Nat} (h : lowB y = true) : Cop.ne.app (.str y) (.str y) = some false := by
  have h1 : Dv.lay 6 (.str y) = true := h
  show (if Dv.lay 6 (.str y) && Dv.lay 6 (.str y) then some (!(y == y)) else none) = _
  rw [h1]; simp
theorem tabs_low (ms : List Nat) : lowB (tabsT ms) = true := by
  unfold lowB tabsT
  rw [List.all_eq_true]
  intro c hc
  rw [List.mem_flatMap] at hc
  obtain ⟨m, _, hc⟩ := hc
  rw [List.mem_append] at hc
  rcases hc with hc | hc
  · rw [List.mem_replicate] at hc; rw [hc.2]; rfl
  · simp at hc; rw [hc]; rfl
noncomputable def boolS (b : Bool) : List Nat := if b then [84, 114, 117, 101] else [70, 97, 108, 115, 101]
theorem boolS_low (b : Bool) : lowB (boolS b) = true := by cases b <;> rfl
end Mine

set_option maxHeartbeats 4000000
namespace Mine
open PySem PySem.W PyProof.Rows

theorem ev_comp0 {Φ : Nat → List Dv → Option Dv} {e src t : ME} {n : Nat} {ρ : List En} {ds ys : List Dv} (hs : ev Φ src ρ = some (.list ds)) (hl : ds.length ≤ 1000) (h : lcomp (ev Φ t) (ev Φ e) n ρ ds = some ys) : ev Φ (.comp e n src t) ρ = some (.list ys) := by
  simp only [ev] at *
  rw [hs, Option.bind_some, items_is hl, Option.bind_some, h]
  rfl
theorem rng5 {Φ : Nat → List Dv → Option Dv} {ρ : List En} : ev Φ (.rng (.const (.int 0)) (.const (.int 5))) ρ = some (.list [.int ((0 : Nat) : Int), .int ((1 : Nat) : Int), .int ((2 : Nat) : Int), .int ((3 : Nat) : Int), .int ((4 : Nat) : Int)]) := rfl
noncomputable def brdM : ME := .op .idx (.cons (.var 4) (.cons (.var 8) .nil))
noncomputable def mrgM : ME := .op (.meth .join) (.cons (.const (.str [9])) (.cons (.comp (.op (.bin .mul) (.cons (.const (.str [32])) (.cons (.var 17) .nil))) 0 (.cons (.op (.bin .add) (.cons (.op .idx (.cons (.var 10) (.cons (.const (.int 0)) .nil))) (.cons (.const (.int 4)) .nil))) (.cons (.const (.int 0)) (.cons (.op (.bin .add) (.cons (.op .idx (.cons (.var 10) (.cons (.const (.int 1)) .nil))) (.cons (.const (.int 3)) .nil))) (.cons (.op (.bin .add) (.cons (.op .idx (.cons (.var 10) (.cons (.const (.int 2)) .nil))) (.cons (.const (.int 2)) .nil))) (.cons (.op (.bin .add) (.cons (.op .idx (.cons (.var 10) (.cons (.const (.int 3)) .nil))) (.cons (.const (.int 1)) .nil))) (.cons (.const (.int 0)) (.nil))))))) (.const (.bool true))) .nil))
theorem spaces_ev {ρ : List En} {n : Int} {m : Nat} (h : ev Φ1 (.var 17) ρ = some (.int n)) (hn : n = (m : Int)) (hm : m ≤ 1000) : ev Φ1 (.op (.bin .mul) (.cons (.const (.str [32])) (.cons (.var 17) .nil))) ρ = some (.str (List.replicate m 32)) := by
  subst hn
  refine (ev_op2 (a := .str [32]) rfl h).trans ?_
  simp only [op_bin, b_add_int, b_add_str, b_add_list, b_mul_int, b_mul_str, b_mul_list]
  rw [if_pos (by simp; omega)]
  unfold repL
  rw [Int.toNat_natCast]
  simp
theorem margin_ev {v0 v1 v2 v3 v4 v5 v6 v7 v8 v9 v11 v12 v13 v14 v15 v16 : En} {s0 s1 s2 s3 : Nat} (h : s0 ≤ 4 ∧ s1 ≤ 4 ∧ s2 ≤ 4 ∧ s3 ≤ 4) :
    ev Φ1 mrgM [v0, v1, v2, v3, v4, v5, v6, v7, v8, v9, .val (.list [.int (s0 : Int), .int (s1 : Int), .int (s2 : Int), .int (s3 : Int)]), v11, v12, v13, v14, v15, v16] = some (.str (mgP [s0, s1, s2, s3])) := by
  unfold mrgM
  have hc : ev Φ1 (.comp (.op (.bin .mul) (.cons (.const (.str [32])) (.cons (.var 17) .nil))) 0 (.cons (.op (.bin .add) (.cons (.op .idx (.cons (.var 10) (.cons (.const (.int 0)) .nil))) (.cons (.const (.int 4)) .nil))) (.cons (.const (.int 0)) (.cons (.op (.bin .add) (.cons (.op .idx (.cons (.var 10) (.cons (.const (.int 1)) .nil))) (.cons (.const (.int 3)) .nil))) (.cons (.op (.bin .add) (.cons (.op .idx (.cons (.var 10) (.cons (.const (.int 2)) .nil))) (.cons (.const (.int 2)) .nil))) (.cons (.op (.bin .add) (.cons (.op .idx (.cons (.var 10) (.cons (.const (.int 3)) .nil))) (.cons (.const (.int 1)) .nil))) (.cons (.const (.int 0)) (.nil))))))) (.const (.bool true)))
      [v0, v1, v2, v3, v4, v5, v6, v7, v8, v9, .val (.list [.int (s0 : Int), .int (s1 : Int), .int (s2 : Int), .int (s3 : Int)]), v11, v12, v13, v14, v15, v16] = some (.list (([List.replicate (s0 + 4) 32, List.replicate 0 32, List.replicate (s1 + 3) 32, List.replicate (s2 + 2) 32, List.replicate (s3 + 1) 32, List.replicate 0 32] : List (List Nat)).map .str)) := by
    show (lcomp (ev Φ1 (.const (.bool true))) (ev Φ1 (.op (.bin .mul) (.cons (.const (.str [32])) (.cons (.var 17) .nil)))) 0 [v0, v1, v2, v3, v4, v5, v6, v7, v8, v9, .val (.list [.int (s0 : Int), .int (s1 : Int), .int (s2 : Int), .int (s3 : Int)]), v11, v12, v13, v14, v15, v16] [.int ((s0 : Int) + 4), .int 0, .int ((s1 : Int) + 3), .int ((s2 : Int) + 2), .int ((s3 : Int) + 1), .int 0]).map Dv.list = _
    rw [lcomp_to rfl (spaces_ev rfl (m := s0 + 4) (by omega) (by omega)) (lcomp_to rfl (spaces_ev rfl (m := 0) (by omega) (by omega)) (lcomp_to rfl (spaces_ev rfl (m := s1 + 3) (by omega) (by omega)) (lcomp_to rfl (spaces_ev rfl (m := s2 + 2) (by omega) (by omega)) (lcomp_to rfl (spaces_ev rfl (m := s3 + 1) (by omega) (by omega)) (lcomp_to rfl (spaces_ev rfl (m := 0) (by omega) (by omega)) rfl)))))]
    rfl
  refine (ev_op2 (a := .str [9]) rfl hc).trans ?_
  show ((strsOf (([List.replicate (s0 + 4) 32, List.replicate 0 32, List.replicate (s1 + 3) 32, List.replicate (s2 + 2) 32, List.replicate (s3 + 1) 32, List.replicate 0 32] : List (List Nat)).map .str)).bind fun l => if (l.map List.length).sum + l.length * ([9] : List Nat).length ≤ 1000000 then some (Dv.str (glue [9] l)) else none) = _
  rw [strs_map]
  simp only [Option.bind_some]
  rw [if_pos (by simp; omega)]
  simp [glue, mgP, tabsT]
/-- the first texts tried, and those of the reader -/
theorem tries_ev {v0 v1 v2 v3 v5 v6 v7 v9 v10 v12 v13 v14 v15 v16 : En} {bds : List Dv} {b : Nat} {c0 c1 c2 c3 c4 c5 c6 c7 : Nat} {X : List Nat} (hX : X.length ≤ 1000)
    (hb : ∀ v17, ev Φ1 brdM [v0, v1, v2, v3, .val (.list bds), v5, v6, v7, .val (.int (b : Int)), v9, v10, .val (.str X), v12, v13, v14, v15, v16, v17] = some (.str [c0, c1, c2, c3, c4, c5, c6, c7])) :
    ev Φ1 labE10 [v0, v1, v2, v3, .val (.list bds), v5, v6, v7, .val (.int (b : Int)), v9, v10, .val (.str X), v12, v13, v14, v15, v16] = some (.list ((((List.range 5).map fun z => List.replicate z 40 ++ [c0, c1, c2, c3, c4, c5, c6, c7] ++ List.replicate z 41) ++ [X, 40 :: X]).map .str)) := by
  have el : ∀ z : Nat, z < 5 → ev Φ1 (.op (.bin .add) (.cons (.op (.bin .add) (.cons (.op (.bin .mul) (.cons (.const (.str [40])) (.cons (.var 17) .nil))) (.cons brdM .nil))) (.cons (.op (.bin .mul) (.cons (.const (.str [41])) (.cons (.var 17) .nil))) .nil))) [v0, v1, v2, v3, .val (.list bds), v5, v6, v7, .val (.int (b : Int)), v9, v10, .val (.str X), v12, v13, v14, v15, v16, .val (.int (z : Int))] = some (.str (List.replicate z 40 ++ [c0, c1, c2, c3, c4, c5, c6, c7] ++ List.replicate z 41)) := by
    intro z hz
    match z, hz with
    | 0, _ => exact (ev_op2 ((ev_op2 (a := .str []) rfl (hb _)).trans rfl) (b := .str []) rfl).trans rfl
    | 1, _ => exact (ev_op2 ((ev_op2 (a := .str [40]) rfl (hb _)).trans rfl) (b := .str [41]) rfl).trans rfl
    | 2, _ => exact (ev_op2 ((ev_op2 (a := .str [40, 40]) rfl (hb _)).trans rfl) (b := .str [41, 41]) rfl).trans rfl
    | 3, _ => exact (ev_op2 ((ev_op2 (a := .str [40, 40, 40]) rfl (hb _)).trans rfl) (b := .str [41, 41, 41]) rfl).trans rfl
    | 4, _ => exact (ev_op2 ((ev_op2 (a := .str [40, 40, 40, 40]) rfl (hb _)).trans rfl) (b := .str [41, 41, 41, 41]) rfl).trans rfl
  have hc : ev Φ1 (.comp (.op (.bin .add) (.cons (.op (.bin .add) (.cons (.op (.bin .mul) (.cons (.const (.str [40])) (.cons (.var 17) .nil))) (.cons brdM .nil))) (.cons (.op (.bin .mul) (.cons (.const (.str [41])) (.cons (.var 17) .nil))) .nil))) 0 (.rng (.const (.int 0)) (.const (.int 5))) (.const (.bool true))) [v0, v1, v2, v3, .val (.list bds), v5, v6, v7, .val (.int (b : Int)), v9, v10, .val (.str X), v12, v13, v14, v15, v16] = some (.list (((List.range 5).map fun z => List.replicate z 40 ++ [c0, c1, c2, c3, c4, c5, c6, c7] ++ List.replicate z 41).map .str)) := by
    have st : ∀ (z : Nat) (ds ys : List Dv), z < 5 → lcomp (ev Φ1 (.const (.bool true))) (ev Φ1 (.op (.bin .add) (.cons (.op (.bin .add) (.cons (.op (.bin .mul) (.cons (.const (.str [40])) (.cons (.var 17) .nil))) (.cons brdM .nil))) (.cons (.op (.bin .mul) (.cons (.const (.str [41])) (.cons (.var 17) .nil))) .nil)))) 0 [v0, v1, v2, v3, .val (.list bds), v5, v6, v7, .val (.int (b : Int)), v9, v10, .val (.str X), v12, v13, v14, v15, v16] ds = some ys → lcomp (ev Φ1 (.const (.bool true))) (ev Φ1 (.op (.bin .add) (.cons (.op (.bin .add) (.cons (.op (.bin .mul) (.cons (.const (.str [40])) (.cons (.var 17) .nil))) (.cons brdM .nil))) (.cons (.op (.bin .mul) (.cons (.const (.str [41])) (.cons (.var 17) .nil))) .nil)))) 0 [v0, v1, v2, v3, .val (.list bds), v5, v6, v7, .val (.int (b : Int)), v9, v10, .val (.str X), v12, v13, v14, v15, v16] (.int (z : Int) :: ds) = some (.str (List.replicate z 40 ++ [c0, c1, c2, c3, c4, c5, c6, c7] ++ List.replicate z 41) :: ys) :=
      fun z ds ys hz h => lcomp_to (ρ := [v0, v1, v2, v3, .val (.list bds), v5, v6, v7, .val (.int (b : Int)), v9, v10, .val (.str X), v12, v13, v14, v15, v16]) (d := .int (z : Int)) rfl (el z hz) h
    exact ev_comp0 (ds := [.int ((0 : Nat) : Int), .int ((1 : Nat) : Int), .int ((2 : Nat) : Int), .int ((3 : Nat) : Int), .int ((4 : Nat) : Int)]) rng5 (by simp) (st 0 _ _ (by omega) (st 1 _ _ (by omega) (st 2 _ _ (by omega) (st 3 _ _ (by omega) (st 4 _ [] (by omega) rfl)))))
  have h2 : ev Φ1 (.op (.bin .add) (.cons (.const (.str [40])) (.cons (.var 11) .nil))) [v0, v1, v2, v3, .val (.list bds), v5, v6, v7, .val (.int (b : Int)), v9, v10, .val (.str X), v12, v13, v14, v15, v16] = some (.str (40 :: X)) := by
    refine (ev_op2 (a := .str [40]) (b := .str X) rfl rfl).trans ?_
    simp only [op_bin, b_add_int, b_add_str, b_add_list, b_mul_int, b_mul_str, b_mul_list]
    rw [if_pos (by simp; omega)]
    rfl
  have h3 := ev_cons (A := .var 11) (ρ := [v0, v1, v2, v3, .val (.list bds), v5, v6, v7, .val (.int (b : Int)), v9, v10, .val (.str X), v12, v13, v14, v15, v16]) (a := .str X) rfl (ev_cons h2 (B := .nil) (l := []) rfl)
  refine (ev_op2 hc h3).trans ?_
  simp only [op_bin, b_add_int, b_add_str, b_add_list, b_mul_int, b_mul_str, b_mul_list]
  rw [if_pos (by simp)]
  simp
end Mine

set_option maxHeartbeats 4000000
namespace Mine
local macro_rules | `(tactic| omega) => `(tactic| lia)
open PySem PySem.W PyProof.Rows

/-- `str(rooks[b][4 - z] > 0)` and the last one -/
noncomputable def takes (r0 r1 r2 r3 r4 : Int) : List (List Nat) := [boolS (decide (r4 > 0)), boolS (decide (r3 > 0)), boolS (decide (r2 > 0)), boolS (decide (r1 > 0)), boolS (decide (r0 > 0)), boolS (decide (r4 > 0)), boolS false]
theorem take_elt {ρ : List En} {rs : List Dv} {b : Nat} {r : Int} {R : List Dv} {z : Int} (hr : ev Φ1 (.oidx 7 (.var 8)) ρ = some (.list R)) (hz : ev Φ1 (.var 17) ρ = some (.int z)) (hi : idxApp (.list R) (.int (4 - z)) = some (.int r)) :
    ev Φ1 (.op (.fn .str) (.cons (.op (.cmp .gt) (.cons (.op .idx (.cons (.oidx 7 (.var 8)) (.cons (.op (.bin .sub) (.cons (.const (.int 4)) (.cons (.var 17) .nil))) .nil))) (.cons (.const (.int 0)) .nil))) (.nil))) ρ = some (.str (boolS (decide (r > 0)))) := by
  have h1 : ev Φ1 (.op (.bin .sub) (.cons (.const (.int 4)) (.cons (.var 17) .nil))) ρ = some (.int (4 - z)) := (ev_op2 (a := .int 4) rfl hz).trans rfl
  have h2 : ev Φ1 (.op .idx (.cons (.oidx 7 (.var 8)) (.cons (.op (.bin .sub) (.cons (.const (.int 4)) (.cons (.var 17) .nil))) .nil))) ρ = some (.int r) := (ev_op2 hr h1).trans hi
  have h3 : ev Φ1 (.op (.cmp .gt) (.cons (.op .idx (.cons (.oidx 7 (.var 8)) (.cons (.op (.bin .sub) (.cons (.const (.int 4)) (.cons (.var 17) .nil))) .nil))) (.cons (.const (.int 0)) .nil))) ρ = some (.bool (decide (r > 0))) := (ev_op2 h2 (b := .int 0) rfl).trans rfl
  exact (ev_op1 h3).trans rfl
theorem taken_ev {v0 v1 v2 v3 v4 v5 v6 v9 v10 v11 v12 v13 v14 v15 v16 : En} {rs : List Dv} {b : Nat} {r0 r1 r2 r3 r4 : Int} (hb : b ≤ 100) (hr : rs[b]? = some (.list [.int r0, .int r1, .int r2, .int r3, .int r4])) :
    ev Φ1 labE11 [v0, v1, v2, v3, v4, v5, v6, .own rs, .val (.int (b : Int)), v9, v10, v11, v12, v13, v14, v15, v16] = some (.list ((takes r0 r1 r2 r3 r4).map .str)) := by
  have ho : ∀ v17, ev Φ1 (.oidx 7 (.var 8)) [v0, v1, v2, v3, v4, v5, v6, .own rs, .val (.int (b : Int)), v9, v10, v11, v12, v13, v14, v15, v16, v17] = some (.list [.int r0, .int r1, .int r2, .int r3, .int r4]) := by
    intro v17
    show idxApp (.list rs) (.int (b : Int)) = _
    rw [idx_nat (by omega), hr]
  have el := fun (z r : Int) (hi : idxApp (.list [.int r0, .int r1, .int r2, .int r3, .int r4]) (.int (4 - z)) = some (.int r)) => take_elt (rs := rs) (b := b) (z := z) (ho (.val (.int z))) rfl hi
  have st := fun (z r : Int) (ds ys : List Dv) (hi : idxApp (.list [.int r0, .int r1, .int r2, .int r3, .int r4]) (.int (4 - z)) = some (.int r)) => lcomp_to (t := ev Φ1 (.const (.bool true))) (ρ := [v0, v1, v2, v3, v4, v5, v6, .own rs, .val (.int (b : Int)), v9, v10, v11, v12, v13, v14, v15, v16]) (d := .int z) (r := ds) (ys := ys) rfl (el z r hi)
  have hc := ev_comp0 (Φ := Φ1) (src := .cons (.const (.int 0)) (.cons (.const (.int 1)) (.cons (.const (.int 2)) (.cons (.const (.int 3)) (.cons (.const (.int 4)) (.cons (.const (.int 0)) (.nil))))))) (ds := [.int 0, .int 1, .int 2, .int 3, .int 4, .int 0]) rfl (by simp)
    (st 0 r4 _ _ rfl (st 1 r3 _ _ rfl (st 2 r2 _ _ rfl (st 3 r1 _ _ rfl (st 4 r0 _ _ rfl (st 0 r4 [] [] rfl rfl))))))
  exact (ev_op2 hc (b := .list [.str [70, 97, 108, 115, 101]]) rfl).trans rfl
theorem chk_elt {ρ : List En} {y : List Nat} {c : Bool} (hy : ev Φ1 (.var 17) ρ = some (.str y)) (hc : f_check_parenthesis [.str y] = some (.bool c)) : ev Φ1 (.op (.fn .str) (.cons (.call 4 (.cons (.var 17) (.nil))) (.nil))) ρ = some (.str (boolS c)) :=
  have h1 : ev Φ1 (.call 4 (.cons (.var 17) (.nil))) ρ = some (.bool c) := (ev_call1 (f := 4) hy).trans hc
  (ev_op1 h1).trans rfl
theorem chks_ev {ρ : List En} (hl : ρ.length = 17) : ∀ {ys : List (List Nat)} {cs : List Bool}, ys.length = cs.length → (∀ p ∈ ys.zip cs, f_check_parenthesis [.str p.1] = some (.bool p.2)) →
    lcomp (ev Φ1 (.const (.bool true))) (ev Φ1 (.op (.fn .str) (.cons (.call 4 (.cons (.var 17) (.nil))) (.nil)))) 0 ρ (ys.map .str) = some ((cs.map boolS).map .str)
  | [], [], _, _ => rfl
  | y :: ys, c :: cs, h, hp => lcomp_to rfl (chk_elt (y := y) (c := c) (by simp only [ev]; rw [List.getElem?_append_right (by omega), hl]; rfl) (hp (y, c) (by simp))) (chks_ev hl (by simpa using h) fun p hp' => hp p (by simp [hp']))
theorem idx_app (a i : Dv) : Op.idx.app [a, i] = idxApp a i := rfl
theorem idx0 {a : Dv} {R : List Dv} : idxApp (.list (a :: R)) (.int 0) = some a := by
  unfold idxApp
  dsimp only
  rw [if_pos (by decide)]
  rfl
/-- the ends of line -/
theorem end_ev {ρ : List En} {a : Int} {R : List Dv} (h9 : ev Φ1 (.var 9) ρ = some (.list (.int a :: R))) : ∃ e, e ∈ [[13, 10], [10], [13]] ∧
    ev Φ1 (.op .idx (.cons (.cons (.const (.lit [13, 10])) (.cons (.const (.lit [10])) (.cons (.const (.lit [13])) .nil))) (.cons (.op (.bin .mod) (.cons (.op (.bin .fdiv) (.cons (.op .idx (.cons (.var 9) (.cons (.const (.int 0)) .nil))) (.cons (.const (.int 384)) .nil))) (.cons (.const (.int 3)) .nil))) .nil))) ρ = some (.lit e) := by
  obtain ⟨k, hk, he⟩ := fmod_lt (a.fdiv 384) 3 (by omega)
  have e0 : ev Φ1 (.op .idx (.cons (.var 9) (.cons (.const (.int 0)) .nil))) ρ = some (.int a) := (ev_op2 h9 (b := .int 0) rfl).trans idx0
  have e1 : ev Φ1 (.op (.bin .fdiv) (.cons (.op .idx (.cons (.var 9) (.cons (.const (.int 0)) .nil))) (.cons (.const (.int 384)) .nil))) ρ = some (.int (a.fdiv 384)) := (ev_op2 e0 (b := .int 384) rfl).trans rfl
  have e2 : ev Φ1 (.op (.bin .mod) (.cons (.op (.bin .fdiv) (.cons (.op .idx (.cons (.var 9) (.cons (.const (.int 0)) .nil))) (.cons (.const (.int 384)) .nil))) (.cons (.const (.int 3)) .nil))) ρ = some (.int (k : Int)) := (ev_op2 e1 (b := .int 3) rfl).trans (by
    show some (Dv.int ((a.fdiv 384).fmod 3)) = _
    rw [show (a.fdiv 384).fmod 3 = (k : Int) from he])
  have e3 := ev_op2 (o := .idx) (A := .cons (.const (.lit [13, 10])) (.cons (.const (.lit [10])) (.cons (.const (.lit [13])) .nil))) (a := .list [.lit [13, 10], .lit [10], .lit [13]]) rfl e2
  have e4 : idxApp (.list [.lit [13, 10], .lit [10], .lit [13]]) (.int (k : Int)) = ([.lit [13, 10], .lit [10], .lit [13]] : List Dv)[k]? := idx_nat (by omega)
  rw [idx_app, e4] at e3
  have hk3 : k = 0 ∨ k = 1 ∨ k = 2 := by omega
  clear he e4 e2 e1 e0
  rcases hk3 with h | h | h
  · rw [h] at e3; exact ⟨[13, 10], by simp, e3⟩
  · rw [h] at e3; exact ⟨[10], by simp, e3⟩
  · rw [h] at e3; exact ⟨[13], by simp, e3⟩
end Mine

set_option maxHeartbeats 4000000
namespace Mine
open PySem PySem.W PyProof.Rows

noncomputable def digM : ME := .op .sl (.cons (.var 1) (.cons (.op (.bin .mul) (.cons (.const (.int 2)) (.cons (.var 8) .nil))) (.cons (.op (.bin .add) (.cons (.op (.bin .mul) (.cons (.const (.int 2)) (.cons (.var 8) .nil))) (.cons (.const (.int 4)) .nil))) (.cons (.const .none) .nil))))
theorem xapp_to {Φ : Nat → List Dv → Option Dv} {i : Nat} {m : ME} {ρ : List En} {ds : List Dv} {d : Dv} (h1 : ρ[i]? = some (.own ds)) (h2 : ev Φ m ρ = some d) (hl : ds.length ≤ 1000) : xapp Φ i m ρ = some (.next (ρ.set i (.own (ds ++ [d])))) := by
  unfold xapp
  rw [h1, h2]
  exact if_pos (by omega)
theorem xif_no {Φ : Nat → List Dv → Option Dv} {m : ME} {a : XF} {ρ : List En} (h : ev Φ m ρ = some (.bool false)) : xif Φ m a xnil ρ = some (.next ρ) := by
  unfold xif; rw [h]; rfl
theorem op_ne {a b : Dv} {v : Bool} (h : Cop.ne.app a b = some v) : Op.app (.cmp .ne) [a, b] = some (.bool v) := by
  show (Cop.ne.app a b).map Dv.bool = _
  rw [h]; rfl
theorem ev_ownAt {Φ : Nat → List Dv → Option Dv} {i : Nat} {A : ME} {ρ : List En} {ds : List Dv} {d : Dv} (h1 : ρ[i]? = some (.own ds)) (h2 : ev Φ A ρ = some d) : ev Φ (.oidx i A) ρ = idxApp (.list ds) d := by
  simp only [ev]; rw [h1, h2]
theorem turn1 {v0 v2 v3 v5 v9 v10 v11 v12 v13 v14 v15 v16 : En} {D bds ms rs : List Dv} {b : Nat} {x : List Nat} {s0 s1 s2 s3 : Nat} {r0 r1 r2 r3 r4 : Int} {c : List Nat} {a0 a1 a2 a3 : Int} (R : RowOk x s0 s1 s2 s3 [r0, r1, r2, r3, r4] c) (hb : b ≤ 100)
    (hbd : bds[b]? = some (.str x)) (hms : ms.length = b) (hrs : rs.length = b)
    (hdig : ev Φ1 digM [v0, .val (.list D), v2, v3, .val (.list bds), v5, .own ms, .own rs, .val (.int (b : Int)), v9, v10, v11, v12, v13, v14, v15, v16] = some (.list [.int a0, .int a1, .int a2, .int a3])) :
    ∃ v9' v10' v11' v12' v13' v14', laBody [v0, .val (.list D), v2, v3, .val (.list bds), v5, .own ms, .own rs, .val (.int (b : Int)), v9, v10, v11, v12, v13, v14, v15, v16]
      = some (.next [v0, .val (.list D), v2, v3, .val (.list bds), v5, .own (ms ++ [.str (mgP [s0, s1, s2, s3])]), .own (rs ++ [.list [.int r0, .int r1, .int r2, .int r3, .int r4]]), .val (.int (b : Int)), v9', v10', v11', v12', v13', v14', v15, v16]) := by
  obtain ⟨c0, c1, c2, c3, c4, c5, c6, c7, rfl⟩ := row_shape R.len
  have hbr := R.brs
  obtain ⟨X, Y, us, k1, k2, k3, k4, k5, k6, k7, k8, k9, k10⟩ := (board_ok (hbr c0 (by simp)) (hbr c1 (by simp)) (hbr c2 (by simp)) (hbr c3 (by simp)) (hbr c4 (by simp)) (hbr c5 (by simp)) (hbr c6 (by simp)) (hbr c7 (by simp)) a0 a1 a2 a3).text
  have hbrd : ∀ (w5 w6 w7 w9 : En) (l : List En), ev Φ1 brdM (v0 :: .val (.list D) :: v2 :: v3 :: .val (.list bds) :: w5 :: w6 :: w7 :: .val (.int (b : Int)) :: w9 :: l) = some (.str [c0, c1, c2, c3, c4, c5, c6, c7]) := by
    intro w5 w6 w7 w9 l
    have e := ev_op2 (Φ := Φ1) (o := .idx) (A := .var 4) (B := .var 8) (ρ := v0 :: .val (.list D) :: v2 :: v3 :: .val (.list bds) :: w5 :: w6 :: w7 :: .val (.int (b : Int)) :: w9 :: l) (a := .list bds) (b := .int (b : Int)) rfl rfl
    rw [idx_app, idx_nat (by omega), hbd] at e
    exact e
  unfold laBody
  have hlin : ev Φ1 (.call 9 (.cons brdM .nil)) [v0, .val (.list D), v2, v3, .val (.list bds), v5, .own ms, .own rs, .val (.int (b : Int)), v9, v10, v11, v12, v13, v14, v15, v16] = some (.list [.int (s0 : Int), .int (s1 : Int), .int (s2 : Int), .int (s3 : Int)]) := (ev_call1 (hbrd _ _ _ _ _)).trans R.lines
  refine ⟨.val (.list [.int a0, .int a1, .int a2, .int a3]), .val (.list [.int (s0 : Int), .int (s1 : Int), .int (s2 : Int), .int (s3 : Int)]), .val (.str X), .val (.list (tell (-1) us)), .val (.list ((((List.range 5).map fun z => List.replicate z 40 ++ [c0, c1, c2, c3, c4, c5, c6, c7] ++ List.replicate z 41) ++ [X, 40 :: X]).map .str)), .val (.list ((takes r0 r1 r2 r3 r4).map .str)), ?_⟩
  refine (xseq_to (ρ1 := [v0, .val (.list D), v2, v3, .val (.list bds), v5, .own ms, .own rs, .val (.int (b : Int)), .val (.list [.int a0, .int a1, .int a2, .int a3]), .val (.list [.int (s0 : Int), .int (s1 : Int), .int (s2 : Int), .int (s3 : Int)]), v11, v12, v13, v14, v15, v16]) (by
    unfold digM at hdig
    unfold brdM at hlin
    simp only [xtupR, evPts, hdig, hlin, Option.bind_some]
    rfl)).trans ?_
  refine (xseq_to (xset_to ((ev_call2 (f := 6) (hbrd _ _ _ _ _) (b := .list [.int a0, .int a1, .int a2, .int a3]) rfl).trans k1))).trans ?_
  -- what is heard
  have e3 : ∀ (w12 w13 w14 : En), ev Φ1 labE3 [v0, .val (.list D), v2, v3, .val (.list bds), v5, .own ms, .own rs, .val (.int (b : Int)), .val (.list [.int a0, .int a1, .int a2, .int a3]), .val (.list [.int (s0 : Int), .int (s1 : Int), .int (s2 : Int), .int (s3 : Int)]), .val (.str X), w12, w13, w14, v15, v16] = some (.list (tell (-1) us)) := by
    intro w12 w13 w14
    have hg : ev Φ1 (.gen (.call 3 (.cons (.var 11) (.nil)))) [v0, .val (.list D), v2, v3, .val (.list bds), v5, .own ms, .own rs, .val (.int (b : Int)), .val (.list [.int a0, .int a1, .int a2, .int a3]), .val (.list [.int (s0 : Int), .int (s1 : Int), .int (s2 : Int), .int (s3 : Int)]), .val (.str X), w12, w13, w14, v15, v16] = some (.list (tell (-1) us)) := by
      rw [ev_gen ((ev_call1 (f := 3) (a := .str X) rfl).trans k2) k3, k4]
    exact ev_comp0 hg (by rw [tell_len]; exact k7) (lcomp_id (ρ := [v0, .val (.list D), v2, v3, .val (.list bds), v5, .own ms, .own rs, .val (.int (b : Int)), .val (.list [.int a0, .int a1, .int a2, .int a3]), .val (.list [.int (s0 : Int), .int (s1 : Int), .int (s2 : Int), .int (s3 : Int)]), .val (.str X), w12, w13, w14, v15, v16]) (tell (-1) us))
  refine (xseq_to (xset_to (e3 _ _ _))).trans ?_
  refine (xseq_to (xif_no ((ev_op2 (o := .cmp .ne) (a := .list (tell (-1) us)) rfl ((ev_call2 (f := 7) (hbrd _ _ _ _ _) (b := .list [.int a0, .int a1, .int a2, .int a3]) rfl).trans k5)).trans (op_ne (ne_self k6))))).trans ?_
  obtain ⟨e, he, hev⟩ := end_ev (ρ := [v0, .val (.list D), v2, v3, .val (.list bds), v5, .own ms, .own rs, .val (.int (b : Int)), .val (.list [.int a0, .int a1, .int a2, .int a3]), .val (.list [.int (s0 : Int), .int (s1 : Int), .int (s2 : Int), .int (s3 : Int)]), .val (.str X), .val (.list (tell (-1) us)), v13, v14, v15, v16]) (a := a0) (R := [.int a1, .int a2, .int a3]) rfl
  refine (xseq_to (xapp_to (ds := ms) rfl ((ev_call2 (f := 8) (a := .list (tell (-1) us)) rfl hev).trans (lead_ok k6 k7 (R.lead e he))) (by omega))).trans ?_
  have hm : ev Φ1 (.oidx 6 (.var 8)) [v0, .val (.list D), v2, v3, .val (.list bds), v5, .own (ms ++ [.str (mgP [s0, s1, s2, s3])]), .own rs, .val (.int (b : Int)), .val (.list [.int a0, .int a1, .int a2, .int a3]), .val (.list [.int (s0 : Int), .int (s1 : Int), .int (s2 : Int), .int (s3 : Int)]), .val (.str X), .val (.list (tell (-1) us)), v13, v14, v15, v16] = some (.str (mgP [s0, s1, s2, s3])) := by
    rw [ev_ownAt (ds := ms ++ [.str (mgP [s0, s1, s2, s3])]) (d := .int (b : Int)) rfl rfl, idx_nat (by omega), ← hms]
    simp
  refine (xseq_to (xif_no ((ev_op2 (o := .cmp .ne) hm (margin_ev R.small)).trans (op_ne (ne_str (tabs_low _)))))).trans ?_
  refine (xseq_to (xapp_to (ds := rs) rfl ((ev_call1 (f := 10) (a := .list [.int (s0 : Int), .int (s1 : Int), .int (s2 : Int), .int (s3 : Int)]) rfl).trans R.rooks) (by omega))).trans ?_
  refine (xseq_to (xset_to (tries_ev k10 (fun v17 => hbrd _ _ _ _ _)))).trans ?_
  refine (xseq_to (xset_to (taken_ev (r0 := r0) (r1 := r1) (r2 := r2) (r3 := r3) (r4 := r4) hb (by rw [← hrs]; simp)))).trans ?_
  refine xif_no ?_
  have hz : ∀ z, z < 5 → f_check_parenthesis [.str (List.replicate z 40 ++ [c0, c1, c2, c3, c4, c5, c6, c7] ++ List.replicate z 41)] = some (.bool (decide (([r0, r1, r2, r3, r4] : List Int).getD (4 - z) 0 > 0))) := by
    intro z hz
    rw [check_plain (fun d hd => ?_) (by simp; omega), R.chk z hz]
    rw [List.mem_append, List.mem_append, List.mem_replicate, List.mem_replicate] at hd
    rcases hd with (h | h) | h
    · exact .inl h.2
    · exact hbr d h
    · exact .inr h.2
  have h5 : chkL 0 [c0, c1, c2, c3, c4, c5, c6, c7] = decide (r4 > 0) := by
    have := R.chk 0 (by omega)
    simpa using this
  rw [h5] at k8
  rw [R.chk'] at k9
  have hp : ∀ p ∈ (((List.range 5).map fun z => List.replicate z 40 ++ [c0, c1, c2, c3, c4, c5, c6, c7] ++ List.replicate z 41) ++ [X, 40 :: X]).zip [decide (r4 > 0), decide (r3 > 0), decide (r2 > 0), decide (r1 > 0), decide (r0 > 0), decide (r4 > 0), false], f_check_parenthesis [.str p.1] = some (.bool p.2) := by
    intro p hp
    have e : (((List.range 5).map fun z => List.replicate z 40 ++ [c0, c1, c2, c3, c4, c5, c6, c7] ++ List.replicate z 41) ++ [X, 40 :: X]).zip [decide (r4 > 0), decide (r3 > 0), decide (r2 > 0), decide (r1 > 0), decide (r0 > 0), decide (r4 > 0), false]
      = [(List.replicate 0 40 ++ [c0, c1, c2, c3, c4, c5, c6, c7] ++ List.replicate 0 41, decide (r4 > 0)), (List.replicate 1 40 ++ [c0, c1, c2, c3, c4, c5, c6, c7] ++ List.replicate 1 41, decide (r3 > 0)), (List.replicate 2 40 ++ [c0, c1, c2, c3, c4, c5, c6, c7] ++ List.replicate 2 41, decide (r2 > 0)), (List.replicate 3 40 ++ [c0, c1, c2, c3, c4, c5, c6, c7] ++ List.replicate 3 41, decide (r1 > 0)), (List.replicate 4 40 ++ [c0, c1, c2, c3, c4, c5, c6, c7] ++ List.replicate 4 41, decide (r0 > 0)), (X, decide (r4 > 0)), (40 :: X, false)] := rfl
    rw [e] at hp
    simp only [List.mem_cons, List.not_mem_nil, or_false] at hp
    rcases hp with rfl | rfl | rfl | rfl | rfl | rfl | rfl
    · exact hz 0 (by omega)
    · exact hz 1 (by omega)
    · exact hz 2 (by omega)
    · exact hz 3 (by omega)
    · exact hz 4 (by omega)
    · exact k8
    · exact k9
  have hc := chks_ev (ρ := [v0, .val (.list D), v2, v3, .val (.list bds), v5, .own (ms ++ [.str (mgP [s0, s1, s2, s3])]), .own (rs ++ [.list [.int r0, .int r1, .int r2, .int r3, .int r4]]), .val (.int (b : Int)), .val (.list [.int a0, .int a1, .int a2, .int a3]), .val (.list [.int (s0 : Int), .int (s1 : Int), .int (s2 : Int), .int (s3 : Int)]), .val (.str X), .val (.list (tell (-1) us)), .val (.list ((((List.range 5).map fun z => List.replicate z 40 ++ [c0, c1, c2, c3, c4, c5, c6, c7] ++ List.replicate z 41) ++ [X, 40 :: X]).map .str)), .val (.list ((takes r0 r1 r2 r3 r4).map .str)), v15, v16]) rfl (cs := [decide (r4 > 0), decide (r3 > 0), decide (r2 > 0), decide (r1 > 0), decide (r0 > 0), decide (r4 > 0), false]) rfl hp
  have hcc := ev_comp0 (src := .var 13) (t := .const (.bool true)) (n := 0) rfl (by simp) hc
  refine (ev_op2 (o := .cmp .ne) hcc (b := .list ((takes r0 r1 r2 r3 r4).map .str)) rfl).trans (op_ne ?_)
  refine ne_strs (l := takes r0 r1 r2 r3 r4) fun y hy => ?_
  simp only [takes, List.mem_cons, List.not_mem_nil, or_false] at hy
  rcases hy with rfl | rfl | rfl | rfl | rfl | rfl | rfl <;> exact boolS_low _
theorem rook5 {r : List Int} {c : List Nat} (h : (r, c) ∈ classes) : ∃ r0 r1 r2 r3 r4, r = [r0, r1, r2, r3, r4] := by
  have := of_all classes_shape h
  simp only [Bool.and_eq_true, beq_iff_eq] at this
  exact len5 this.1.1.1.1
theorem turn {v0 v2 v3 v5 v9 v10 v11 v12 v13 v14 v15 v16 : En} {D bds ms rs : List Dv} {b : Nat} {x : List Nat} {s0 s1 s2 s3 : Nat} {r : List Int} {c : List Nat} {a0 a1 a2 a3 : Int} (R : RowOk x s0 s1 s2 s3 r c) (hb : b ≤ 100)
    (hbd : bds[b]? = some (.str x)) (hms : ms.length = b) (hrs : rs.length = b)
    (hdig : ev Φ1 digM [v0, .val (.list D), v2, v3, .val (.list bds), v5, .own ms, .own rs, .val (.int (b : Int)), v9, v10, v11, v12, v13, v14, v15, v16] = some (.list [.int a0, .int a1, .int a2, .int a3])) :
    ∃ v9' v10' v11' v12' v13' v14', laBody [v0, .val (.list D), v2, v3, .val (.list bds), v5, .own ms, .own rs, .val (.int (b : Int)), v9, v10, v11, v12, v13, v14, v15, v16]
      = some (.next [v0, .val (.list D), v2, v3, .val (.list bds), v5, .own (ms ++ [.str (mgP [s0, s1, s2, s3])]), .own (rs ++ [.list (r.map .int)]), .val (.int (b : Int)), v9', v10', v11', v12', v13', v14', v15, v16]) := by
  obtain ⟨r0, r1, r2, r3, r4, rfl⟩ := rook5 R.cls
  exact turn1 R hb hbd hms hrs hdig
end Mine

set_option maxHeartbeats 4000000
namespace Mine
open PySem PySem.W PyProof.Rows

theorem pick_take {α : Type} (ds : List α) (b : Nat) : lpick ds none (some (b : Int)) none = ds.take b := by
  rcases Nat.le_total b ds.length with h | h
  · exact pick_b ds b h
  · have e : sliceBounds none (some (b : Int)) none ds.length = sliceBounds none (some ((ds.length : Nat) : Int)) none ds.length := by
      unfold sliceBounds; simp; omega
    have := pick_b ds ds.length (Nat.le_refl _)
    unfold lpick at this ⊢
    rw [e, this, List.take_of_length_le (Nat.le_refl _), List.take_of_length_le h]
theorem sl_take {ds : List Dv} {b : Nat} (hl : ds.length ≤ 1000) : slApp (.list ds) .none (.int (b : Int)) .none = some (.list (ds.take b)) := by
  unfold slApp
  simp only [partOf, Option.bind_some, if_neg (show ¬ ((none : Option Int) = some 0) from by simp)]
  rw [if_pos (by omega), pick_take]
theorem eight {l : List Int} (h : l.length = 8) : ∃ d0 d1 d2 d3 d4 d5 d6 d7, l = [d0, d1, d2, d3, d4, d5, d6, d7] := len8 h
theorem drawn_ok (ns : List Int) (h : ns.length ≤ 63) (l : List En) : ∃ d0 d1 d2 d3 d4 d5 d6 d7 : Int, ev Φ1 laE0 (.val (.list (ns.map .int)) :: l) = some (.list [.int d0, .int d1, .int d2, .int d3, .int d4, .int d5, .int d6, .int d7]) := by
  obtain ⟨d0, d1, d2, d3, d4, d5, d6, d7, e⟩ := eight (l := (ns.take 8 ++ [520, 89, 363, 318, 968, 26, 106, 150]).take 8) (by simp)
  refine ⟨d0, d1, d2, d3, d4, d5, d6, d7, ?_⟩
  have s1 : ev Φ1 (.op .sl (.cons (.var 0) (.cons (.const .none) (.cons (.const (.int 8)) (.cons (.const .none) .nil))))) (.val (.list (ns.map .int)) :: l) = some (.list ((ns.take 8).map .int)) := by
    rw [ev_op4 (a := .list (ns.map .int)) (b := .none) (c := .int ((8 : Nat) : Int)) (d := .none) rfl rfl rfl rfl, sl_app, sl_take (by rw [List.length_map]; omega), List.map_take]
  have s2 : ev Φ1 (.op (.bin .add) (.cons (.op .sl (.cons (.var 0) (.cons (.const .none) (.cons (.const (.int 8)) (.cons (.const .none) .nil))))) (.cons (.cons (.const (.int 520)) (.cons (.const (.int 89)) (.cons (.const (.int 363)) (.cons (.const (.int 318)) (.cons (.const (.int 968)) (.cons (.const (.int 26)) (.cons (.const (.int 106)) (.cons (.const (.int 150)) (.nil))))))))) .nil))) (.val (.list (ns.map .int)) :: l) = some (.list ((ns.take 8 ++ [520, 89, 363, 318, 968, 26, 106, 150]).map .int)) := by
    refine (ev_op2 s1 (b := .list (([520, 89, 363, 318, 968, 26, 106, 150] : List Int).map .int)) rfl).trans ?_
    simp only [op_bin, b_add_int, b_add_str, b_add_list, b_mul_int, b_mul_str, b_mul_list]
    rw [if_pos (by simp; omega), List.map_append]
  unfold laE0
  rw [ev_op4 s2 (b := .none) (c := .int ((8 : Nat) : Int)) (d := .none) rfl rfl rfl, sl_app, sl_take (by simp; omega), ← List.map_take, e]
  rfl
end Mine

set_option maxHeartbeats 4000000
namespace Mine
open PySem PySem.W PyProof.Rows

theorem ev_compS {Φ : Nat → List Dv → Option Dv} {e src t : ME} {n : Nat} {ρ : List En} {x : List Nat} {ys : List Dv} (hs : ev Φ src ρ = some (.str x)) (hl : x.length ≤ 1000) (h : lcomp (ev Φ t) (ev Φ e) n ρ (x.map fun c => .str [c]) = some ys) : ev Φ (.comp e n src t) ρ = some (.list ys) := by
  have hi : items (.str x) = some (x.map fun c => .str [c]) := by
    show (if x.length ≤ 100000 then _ else none) = _
    rw [if_pos (by omega)]
  simp only [ev] at *
  rw [hs, Option.bind_some, hi, Option.bind_some, h]
  rfl
/-- read backwards, the brackets turned -/
noncomputable def mirL (x : List Nat) : List Nat := x.reverse.map fun c => if c = 40 then 41 else 40
theorem mir_rows : ((rows 4).all fun x => (rows 4).contains (mirL x)) = true := by decide +kernel
theorem mir_ev {v0 v1 v3 : En} {l : List En} {x : List Nat} (hx : x.length = 8) (hb : ∀ c ∈ x, br c) (hl : l.length = 13) :
    ev Φ1 (.op (.meth .join) (.cons (.const (.str [])) (.cons (.comp (.ite (.op (.cmp .eq) (.cons (.var 17) (.cons (.const (.str [40])) .nil))) (.const (.str [41])) (.const (.str [40]))) 0 (.op .sl (.cons (.var 2) (.cons (.const .none) (.cons (.const .none) (.cons (.op .neg (.cons (.const (.int 1)) .nil)) .nil))))) (.const (.bool true))) .nil))) (v0 :: v1 :: .val (.str x) :: v3 :: l) = some (.str (mirL x)) := by
  obtain ⟨c0, c1, c2, c3, c4, c5, c6, c7, rfl⟩ := row_shape hx
  have el : ∀ {ρ : List En} {c : Nat}, br c → ev Φ1 (.var 17) ρ = some (.str [c]) → ev Φ1 (.ite (.op (.cmp .eq) (.cons (.var 17) (.cons (.const (.str [40])) .nil))) (.const (.str [41])) (.const (.str [40]))) ρ = some (.str [if c = 40 then 41 else 40]) := by
    intro ρ c hc h
    have ht : ev Φ1 (.op (.cmp .eq) (.cons (.var 17) (.cons (.const (.str [40])) .nil))) ρ = some (.bool (c == 40)) := by
      rcases hc with rfl | rfl <;> exact (ev_op2 h (b := .str [40]) rfl).trans rfl
    simp only [ev] at ht ⊢
    rw [ht]
    rcases hc with rfl | rfl <;> rfl
  have hs : ev Φ1 (.op .sl (.cons (.var 2) (.cons (.const .none) (.cons (.const .none) (.cons (.op .neg (.cons (.const (.int 1)) .nil)) .nil))))) (v0 :: v1 :: .val (.str [c0, c1, c2, c3, c4, c5, c6, c7]) :: v3 :: l) = some (.str [c7, c6, c5, c4, c3, c2, c1, c0]) := by
    rw [ev_op4 (a := .str [c0, c1, c2, c3, c4, c5, c6, c7]) (b := .none) (c := .none) (d := .int (-1)) rfl rfl rfl rfl, sl_app]
    unfold slApp
    simp only [partOf, Option.bind_some]
    rw [if_neg (by decide), if_pos (by simp)]
    have hb8 : sliceRange (sliceBounds none none (some (-1)) 8).1 (sliceBounds none none (some (-1)) 8).2.1 (sliceBounds none none (some (-1)) 8).2.2 = [7, 6, 5, 4, 3, 2, 1, 0] := by decide +kernel
    have e : lpick [c0, c1, c2, c3, c4, c5, c6, c7] none none (some (-1)) = [c7, c6, c5, c4, c3, c2, c1, c0] := by
      show (sliceRange (sliceBounds none none (some (-1)) 8).1 (sliceBounds none none (some (-1)) 8).2.1 (sliceBounds none none (some (-1)) 8).2.2).filterMap (fun i => [c0, c1, c2, c3, c4, c5, c6, c7][i]?) = _
      rw [hb8]
      rfl
    rw [e]
  have st : ∀ (c : Nat) (ds ys : List Dv), c ∈ [c0, c1, c2, c3, c4, c5, c6, c7] → lcomp (ev Φ1 (.const (.bool true))) (ev Φ1 (.ite (.op (.cmp .eq) (.cons (.var 17) (.cons (.const (.str [40])) .nil))) (.const (.str [41])) (.const (.str [40])))) 0 (v0 :: v1 :: .val (.str [c0, c1, c2, c3, c4, c5, c6, c7]) :: v3 :: l) ds = some ys →
      lcomp (ev Φ1 (.const (.bool true))) (ev Φ1 (.ite (.op (.cmp .eq) (.cons (.var 17) (.cons (.const (.str [40])) .nil))) (.const (.str [41])) (.const (.str [40])))) 0 (v0 :: v1 :: .val (.str [c0, c1, c2, c3, c4, c5, c6, c7]) :: v3 :: l) (.str [c] :: ds) = some (.str [if c = 40 then 41 else 40] :: ys) :=
    fun c ds ys hc h => lcomp_to (ρ := v0 :: v1 :: .val (.str [c0, c1, c2, c3, c4, c5, c6, c7]) :: v3 :: l) (d := .str [c]) rfl (el (hb c hc) (by simp only [ev]; rw [List.getElem?_append_right (by simp; omega)]; simp [hl])) h
  have hc : ev Φ1 (.comp (.ite (.op (.cmp .eq) (.cons (.var 17) (.cons (.const (.str [40])) .nil))) (.const (.str [41])) (.const (.str [40]))) 0 (.op .sl (.cons (.var 2) (.cons (.const .none) (.cons (.const .none) (.cons (.op .neg (.cons (.const (.int 1)) .nil)) .nil))))) (.const (.bool true))) (v0 :: v1 :: .val (.str [c0, c1, c2, c3, c4, c5, c6, c7]) :: v3 :: l) = some (.list (([[if c7 = 40 then 41 else 40], [if c6 = 40 then 41 else 40], [if c5 = 40 then 41 else 40], [if c4 = 40 then 41 else 40], [if c3 = 40 then 41 else 40], [if c2 = 40 then 41 else 40], [if c1 = 40 then 41 else 40], [if c0 = 40 then 41 else 40]] : List (List Nat)).map .str)) := by
    have h := st c7 _ _ (by simp) (st c6 _ _ (by simp) (st c5 _ _ (by simp) (st c4 _ _ (by simp) (st c3 _ _ (by simp) (st c2 _ _ (by simp) (st c1 _ _ (by simp) (st c0 [] [] (by simp) rfl)))))))
    exact ev_compS hs (by simp) h
  refine (ev_op2 (a := .str []) rfl hc).trans ?_
  simp only [op_meth, Mop.app]
  rw [strs_map]
  simp only [Option.bind_some]
  rw [if_pos (by simp), glue_nil]
  simp [mirL]
end Mine

set_option maxHeartbeats 4000000
namespace Mine
open PySem PySem.W PyProof.Rows

theorem sl_ab {ds : List Dv} {a b : Nat} (ha : a ≤ ds.length) (hb : b ≤ ds.length) (hl : ds.length ≤ 1000) : slApp (.list ds) (.int (a : Int)) (.int (b : Int)) .none = some (.list ((ds.drop a).take (b - a))) := by
  unfold slApp
  simp only [partOf, Option.bind_some, if_neg (show ¬ ((none : Option Int) = some 0) from by simp)]
  rw [if_pos (by omega), pick_ab ds a b ha hb]
theorem sl_a {ds : List Dv} {a : Nat} (ha : a ≤ ds.length) (hl : ds.length ≤ 1000) : slApp (.list ds) (.int (a : Int)) .none .none = some (.list (ds.drop a)) := by
  unfold slApp
  simp only [partOf, Option.bind_some, if_neg (show ¬ ((none : Option Int) = some 0) from by simp)]
  rw [if_pos (by omega), pick_a ds a ha]
theorem op_mul {a b : Int} (h : small b = true) : (Op.bin .mul).app [.int a, .int b] = some (.int (a * b)) := if_pos h
theorem op_add (a b : Int) : (Op.bin .add).app [.int a, .int b] = some (.int (a + b)) := rfl
theorem dig_ev {v0 v2 v3 v4 v5 v6 v7 v9 v10 v11 v12 v13 v14 v15 v16 : En} {D : List Dv} {b : Nat} (hD : D.length = 8) (hb : b ≤ 2) : ev Φ1 digM [v0, .val (.list D), v2, v3, v4, v5, v6, v7, .val (.int (b : Int)), v9, v10, v11, v12, v13, v14, v15, v16] = some (.list ((D.drop (2 * b)).take 4)) := by
  unfold digM
  have e1 : ev Φ1 (.op (.bin .mul) (.cons (.const (.int 2)) (.cons (.var 8) .nil))) [v0, .val (.list D), v2, v3, v4, v5, v6, v7, .val (.int (b : Int)), v9, v10, v11, v12, v13, v14, v15, v16] = some (.int ((2 * b : Nat) : Int)) := by
    refine ((ev_op2 (o := .bin .mul) (a := .int 2) (b := .int (b : Int)) rfl rfl).trans (op_mul (small_of (by omega)))).trans ?_
    exact congrArg (fun z => some (Dv.int z)) (by omega)
  have e2 : ev Φ1 (.op (.bin .add) (.cons (.op (.bin .mul) (.cons (.const (.int 2)) (.cons (.var 8) .nil))) (.cons (.const (.int 4)) .nil))) [v0, .val (.list D), v2, v3, v4, v5, v6, v7, .val (.int (b : Int)), v9, v10, v11, v12, v13, v14, v15, v16] = some (.int ((2 * b + 4 : Nat) : Int)) := by
    refine ((ev_op2 (o := .bin .add) e1 (b := .int 4) rfl).trans (op_add _ _)).trans ?_
    exact congrArg (fun z => some (Dv.int z)) (by omega)
  rw [ev_op4 (a := .list D) (d := .none) rfl e1 e2 rfl, sl_app, sl_ab (by omega) (by omega) (by omega), show 2 * b + 4 - 2 * b = 4 from by omega]
end Mine

set_option maxHeartbeats 4000000
namespace Mine
open PySem PySem.W PyProof.Rows

/-- the three boards -/
theorem boards_ev {v0 v1 : En} {l : List En} {x y : List Nat} (hx : x.length = 8) (hb : ∀ c ∈ x, br c) (hl : l.length = 13) : ev Φ1 laE1 (v0 :: v1 :: .val (.str x) :: .val (.str y) :: l) = some (.list [.str x, .str (mirL x), .str y]) :=
  ev_cons (a := .str x) rfl (ev_cons (mir_ev hx hb hl) (ev_cons (A := .var 3) (B := .nil) (a := .str y) (l := []) rfl rfl))
theorem mir_mem {x : List Nat} (hx : x ∈ rows 4) : mirL x ∈ rows 4 := by
  have := of_all mir_rows hx
  simpa using this
end Mine

set_option maxHeartbeats 4000000
namespace Mine
open PySem PySem.W PyProof.Rows

noncomputable def laEnd : XF := xseq (xset Φ1 15 laE15) (xseq (xif Φ1 laE16 (xret Φ1 laE17) (xnil)) (xseq (xset Φ1 16 laE18) (xret Φ1 laE19)))
theorem pt_ok {D : List Int} : ∃ p : Int, p.natAbs ≤ 100 ∧ p = D.sum.fmod 201 - 100 := by
  obtain ⟨r, hr, e⟩ := fmod_lt D.sum 201 (by omega)
  refine ⟨D.sum.fmod 201 - 100, ?_, rfl⟩
  have e' : D.sum.fmod 201 = (r : Int) := e
  rw [e']
  omega
theorem pt_ev {v0 : En} {l : List En} (D : List Int) : ev Φ1 (.op (.bin .sub) (.cons (.op (.bin .mod) (.cons (.op (.fn .sum) (.cons (.var 1) (.nil))) (.cons (.const (.int 201)) .nil))) (.cons (.const (.int 100)) .nil))) (v0 :: .val (.list (D.map .int)) :: l) = some (.int (D.sum.fmod 201 - 100)) := by
  have hi : ∀ D : List Int, intsOf (D.map .int) = some D := by
    intro D
    induction D with
    | nil => rfl
    | cons a D ih => rw [List.map_cons, intsOf, ih]; rfl
  have h1 : ev Φ1 (.op (.fn .sum) (.cons (.var 1) (.nil))) (v0 :: .val (.list (D.map .int)) :: l) = some (.int D.sum) := by
    refine (ev_op1 (a := .list (D.map .int)) rfl).trans ?_
    show (intsOf (D.map .int)).map (fun ns => Dv.int ns.sum) = _
    rw [hi]; rfl
  have h2 := (ev_op2 (o := .bin .mod) (B := .const (.int 201)) (b := .int 201) h1 rfl).trans (show (Op.bin .mod).app [.int D.sum, .int 201] = some (.int (D.sum.fmod 201)) from rfl)
  exact (ev_op2 h2 (b := .int 100) rfl).trans rfl
end Mine

set_option maxHeartbeats 4000000
namespace Mine
open PySem PySem.W PyProof.Rows

/-- what the loop leaves: three boards, each with its lead and its rook numbers -/
structure Three (s t u : List Nat) (q r w : List Int) : Prop where
  one : ∃ x s0 s1 s2 s3 c, s = mgP [s0, s1, s2, s3] ∧ RowOk x s0 s1 s2 s3 q c
  two : ∃ x s0 s1 s2 s3 c, t = mgP [s0, s1, s2, s3] ∧ RowOk x s0 s1 s2 s3 r c
  three : ∃ x s0 s1 s2 s3 c, u = mgP [s0, s1, s2, s3] ∧ RowOk x s0 s1 s2 s3 w c
theorem head_ok (ns : List Int) (h : ns.length ≤ 63) : ∃ (s t u : List Nat) (q r w : List Int) (p : Int) (v0 v1 v2 v3 v4 v8 v9 v10 v11 v12 v13 v14 : En), Three s t u q r w ∧ p.natAbs ≤ 100 ∧
    laAll [.val (.list (ns.map .int)), .no, .no, .no, .no, .no, .no, .no, .no, .no, .no, .no, .no, .no, .no, .no, .no] = laEnd [v0, v1, v2, v3, v4, .val (.int p), .val (.list [.str s, .str t, .str u]), .val (.list [.list (q.map .int), .list (r.map .int), .list (w.map .int)]), v8, v9, v10, v11, v12, v13, v14, .no, .no] := by
  obtain ⟨d0, d1, d2, d3, d4, d5, d6, d7, hD⟩ := drawn_ok ns h [.no, .no, .no, .no, .no, .no, .no, .no, .no, .no, .no, .no, .no, .no, .no, .no]
  obtain ⟨x, hx, e1⟩ := row_ok d0 d1 d2 d3
  obtain ⟨y, hy, e2⟩ := row_ok d4 d5 d6 d7
  obtain ⟨s0, s1, s2, s3, q, c, R1⟩ := row_facts hx
  obtain ⟨t0, t1, t2, t3, r, c', R2⟩ := row_facts (mir_mem hx)
  obtain ⟨u0, u1, u2, u3, w, c'', R3⟩ := row_facts hy
  obtain ⟨p, hp, ep⟩ := pt_ok (D := [d0, d1, d2, d3, d4, d5, d6, d7])
  have hDl : ([.int d0, .int d1, .int d2, .int d3, .int d4, .int d5, .int d6, .int d7] : List Dv).length = 8 := rfl
  obtain ⟨a9, a10, a11, a12, a13, a14, T1⟩ := turn (v0 := .val (.list (ns.map .int))) (v2 := .val (.str x)) (v3 := .val (.str y)) (v5 := .val (.int p)) (v9 := .no) (v10 := .no) (v11 := .no) (v12 := .no) (v13 := .no) (v14 := .no) (v15 := .no) (v16 := .no) (D := [.int d0, .int d1, .int d2, .int d3, .int d4, .int d5, .int d6, .int d7]) (bds := [.str x, .str (mirL x), .str y]) (ms := []) (rs := []) (b := 0) R1 (by omega) rfl rfl rfl (dig_ev hDl (by omega))
  obtain ⟨b9, b10, b11, b12, b13, b14, T2⟩ := turn (v0 := .val (.list (ns.map .int))) (v2 := .val (.str x)) (v3 := .val (.str y)) (v5 := .val (.int p)) (v9 := a9) (v10 := a10) (v11 := a11) (v12 := a12) (v13 := a13) (v14 := a14) (v15 := .no) (v16 := .no) (D := [.int d0, .int d1, .int d2, .int d3, .int d4, .int d5, .int d6, .int d7]) (bds := [.str x, .str (mirL x), .str y]) (ms := [.str (mgP [s0, s1, s2, s3])]) (rs := [.list (q.map .int)]) (b := 1) R2 (by omega) rfl rfl rfl (dig_ev hDl (by omega))
  obtain ⟨c9, c10, c11, c12, c13, c14, T3⟩ := turn (v0 := .val (.list (ns.map .int))) (v2 := .val (.str x)) (v3 := .val (.str y)) (v5 := .val (.int p)) (v9 := b9) (v10 := b10) (v11 := b11) (v12 := b12) (v13 := b13) (v14 := b14) (v15 := .no) (v16 := .no) (D := [.int d0, .int d1, .int d2, .int d3, .int d4, .int d5, .int d6, .int d7]) (bds := [.str x, .str (mirL x), .str y]) (ms := [.str (mgP [s0, s1, s2, s3]), .str (mgP [t0, t1, t2, t3])]) (rs := [.list (q.map .int), .list (r.map .int)]) (b := 2) R3 (by omega) rfl rfl rfl (dig_ev hDl (by omega))
  refine ⟨mgP [s0, s1, s2, s3], mgP [t0, t1, t2, t3], mgP [u0, u1, u2, u3], _, _, _, p, .val (.list (ns.map .int)), .val (.list [.int d0, .int d1, .int d2, .int d3, .int d4, .int d5, .int d6, .int d7]), .val (.str x), .val (.str y), .val (.list [.str x, .str (mirL x), .str y]), .val (.int ((2 : Nat) : Int)), c9, c10, c11, c12, c13, c14,
    ⟨⟨x, s0, s1, s2, s3, c, rfl, R1⟩, ⟨mirL x, t0, t1, t2, t3, c', rfl, R2⟩, ⟨y, u0, u1, u2, u3, c'', rfl, R3⟩⟩, hp, ?_⟩
  unfold laAll
  refine (xseq_to (xset_to hD)).trans ?_
  have f1 : ∀ v2 v3 (l : List En), ev Φ1 (.call 5 (.cons (.op .sl (.cons (.var 1) (.cons (.const .none) (.cons (.const (.int 4)) (.cons (.const .none) .nil))))) (.nil))) (.val (.list (ns.map .int)) :: .val (.list [.int d0, .int d1, .int d2, .int d3, .int d4, .int d5, .int d6, .int d7]) :: v2 :: v3 :: l) = some (.str x) := by
    intro v2 v3 l
    have s1 : ev Φ1 (.op .sl (.cons (.var 1) (.cons (.const .none) (.cons (.const (.int 4)) (.cons (.const .none) .nil))))) (.val (.list (ns.map .int)) :: .val (.list [.int d0, .int d1, .int d2, .int d3, .int d4, .int d5, .int d6, .int d7]) :: v2 :: v3 :: l) = some (.list [.int d0, .int d1, .int d2, .int d3]) := by
      rw [ev_op4 (a := .list [.int d0, .int d1, .int d2, .int d3, .int d4, .int d5, .int d6, .int d7]) (b := .none) (c := .int ((4 : Nat) : Int)) (d := .none) rfl rfl rfl rfl, sl_app, sl_take (by simp)]
      rfl
    exact (ev_call1 s1).trans e1
  have f2 : ∀ v2 v3 (l : List En), ev Φ1 (.call 5 (.cons (.op .sl (.cons (.var 1) (.cons (.const (.int 4)) (.cons (.const .none) (.cons (.const .none) .nil))))) (.nil))) (.val (.list (ns.map .int)) :: .val (.list [.int d0, .int d1, .int d2, .int d3, .int d4, .int d5, .int d6, .int d7]) :: v2 :: v3 :: l) = some (.str y) := by
    intro v2 v3 l
    have s1 : ev Φ1 (.op .sl (.cons (.var 1) (.cons (.const (.int 4)) (.cons (.const .none) (.cons (.const .none) .nil))))) (.val (.list (ns.map .int)) :: .val (.list [.int d0, .int d1, .int d2, .int d3, .int d4, .int d5, .int d6, .int d7]) :: v2 :: v3 :: l) = some (.list [.int d4, .int d5, .int d6, .int d7]) := by
      rw [ev_op4 (a := .list [.int d0, .int d1, .int d2, .int d3, .int d4, .int d5, .int d6, .int d7]) (b := .int ((4 : Nat) : Int)) (c := .none) (d := .none) rfl rfl rfl rfl, sl_app, sl_a (by simp) (by simp)]
      rfl
    exact (ev_call1 s1).trans e2
  refine (xseq_to (ρ1 := [.val (.list (ns.map .int)), .val (.list [.int d0, .int d1, .int d2, .int d3, .int d4, .int d5, .int d6, .int d7]), .val (.str x), .val (.str y), .no, .no, .no, .no, .no, .no, .no, .no, .no, .no, .no, .no, .no]) (by
    simp only [xtupR, evPts]
    show (Option.bind (ev Φ1 _ (.val (.list (ns.map .int)) :: .val (.list [.int d0, .int d1, .int d2, .int d3, .int d4, .int d5, .int d6, .int d7]) :: .no :: .no :: [.no, .no, .no, .no, .no, .no, .no, .no, .no, .no, .no, .no, .no])) _).map _ = _
    rw [f1]
    simp only [Option.bind_some]
    show (Option.map _ (Option.bind (ev Φ1 _ (.val (.list (ns.map .int)) :: .val (.list [.int d0, .int d1, .int d2, .int d3, .int d4, .int d5, .int d6, .int d7]) :: .no :: .no :: [.no, .no, .no, .no, .no, .no, .no, .no, .no, .no, .no, .no, .no])) _)).map _ = _
    rw [f2]
    rfl)).trans ?_
  refine (xseq_to (xset_to (boards_ev (mem_len (k := 4) (by omega) hx) R1.brs rfl))).trans ?_
  have hpt := pt_ev (v0 := .val (.list (ns.map .int))) (l := [.val (.str x), .val (.str y), .val (.list [.str x, .str (mirL x), .str y]), .no, .no, .no, .no, .no, .no, .no, .no, .no, .no, .no, .no]) [d0, d1, d2, d3, d4, d5, d6, d7]
  rw [← ep] at hpt
  refine (xseq_to (ρ1 := [.val (.list (ns.map .int)), .val (.list [.int d0, .int d1, .int d2, .int d3, .int d4, .int d5, .int d6, .int d7]), .val (.str x), .val (.str y), .val (.list [.str x, .str (mirL x), .str y]), .val (.int p), .own [], .own [], .no, .no, .no, .no, .no, .no, .no, .no, .no]) (by
    simp only [xtup, evPts]
    show (Option.bind (ev Φ1 _ (.val (.list (ns.map .int)) :: .val (.list ([d0, d1, d2, d3, d4, d5, d6, d7].map .int)) :: [.val (.str x), .val (.str y), .val (.list [.str x, .str (mirL x), .str y]), .no, .no, .no, .no, .no, .no, .no, .no, .no, .no, .no, .no])) _).map _ = _
    rw [hpt]
    rfl)).trans ?_
  refine (xseq_to ((xfor_to (ds := [.int ((0 : Nat) : Int), .int ((1 : Nat) : Int), .int ((2 : Nat) : Int)]) rfl (by simp)).trans ((xloop_to rfl T1).trans ((xloop_to rfl T2).trans ((xloop_to rfl T3).trans rfl))))).trans ?_
  rfl
end Mine

set_option maxHeartbeats 4000000
namespace Mine
local macro_rules | `(tactic| omega) => `(tactic| lia)
open PySem PySem.W PyProof.Rows

/-! what the class made: its counts and its trail -/
noncomputable def ObjOk (d : Dv) (c : List Nat) (k : Nat) : Prop := ∃ fs, d = .obj 145 fs ∧ fs.lookup 3 = some (.tuple [.tuple (cD c), .int (k : Int)])
theorem mgP_len {s0 s1 s2 s3 : Nat} (h : s0 ≤ 4 ∧ s1 ≤ 4 ∧ s2 ≤ 4 ∧ s3 ≤ 4) : (mgP [s0, s1, s2, s3]).length ≤ 60 := by
  unfold mgP tabsT
  simp
  omega
theorem mk_elt {ρ : List En} {x : List Nat} {s0 s1 s2 s3 k : Nat} {r : List Int} {c : List Nat} (R : RowOk x s0 s1 s2 s3 r c) (hk : k ≤ 1) (h : ev Φ1 (.var 17) ρ = some (.str (mgP [s0, s1, s2, s3] ++ List.replicate k 32))) :
    ∃ d, ev Φ1 (.call 13 (.cons (.op (.bin .add) (.cons (.var 17) (.cons (.const (.str [120, 32, 9])) .nil))) (.nil))) ρ = some d ∧ ObjOk d c k := by
  have hl := mgP_len R.small
  have hs := R.small
  have h1 : ev Φ1 (.op (.bin .add) (.cons (.var 17) (.cons (.const (.str [120, 32, 9])) .nil))) ρ = some (.str (mgP [s0, s1, s2, s3] ++ List.replicate k 32 ++ [120, 32, 9])) := by
    refine (ev_op2 h (b := .str [120, 32, 9]) rfl).trans ?_
    simp only [op_bin, b_add_int, b_add_str, b_add_list, b_mul_int, b_mul_str, b_mul_list]
    rw [if_pos (by simp; omega)]
  obtain ⟨fs, e, hf⟩ := ws_ok [s0 + 4, 0, s1 + 3, s2 + 2, s3 + 1] k (by simp; omega) (by omega) (by
    have : tabsT [s0 + 4, 0, s1 + 3, s2 + 2, s3 + 1] = mgP [s0, s1, s2, s3] := rfl
    rw [this]; simp; omega)
  refine ⟨_, (ev_call1 h1).trans e, fs, rfl, ?_⟩
  rw [hf, R.cnt]
theorem Three.objs {s t u : List Nat} {q r w : List Int} (T : Three s t u q r w) {v0 v1 v2 v3 v4 v5 v7 v8 v9 v10 v11 v12 v13 v14 v15 v16 : En} :
    ∃ a b c d ca cb cc, ObjOk a ca 0 ∧ ObjOk b cb 0 ∧ ObjOk c cc 0 ∧ ObjOk d ca 1 ∧ (q, ca) ∈ classes ∧ (r, cb) ∈ classes ∧ (w, cc) ∈ classes ∧
      ev Φ1 laE15 [v0, v1, v2, v3, v4, v5, .val (.list [.str s, .str t, .str u]), v7, v8, v9, v10, v11, v12, v13, v14, v15, v16] = some (.list [a, b, c, d]) := by
  obtain ⟨x, s0, s1, s2, s3, ca, rfl, R1⟩ := T.one
  obtain ⟨y, t0, t1, t2, t3, cb, rfl, R2⟩ := T.two
  obtain ⟨z, u0, u1, u2, u3, cc, rfl, R3⟩ := T.three
  have hl := mgP_len R1.small
  obtain ⟨a, ea, oa⟩ := mk_elt (ρ := [v0, v1, v2, v3, v4, v5, .val (.list [.str (mgP [s0, s1, s2, s3]), .str (mgP [t0, t1, t2, t3]), .str (mgP [u0, u1, u2, u3])]), v7, v8, v9, v10, v11, v12, v13, v14, v15, v16] ++ [.val (.str (mgP [s0, s1, s2, s3]))]) (k := 0) R1 (by omega) (by simp [ev])
  obtain ⟨b, eb, ob⟩ := mk_elt (ρ := [v0, v1, v2, v3, v4, v5, .val (.list [.str (mgP [s0, s1, s2, s3]), .str (mgP [t0, t1, t2, t3]), .str (mgP [u0, u1, u2, u3])]), v7, v8, v9, v10, v11, v12, v13, v14, v15, v16] ++ [.val (.str (mgP [t0, t1, t2, t3]))]) (k := 0) R2 (by omega) (by simp [ev])
  obtain ⟨c, ec, oc⟩ := mk_elt (ρ := [v0, v1, v2, v3, v4, v5, .val (.list [.str (mgP [s0, s1, s2, s3]), .str (mgP [t0, t1, t2, t3]), .str (mgP [u0, u1, u2, u3])]), v7, v8, v9, v10, v11, v12, v13, v14, v15, v16] ++ [.val (.str (mgP [u0, u1, u2, u3]))]) (k := 0) R3 (by omega) (by simp [ev])
  obtain ⟨d, ed, od⟩ := mk_elt (ρ := [v0, v1, v2, v3, v4, v5, .val (.list [.str (mgP [s0, s1, s2, s3]), .str (mgP [t0, t1, t2, t3]), .str (mgP [u0, u1, u2, u3])]), v7, v8, v9, v10, v11, v12, v13, v14, v15, v16] ++ [.val (.str (mgP [s0, s1, s2, s3] ++ [32]))]) (k := 1) R1 (by omega) (by simp [ev])
  refine ⟨a, b, c, d, ca, cb, cc, oa, ob, oc, od, R1.cls, R2.cls, R3.cls, ?_⟩
  have h0 : ∀ ρ' : List En, ρ'[6]? = some (.val (.list [.str (mgP [s0, s1, s2, s3]), .str (mgP [t0, t1, t2, t3]), .str (mgP [u0, u1, u2, u3])])) → ev Φ1 (.op (.bin .add) (.cons (.var 6) (.cons (.cons (.op (.bin .add) (.cons (.op .idx (.cons (.var 6) (.cons (.const (.int 0)) .nil))) (.cons (.const (.str [32])) .nil))) (.nil)) .nil))) ρ' = some (.list [.str (mgP [s0, s1, s2, s3]), .str (mgP [t0, t1, t2, t3]), .str (mgP [u0, u1, u2, u3]), .str (mgP [s0, s1, s2, s3] ++ [32])]) := by
    intro ρ' h6
    have e6 : ev Φ1 (.var 6) ρ' = some (.list [.str (mgP [s0, s1, s2, s3]), .str (mgP [t0, t1, t2, t3]), .str (mgP [u0, u1, u2, u3])]) := by simp only [ev]; rw [h6]
    have e0 : ev Φ1 (.op .idx (.cons (.var 6) (.cons (.const (.int 0)) .nil))) ρ' = some (.str (mgP [s0, s1, s2, s3])) := (ev_op2 (o := .idx) e6 (b := .int 0) rfl).trans idx0
    have e1 : ev Φ1 (.op (.bin .add) (.cons (.op .idx (.cons (.var 6) (.cons (.const (.int 0)) .nil))) (.cons (.const (.str [32])) .nil))) ρ' = some (.str (mgP [s0, s1, s2, s3] ++ [32])) := by
      refine (ev_op2 e0 (b := .str [32]) rfl).trans ?_
      simp only [op_bin, b_add_int, b_add_str, b_add_list, b_mul_int, b_mul_str, b_mul_list]
      rw [if_pos (by simp; omega)]
    refine (ev_op2 e6 (ev_cons e1 (B := .nil) (l := []) rfl)).trans ?_
    simp only [op_bin, b_add_int, b_add_str, b_add_list, b_mul_int, b_mul_str, b_mul_list]
    rw [if_pos (by simp)]
    rfl
  unfold laE15
  exact ev_comp0 (h0 _ rfl) (by simp) (lcomp_to rfl ea (lcomp_to rfl eb (lcomp_to rfl ec (lcomp_to rfl ed rfl))))

/-- the norm's product is the rook polynomial -/
theorem poly_is {p : Int} {q : List Int} {c : List Nat} (hp : p.natAbs ≤ 100) (h : (q, c) ∈ classes) : prodF p 1 (c.drop 1) = waysL p q := by
  have h1 := of_all rook_theorem h
  have h2 := List.all_eq_true.mp h1 (p + 100).toNat (List.mem_range.mpr (by omega))
  rw [beq_iff_eq] at h2
  have e : (((p + 100).toNat : Nat) : Int) - 100 = p := by omega
  rw [e] at h2
  exact h2
noncomputable def normD (v : Int) : Dv := .list [.tuple [.int 1], .bool true, .int 0, .int v]
theorem norm_elt {ρ : List En} {d : Dv} {p : Int} {q : List Int} {c : List Nat} (hp : p.natAbs ≤ 100) (h : (q, c) ∈ classes) (o : ObjOk d c 0) (h17 : ev Φ1 (.var 17) ρ = some d) (h5 : ev Φ1 (.var 5) ρ = some (.int p)) :
    ev Φ1 (.call 12 (.cons (.var 17) (.cons (.var 5) (.nil)))) ρ = some (normD (waysL p q)) := by
  obtain ⟨fs, rfl, hf⟩ := o
  have hs := of_all classes_shape h
  simp only [Bool.and_eq_true, beq_iff_eq, List.all_eq_true, decide_eq_true_eq, bne_iff_ne] at hs
  obtain ⟨⟨⟨⟨_, h4⟩, hh⟩, hla⟩, hl⟩ := hs
  have h1 : 1 ≤ c.length := by
    cases c with
    | nil => simp at hh
    | cons _ _ => simp
  refine (ev_call2 h17 h5).trans ?_
  have e := norm_ok (x := p) hp hl h1 h4 hf hh hla
  rw [poly_is hp h] at e
  exact e
theorem ways_elt {ρ : List En} {p : Int} {q : List Int} {c : List Nat} (hp : p.natAbs ≤ 100) (h : (q, c) ∈ classes) (h17 : ev Φ1 (.var 17) ρ = some (.list (q.map .int))) (h5 : ev Φ1 (.var 5) ρ = some (.int p)) :
    ev Φ1 (.cons (.op .tup (.cons (.const (.int 1)) (.nil))) (.cons (.const (.bool true)) (.cons (.const (.int 0)) (.cons (.call 11 (.cons (.var 17) (.cons (.var 5) (.nil)))) (.nil))))) ρ = some (normD (waysL p q)) := by
  obtain ⟨q0, q1, q2, q3, q4, rfl⟩ := rook5 h
  have e : ev Φ1 (.call 11 (.cons (.var 17) (.cons (.var 5) (.nil)))) ρ = some (.int (waysL p [q0, q1, q2, q3, q4])) := (ev_call2 h17 h5).trans (ways_ok hp)
  exact ev_cons rfl (ev_cons rfl (ev_cons rfl (ev_cons e rfl)))
theorem ne_norms (a b c : Int) : Cop.ne.app (.list [normD a, normD b, normD c]) (.list [normD a, normD b, normD c]) = some false := by
  have h1 : Dv.lay 6 (.list [normD a, normD b, normD c]) = true := rfl
  have hn : ∀ v, Dv.eqv (normD v) (normD v) = true := fun v => by
    show ((((1 : Int) == 1) && true) && ((true == true) && (((0 : Int) == 0) && ((v == v) && true)))) = true
    rw [beq_self_eq_true v]; rfl
  have h2 : Dv.eqv (.list [normD a, normD b, normD c]) (.list [normD a, normD b, normD c]) = true := by
    show (Dv.eqv (normD a) (normD a) && (Dv.eqv (normD b) (normD b) && (Dv.eqv (normD c) (normD c) && true))) = true
    rw [hn, hn, hn]; rfl
  show (if Dv.lay 6 (.list [normD a, normD b, normD c]) && Dv.lay 6 (.list [normD a, normD b, normD c]) then some (!Dv.eqv (.list [normD a, normD b, normD c]) (.list [normD a, normD b, normD c])) else none) = _
  rw [h1, h2]; rfl
theorem norms_ev {s t u : List Nat} {q r w : List Int} {p : Int} {a b c d : Dv} {ca cb cc : List Nat} (hp : p.natAbs ≤ 100) (oa : ObjOk a ca 0) (ob : ObjOk b cb 0) (oc : ObjOk c cc 0) (hq : (q, ca) ∈ classes) (hr : (r, cb) ∈ classes) (hw : (w, cc) ∈ classes) {v0 v1 v2 v3 v4 v6 v8 v9 v10 v11 v12 v13 v14 v16 : En} :
    ev Φ1 laE16 [v0, v1, v2, v3, v4, .val (.int p), v6, .val (.list [.list (q.map .int), .list (r.map .int), .list (w.map .int)]), v8, v9, v10, v11, v12, v13, v14, .val (.list [a, b, c, d]), v16] = some (.bool false) := by
  have e1 : ∀ ρ : List En, ρ = [v0, v1, v2, v3, v4, .val (.int p), v6, .val (.list [.list (q.map .int), .list (r.map .int), .list (w.map .int)]), v8, v9, v10, v11, v12, v13, v14, .val (.list [a, b, c, d]), v16] →
      ev Φ1 (.comp (.call 12 (.cons (.var 17) (.cons (.var 5) (.nil)))) 0 (.op .sl (.cons (.var 15) (.cons (.const .none) (.cons (.const (.int 3)) (.cons (.const .none) .nil))))) (.const (.bool true))) ρ = some (.list [normD (waysL p q), normD (waysL p r), normD (waysL p w)]) := by
    intro ρ hρ
    have h15 : ev Φ1 (.var 15) ρ = some (.list [a, b, c, d]) := by rw [hρ]; rfl
    have hs : ev Φ1 (.op .sl (.cons (.var 15) (.cons (.const .none) (.cons (.const (.int 3)) (.cons (.const .none) .nil))))) ρ = some (.list [a, b, c]) := by
      rw [ev_op4 (a := .list [a, b, c, d]) (b := .none) (c := .int ((3 : Nat) : Int)) (d := .none) h15 rfl rfl rfl, sl_app, sl_take (by simp)]
      rfl
    refine ev_comp0 hs (by simp) (lcomp_to rfl (norm_elt hp hq oa ?_ ?_) (lcomp_to rfl (norm_elt hp hr ob ?_ ?_) (lcomp_to rfl (norm_elt hp hw oc ?_ ?_) rfl))) <;> (rw [hρ]; rfl)
  have e2 : ∀ ρ : List En, ρ = [v0, v1, v2, v3, v4, .val (.int p), v6, .val (.list [.list (q.map .int), .list (r.map .int), .list (w.map .int)]), v8, v9, v10, v11, v12, v13, v14, .val (.list [a, b, c, d]), v16] →
      ev Φ1 (.comp (.cons (.op .tup (.cons (.const (.int 1)) (.nil))) (.cons (.const (.bool true)) (.cons (.const (.int 0)) (.cons (.call 11 (.cons (.var 17) (.cons (.var 5) (.nil)))) (.nil))))) 0 (.var 7) (.const (.bool true))) ρ = some (.list [normD (waysL p q), normD (waysL p r), normD (waysL p w)]) := by
    intro ρ hρ
    have h7 : ev Φ1 (.var 7) ρ = some (.list [.list (q.map .int), .list (r.map .int), .list (w.map .int)]) := by rw [hρ]; rfl
    refine ev_comp0 h7 (by simp) (lcomp_to rfl (ways_elt hp hq ?_ ?_) (lcomp_to rfl (ways_elt hp hr ?_ ?_) (lcomp_to rfl (ways_elt hp hw ?_ ?_) rfl))) <;> (rw [hρ]; rfl)
  unfold laE16
  rw [ev_op2 (e1 _ rfl) (e2 _ rfl)]
  exact op_ne (ne_norms _ _ _)
end Mine

set_option maxHeartbeats 4000000
namespace Mine
open PySem PySem.W PyProof.Rows

theorem eqvs_cD : ∀ a b : List Nat, eqvs (cD a) (cD b) = (a == b)
  | [], [] => rfl
  | [], _ :: _ => rfl
  | _ :: _, [] => rfl
  | x :: a, y :: b => by
    have h := eqvs_cD a b
    have e1 : eqvs (cD (x :: a)) (cD (y :: b)) = (((x : Int) == (y : Int)) && eqvs (cD a) (cD b)) := rfl
    rw [e1, h]
    have e2 : ((x : Int) == (y : Int)) = (x == y) := by
      rw [Bool.eq_iff_iff, beq_iff_eq, beq_iff_eq]; omega
    rw [e2]
    rfl
theorem lays_cD : ∀ (a : List Nat) (n : Nat), lays n (cD a) = true
  | [], _ => rfl
  | x :: a, n => by
    have h := lays_cD a n
    have e : lays n (cD (x :: a)) = (Dv.lay n (.int (x : Int)) && lays n (cD a)) := rfl
    rw [e, h]
    cases n <;> rfl
theorem equal_ok {a b : Dv} {c c' : List Nat} {k k' : Nat} (oa : ObjOk a c k) (ob : ObjOk b c' k') : f_equal [a, b] = some (.bool ((c == c') && (k == k'))) := by
  obtain ⟨fs, rfl, hf⟩ := oa
  obtain ⟨gs, rfl, hg⟩ := ob
  have hl : ∀ (c : List Nat) (k : Nat), Dv.lay 6 (.tuple [.tuple (cD c), .int (k : Int)]) = true := by
    intro c k
    show (lays 4 (cD c) && (true && true)) = true
    rw [lays_cD]; rfl
  have hb : f_equal [.obj 145 fs, .obj 145 gs] = bodyOf 2 0 (x_Whitespace_equal 145 Φ0) [.obj 145 fs, .obj 145 gs] := by
    unfold f_equal gObj
    simp
  rw [hb]
  refine body_is rfl ?_
  show x_Whitespace_equal 145 Φ0 [.val (.obj 145 fs), .val (.obj 145 gs)] = _
  have h1 : ev Φ0 (.op (.attr 145 3) (.cons (.var 0) .nil)) [.val (.obj 145 fs), .val (.obj 145 gs)] = some (.tuple [.tuple (cD c), .int (k : Int)]) := (ev_op1 (a := .obj 145 fs) rfl).trans hf
  have h2 : ev Φ0 (.op (.attr 145 3) (.cons (.var 1) .nil)) [.val (.obj 145 fs), .val (.obj 145 gs)] = some (.tuple [.tuple (cD c'), .int (k' : Int)]) := (ev_op1 (a := .obj 145 gs) rfl).trans hg
  have h3 : Cop.eq.app (.tuple [.tuple (cD c), .int (k : Int)]) (.tuple [.tuple (cD c'), .int (k' : Int)]) = some ((c == c') && (k == k')) := by
    show (if Dv.lay 6 _ && Dv.lay 6 _ then some (Dv.eqv (.tuple [.tuple (cD c), .int (k : Int)]) (.tuple [.tuple (cD c'), .int (k' : Int)])) else none) = _
    rw [hl, hl]
    have e : Dv.eqv (.tuple [.tuple (cD c), .int (k : Int)]) (.tuple [.tuple (cD c'), .int (k' : Int)]) = (eqvs (cD c) (cD c') && (((k : Int) == (k' : Int)) && true)) := rfl
    have e2 : ((k : Int) == (k' : Int)) = (k == k') := by
      rw [Bool.eq_iff_iff, beq_iff_eq, beq_iff_eq]; omega
    rw [e, eqvs_cD, e2, Bool.and_true (k == k')]
    rfl
  unfold x_Whitespace_equal xret
  rw [ev_op2 h1 h2]
  show (((Cop.eq.app _ _).map Dv.bool).map Out.ret) = _
  rw [h3]
  rfl
theorem lcomp_two {t e : List En → Option Dv} {ρ : List En} {a b y : Dv} {r ys : List Dv} (ht : t (ρ ++ [En.val a, En.val b]) = some (.bool true)) (he : e (ρ ++ [En.val a, En.val b]) = some y) (hr : lcomp t e 2 ρ r = some ys) : lcomp t e 2 ρ (.tuple [a, b] :: r) = some (y :: ys) := by
  rw [lcomp]
  show (match t (ρ ++ [En.val a, En.val b]) with | some (.bool true) => (e (ρ ++ [En.val a, En.val b])).bind fun y => (lcomp t e 2 ρ r).map (y :: ·) | some (.bool false) => lcomp t e 2 ρ r | _ => none) = _
  rw [ht]
  show ((e (ρ ++ [En.val a, En.val b])).bind fun y => (lcomp t e 2 ρ r).map (y :: ·)) = _
  rw [he, hr]
  rfl
theorem ev_comp2 {Φ : Nat → List Dv → Option Dv} {e src t : ME} {ρ : List En} {ds ys : List Dv} (hs : ev Φ src ρ = some (.list ds)) (hl : ds.length ≤ 1000) (h : lcomp (ev Φ t) (ev Φ e) 2 ρ ds = some ys) : ev Φ (.comp e 2 src t) ρ = some (.list ys) := by
  simp only [ev] at *
  rw [hs, Option.bind_some, items_is hl, Option.bind_some, h]
  rfl
noncomputable def pairD (y z : Nat) : Dv := .tuple [.int (y : Int), .int (z : Int)]
theorem idx_at {ρ : List En} {i j : Nat} {ds : List Dv} {d : Dv} {n : Nat} (hi : ev Φ1 (.var i) ρ = some (.list ds)) (hj : ev Φ1 (.var j) ρ = some (.int (n : Int))) (hn : n ≤ 1000) (hd : ds[n]? = some d) : ev Φ1 (.op .idx (.cons (.var i) (.cons (.var j) .nil))) ρ = some d :=
  ((ev_op2 hi hj).trans (idx_app _ _)).trans ((idx_nat hn).trans hd)
theorem left_elt {ρ : List En} {L : List Dv} {y z : Nat} {a b : Dv} {c c' : List Nat} {k k' : Nat} {v : Bool} (h15 : ev Φ1 (.var 15) ρ = some (.list L)) (h17 : ev Φ1 (.var 17) ρ = some (.int (y : Int))) (h18 : ev Φ1 (.var 18) ρ = some (.int (z : Int))) (hy : y ≤ 10) (hz : z ≤ 10) (ha : L[y]? = some a) (hb : L[z]? = some b) (oa : ObjOk a c k) (ob : ObjOk b c' k') (hv : ((c == c') && (k == k')) = v) :
    ev Φ1 (.op (.fn .str) (.cons (.call 14 (.cons (.op .idx (.cons (.var 15) (.cons (.var 17) .nil))) (.cons (.op .idx (.cons (.var 15) (.cons (.var 18) .nil))) .nil))) (.nil))) ρ = some (.str (boolS v)) := by
  have h1 : ev Φ1 (.call 14 (.cons (.op .idx (.cons (.var 15) (.cons (.var 17) .nil))) (.cons (.op .idx (.cons (.var 15) (.cons (.var 18) .nil))) .nil))) ρ = some (.bool v) :=
    ((ev_call2 (f := 14) (idx_at h15 h17 (by omega) ha) (idx_at h15 h18 (by omega) hb)).trans (equal_ok oa ob)).trans (by rw [hv])
  exact (ev_op1 h1).trans rfl
theorem eqvs_ints : ∀ a b : List Int, eqvs (a.map .int) (b.map .int) = (a == b)
  | [], [] => rfl
  | [], _ :: _ => rfl
  | _ :: _, [] => rfl
  | x :: a, y :: b => by
    have h := eqvs_ints a b
    have e1 : eqvs ((x :: a).map Dv.int) ((y :: b).map Dv.int) = ((x == y) && eqvs (a.map Dv.int) (b.map Dv.int)) := rfl
    rw [e1, h]
    rfl
theorem lays_ints : ∀ (a : List Int) (n : Nat), lays n (a.map .int) = true
  | [], _ => rfl
  | x :: a, n => by
    have h := lays_ints a n
    show (Dv.lay n (.int x) && lays n (a.map .int)) = true
    rw [h]
    cases n <;> rfl
theorem ev_and_true {Φ : Nat → List Dv → Option Dv} {A B : ME} {ρ : List En} (h : ev Φ A ρ = some (.bool true)) : ev Φ (.and A B) ρ = ev Φ B ρ := by simp only [ev, h]
theorem ev_and_false {Φ : Nat → List Dv → Option Dv} {A B : ME} {ρ : List En} (h : ev Φ A ρ = some (.bool false)) : ev Φ (.and A B) ρ = some (.bool false) := by simp only [ev, h]
theorem right_elt {ρ : List En} {L : List Dv} {y z : Nat} {q r : List Int} {v : Bool} (h7 : ev Φ1 (.var 7) ρ = some (.list L)) (h17 : ev Φ1 (.var 17) ρ = some (.int (y : Int))) (h18 : ev Φ1 (.var 18) ρ = some (.int (z : Int))) (hy : y ≤ 10) (hz : z < 3) (ha : L[y]? = some (.list (q.map .int))) (hb : L[z]? = some (.list (r.map .int))) (hv : (q == r) = v) :
    ev Φ1 (.op (.fn .str) (.cons (.and (.op (.cmp .lt) (.cons (.var 18) (.cons (.const (.int 3)) .nil))) (.op (.cmp .eq) (.cons (.op .idx (.cons (.var 7) (.cons (.var 17) .nil))) (.cons (.op .idx (.cons (.var 7) (.cons (.var 18) .nil))) .nil)))) (.nil))) ρ = some (.str (boolS v)) := by
  have h0 : ev Φ1 (.op (.cmp .lt) (.cons (.var 18) (.cons (.const (.int 3)) .nil))) ρ = some (.bool true) := by
    refine (ev_op2 h18 (b := .int 3) rfl).trans ?_
    show some (Dv.bool (decide ((z : Int) < 3))) = _
    rw [decide_eq_true (by omega)]
  have h3 : Cop.eq.app (.list (q.map .int)) (.list (r.map .int)) = some v := by
    show (if Dv.lay 6 _ && Dv.lay 6 _ then some (Dv.eqv (.list (q.map .int)) (.list (r.map .int))) else none) = _
    have hl : ∀ q : List Int, Dv.lay 6 (.list (q.map .int)) = true := fun q => lays_ints q 5
    rw [hl, hl]
    have e : Dv.eqv (.list (q.map .int)) (.list (r.map .int)) = eqvs (q.map .int) (r.map .int) := rfl
    rw [e, eqvs_ints, hv]
    rfl
  have h1 : ev Φ1 (.op (.cmp .eq) (.cons (.op .idx (.cons (.var 7) (.cons (.var 17) .nil))) (.cons (.op .idx (.cons (.var 7) (.cons (.var 18) .nil))) .nil))) ρ = some (.bool v) := by
    refine (ev_op2 (idx_at h7 h17 (by omega) ha) (idx_at h7 h18 (by omega) hb)).trans ?_
    show (Cop.eq.app _ _).map Dv.bool = _
    rw [h3]; rfl
  have h2 : ev Φ1 (.and (.op (.cmp .lt) (.cons (.var 18) (.cons (.const (.int 3)) .nil))) (.op (.cmp .eq) (.cons (.op .idx (.cons (.var 7) (.cons (.var 17) .nil))) (.cons (.op .idx (.cons (.var 7) (.cons (.var 18) .nil))) .nil)))) ρ = some (.bool v) := by
    exact (ev_and_true h0).trans h1
  exact (ev_op1 h2).trans rfl
theorem right_no {ρ : List En} (h18 : ev Φ1 (.var 18) ρ = some (.int 3)) :
    ev Φ1 (.op (.fn .str) (.cons (.and (.op (.cmp .lt) (.cons (.var 18) (.cons (.const (.int 3)) .nil))) (.op (.cmp .eq) (.cons (.op .idx (.cons (.var 7) (.cons (.var 17) .nil))) (.cons (.op .idx (.cons (.var 7) (.cons (.var 18) .nil))) .nil)))) (.nil))) ρ = some (.str (boolS false)) := by
  have h0 : ev Φ1 (.op (.cmp .lt) (.cons (.var 18) (.cons (.const (.int 3)) .nil))) ρ = some (.bool false) := (ev_op2 h18 (b := .int 3) rfl).trans rfl
  have h2 : ev Φ1 (.and (.op (.cmp .lt) (.cons (.var 18) (.cons (.const (.int 3)) .nil))) (.op (.cmp .eq) (.cons (.op .idx (.cons (.var 7) (.cons (.var 17) .nil))) (.cons (.op .idx (.cons (.var 7) (.cons (.var 18) .nil))) .nil)))) ρ = some (.bool false) := by
    exact ev_and_false h0
  exact (ev_op1 h2).trans rfl
theorem apart {q r : List Int} {c c' : List Nat} (h : (q, c) ∈ classes) (h' : (r, c') ∈ classes) : (q == r) = (c == c') := by
  have h1 := of_all classes_apart h
  have h2 := List.all_eq_true.mp h1 _ h'
  exact eq_of_beq h2
theorem eq_strs' {l : List (List Nat)} (h : ∀ y ∈ l, lowB y = true) : Op.app (.cmp .eq) [.list (l.map .str), .list (l.map .str)] = some (.bool true) := by
  show (Cop.eq.app _ _).map Dv.bool = _
  rw [eq_strs h]; rfl
theorem pairs_ev {q r w : List Int} {a b c d : Dv} {ca cb cc : List Nat} (oa : ObjOk a ca 0) (ob : ObjOk b cb 0) (oc : ObjOk c cc 0) (od : ObjOk d ca 1) (hq : (q, ca) ∈ classes) (hr : (r, cb) ∈ classes) (hw : (w, cc) ∈ classes) {v0 v1 v2 v3 v4 v5 v6 v8 v9 v10 v11 v12 v13 v14 : En} :
    ev Φ1 laE19 [v0, v1, v2, v3, v4, v5, v6, .val (.list [.list (q.map .int), .list (r.map .int), .list (w.map .int)]), v8, v9, v10, v11, v12, v13, v14, .val (.list [a, b, c, d]), .val (.list [pairD 0 1, pairD 0 2, pairD 1 2, pairD 0 3])] = some (.bool true) := by
  have e1 : ∀ ρ : List En, ρ = [v0, v1, v2, v3, v4, v5, v6, .val (.list [.list (q.map .int), .list (r.map .int), .list (w.map .int)]), v8, v9, v10, v11, v12, v13, v14, .val (.list [a, b, c, d]), .val (.list [pairD 0 1, pairD 0 2, pairD 1 2, pairD 0 3])] →
      ev Φ1 (.comp (.op (.fn .str) (.cons (.call 14 (.cons (.op .idx (.cons (.var 15) (.cons (.var 17) .nil))) (.cons (.op .idx (.cons (.var 15) (.cons (.var 18) .nil))) .nil))) (.nil))) 2 (.var 16) (.const (.bool true))) ρ = some (.list ([boolS (ca == cb), boolS (ca == cc), boolS (cb == cc), boolS false].map .str)) := by
    intro ρ hρ
    have h16 : ev Φ1 (.var 16) ρ = some (.list [pairD 0 1, pairD 0 2, pairD 1 2, pairD 0 3]) := by rw [hρ]; rfl
    refine ev_comp2 h16 (by simp) (lcomp_two rfl (left_elt (L := [a, b, c, d]) (y := 0) (z := 1) ?_ ?_ ?_ (by omega) (by omega) rfl rfl oa ob (by simp)) (lcomp_two rfl (left_elt (L := [a, b, c, d]) (y := 0) (z := 2) ?_ ?_ ?_ (by omega) (by omega) rfl rfl oa oc (by simp)) (lcomp_two rfl (left_elt (L := [a, b, c, d]) (y := 1) (z := 2) ?_ ?_ ?_ (by omega) (by omega) rfl rfl ob oc (by simp)) (lcomp_two rfl (left_elt (L := [a, b, c, d]) (y := 0) (z := 3) ?_ ?_ ?_ (by omega) (by omega) rfl rfl oa od (by simp)) rfl)))) <;> (rw [hρ]; rfl)
  have e2 : ∀ ρ : List En, ρ = [v0, v1, v2, v3, v4, v5, v6, .val (.list [.list (q.map .int), .list (r.map .int), .list (w.map .int)]), v8, v9, v10, v11, v12, v13, v14, .val (.list [a, b, c, d]), .val (.list [pairD 0 1, pairD 0 2, pairD 1 2, pairD 0 3])] →
      ev Φ1 (.comp (.op (.fn .str) (.cons (.and (.op (.cmp .lt) (.cons (.var 18) (.cons (.const (.int 3)) .nil))) (.op (.cmp .eq) (.cons (.op .idx (.cons (.var 7) (.cons (.var 17) .nil))) (.cons (.op .idx (.cons (.var 7) (.cons (.var 18) .nil))) .nil)))) (.nil))) 2 (.var 16) (.const (.bool true))) ρ = some (.list ([boolS (ca == cb), boolS (ca == cc), boolS (cb == cc), boolS false].map .str)) := by
    intro ρ hρ
    have h16 : ev Φ1 (.var 16) ρ = some (.list [pairD 0 1, pairD 0 2, pairD 1 2, pairD 0 3]) := by rw [hρ]; rfl
    refine ev_comp2 h16 (by simp) (lcomp_two rfl (right_elt (L := [.list (q.map .int), .list (r.map .int), .list (w.map .int)]) (y := 0) (z := 1) ?_ ?_ ?_ (by omega) (by omega) rfl rfl (apart hq hr)) (lcomp_two rfl (right_elt (L := [.list (q.map .int), .list (r.map .int), .list (w.map .int)]) (y := 0) (z := 2) ?_ ?_ ?_ (by omega) (by omega) rfl rfl (apart hq hw)) (lcomp_two rfl (right_elt (L := [.list (q.map .int), .list (r.map .int), .list (w.map .int)]) (y := 1) (z := 2) ?_ ?_ ?_ (by omega) (by omega) rfl rfl (apart hr hw)) (lcomp_two rfl (right_no ?_) rfl)))) <;> (rw [hρ]; rfl)
  unfold laE19
  rw [ev_op2 (e1 _ rfl) (e2 _ rfl)]
  refine eq_strs' fun y hy => ?_
  simp only [List.mem_cons, List.not_mem_nil, or_false] at hy
  rcases hy with rfl | rfl | rfl | rfl <;> exact boolS_low _
theorem end_ok {s t u : List Nat} {q r w : List Int} {p : Int} (T : Three s t u q r w) (hp : p.natAbs ≤ 100) {v0 v1 v2 v3 v4 v8 v9 v10 v11 v12 v13 v14 : En} :
    laEnd [v0, v1, v2, v3, v4, .val (.int p), .val (.list [.str s, .str t, .str u]), .val (.list [.list (q.map .int), .list (r.map .int), .list (w.map .int)]), v8, v9, v10, v11, v12, v13, v14, .no, .no] = some (.ret (.bool true)) := by
  obtain ⟨a, b, c, d, ca, cb, cc, oa, ob, oc, od, hq, hr, hw, h15⟩ := T.objs (v0 := v0) (v1 := v1) (v2 := v2) (v3 := v3) (v4 := v4) (v5 := .val (.int p)) (v7 := .val (.list [.list (q.map .int), .list (r.map .int), .list (w.map .int)])) (v8 := v8) (v9 := v9) (v10 := v10) (v11 := v11) (v12 := v12) (v13 := v13) (v14 := v14) (v15 := .no) (v16 := .no)
  unfold laEnd
  refine (xseq_to (xset_to h15)).trans ?_
  refine (xseq_to (xif_no (norms_ev (s := s) (t := t) (u := u) (v0 := v0) (v1 := v1) (v2 := v2) (v3 := v3) (v4 := v4) (v6 := .val (.list [.str s, .str t, .str u])) (v8 := v8) (v9 := v9) (v10 := v10) (v11 := v11) (v12 := v12) (v13 := v13) (v14 := v14) (v16 := .no) (d := d) hp oa ob oc hq hr hw))).trans ?_
  refine (xseq_to (xset_to (d := .list [pairD 0 1, pairD 0 2, pairD 1 2, pairD 0 3]) rfl)).trans ?_
  show (ev Φ1 laE19 [v0, v1, v2, v3, v4, .val (.int p), .val (.list [.str s, .str t, .str u]), .val (.list [.list (q.map .int), .list (r.map .int), .list (w.map .int)]), v8, v9, v10, v11, v12, v13, v14, .val (.list [a, b, c, d]), .val (.list [pairD 0 1, pairD 0 2, pairD 1 2, pairD 0 3])]).map Out.ret = _
  rw [pairs_ev oa ob oc od hq hr hw]
  rfl
/-- the law's plain side: whatever the list, it answers True -/
theorem plain1 (ns : List Int) (h : ns.length ≤ 63) : f_law [.list (ns.map .int)] = some (.bool true) := by
  obtain ⟨s, t, u, q, r, w, p, v0, v1, v2, v3, v4, v8, v9, v10, v11, v12, v13, v14, T, hp, e⟩ := head_ok ns h
  refine body_is rfl ?_
  rw [la_is]
  exact e.trans (end_ok T hp)
end Mine

theorem PySem.Challenge.cw_sc0064_01_holds : PySem.Challenge.rw_sc0064_01.Holds :=
  Mine.join1 Mine.plain1
