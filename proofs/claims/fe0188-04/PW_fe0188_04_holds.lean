import PyProof.Rows.All
import Wide.All
import OpenK.AllK
import Wide.FinOn
import Lean
import PySem.Challenge.RW_fe0188_04
set_option Elab.async false

set_option maxRecDepth 100000
set_option autoImplicit false
set_option linter.unusedVariables false
set_option linter.unusedSectionVars false
set_option linter.unusedSimpArgs false
namespace Mine
open PySem PySem.W PyProof.Rows PySem.Calls

/-- a pure value -/
inductive PV where
  | none
  | bool (b : Bool)
  | int (i : Int)
  | str (s : Str)
  | bytes (b : Array UInt8)
  | lit (v : Value)
  | obj (i : Nat)

/-- a pure value stands for a value, by the addresses of the logical objects -/
inductive VR (as : List Addr) : PV → Value → Prop
  | none : VR as .none .none
  | bool (b : Bool) : VR as (.bool b) (.bool b)
  | int (i : Int) (t : Tok) : VR as (.int i) (.int i t)
  | str (s : Str) (t : Tok) : VR as (.str s) (.str s t)
  | bytes (b : Array UInt8) (t : Tok) : VR as (.bytes b) (.bytes b t)
  | lit (v : Value) : VR as (.lit v) v
  | obj (i : Nat) (a : Addr) : as[i]? = some a → VR as (.obj i) (.ref a)

/-- a pure object -/
inductive PO where
  | ns (names : List (Str × NameKind)) (l : List (Option PV))
  | cell (v : Option PV)
  | list (xs : List PV)
  | tuple (xs : List PV)
  | inst (C : Addr) (d : Nat)
  | dict (l : List (Str × PV))
  | barr (b : Array UInt8)
  | raw (o : Obj)
  | rcd (cls : String) (fs : List PV)

abbrev St := List PO

inductive VRs (as : List Addr) : List PV → List Value → Prop
  | nil : VRs as [] []
  | cons {p v ps vs} : VR as p v → VRs as ps vs → VRs as (p :: ps) (v :: vs)

inductive ERs (as : List Addr) : List (Str × PV) → List DictEntry → Prop
  | nil : ERs as [] []
  | cons {x p hs t v ps es} : VR as p v → ERs as ps es → ERs as ((x, p) :: ps) (⟨hs, .str x t, v⟩ :: es)

/-- the object at a, in h, is po -/
def HR (as : List Addr) (h : Heap) (a : Addr) : PO → Prop
  | .ns names l => l.length ≤ names.length ∧ ∃ m, h.Ns a m ∧ ∀ (j : Nat) (x : Str) (kd : NameKind) (pv : PV), names[j]? = some (x, kd) → l[j]? = some (some pv) → ∃ v, m x = some v ∧ VR as pv v
  | .cell c => ∃ o, h.get? a = some o ∧ (match c with
      | some pv => ∃ v, o.data = .cell (some v) ∧ VR as pv v
      | none => ∃ cv, o.data = .cell cv)
  | .list xs => ∃ vs : List Value, h.PlainList a vs.toArray ∧ VRs as xs vs
  | .tuple xs => ∃ vs : List Value, IsTup h a vs.toArray ∧ VRs as xs vs
  | .inst C d => ∃ dx, as[d]? = some dx ∧ h.get? a = some (instObj C dx)
  | .dict l => ∃ es n, h.get? a = some (dictOf es n) ∧ ERs as l es
  | .barr b => ∃ n, h.get? a = some { cls := .type "bytearray", data := .bytearray b n }
  | .raw o => h.get? a = some o
  | .rcd cls fs => ∃ vs : List Value, h.get? a = some { cls := .type cls, dict := none, data := .fields vs.toArray, slots := #[] } ∧ VRs as fs vs

theorem HR.keep {as : List Addr} {h h' : Heap} {a : Addr} {po : PO} (H : HR as h a po) (k : ∀ o, h.get? a = some o → h'.get? a = some o) : HR as h' a po := by
  cases po with
  | ns n l => obtain ⟨hL, m, hn, hl⟩ := H; exact ⟨hL, m, hn.at' k, hl⟩
  | cell c => obtain ⟨o, ho, r⟩ := H; exact ⟨o, k _ ho, r⟩
  | list xs => obtain ⟨vs, hl, r⟩ := H; exact ⟨vs, hl.at k, r⟩
  | tuple xs => obtain ⟨vs, ⟨o, ho, hc⟩, r⟩ := H; exact ⟨vs, ⟨o, k _ ho, hc⟩, r⟩
  | inst C d => obtain ⟨dx, hd, ho⟩ := H; exact ⟨dx, hd, k _ ho⟩
  | dict l => obtain ⟨es, n, ho, r⟩ := H; exact ⟨es, n, k _ ho, r⟩
  | barr b => obtain ⟨n, ho⟩ := H; exact ⟨n, k _ ho⟩
  | raw o => exact k _ H
  | rcd c fs => obtain ⟨vs, ho, r⟩ := H; exact ⟨vs, k _ ho, r⟩

theorem pre_get {as as' : List Addr} (p : as <+: as') {i : Nat} {a : Addr} (h : as[i]? = some a) : as'[i]? = some a := by
  obtain ⟨t, rfl⟩ := p
  rw [List.getElem?_append_left]
  · exact h
  · exact (List.getElem?_eq_some_iff.mp h).1

theorem VR.mono {as as' : List Addr} (p : as <+: as') {pv : PV} {v : Value} (h : VR as pv v) : VR as' pv v := by
  cases h with
  | obj i a e => exact .obj i a (pre_get p e)
  | _ => constructor
theorem VRs.mono {as as' : List Addr} (p : as <+: as') {ps : List PV} {vs : List Value} (h : VRs as ps vs) : VRs as' ps vs := by
  induction h with
  | nil => exact .nil
  | cons h _ ih => exact .cons (h.mono p) ih
theorem ERs.mono {as as' : List Addr} (p : as <+: as') {ps : List (Str × PV)} {es : List DictEntry} (h : ERs as ps es) : ERs as' ps es := by
  induction h with
  | nil => exact .nil
  | cons h _ ih => exact .cons (h.mono p) ih
theorem VRs.length {as : List Addr} {ps : List PV} {vs : List Value} (h : VRs as ps vs) : vs.length = ps.length := by
  induction h with
  | nil => rfl
  | cons _ _ ih => simp [ih]
theorem VRs.get {as : List Addr} {ps : List PV} {vs : List Value} (h : VRs as ps vs) : ∀ {i : Nat} {p : PV}, ps[i]? = some p → ∃ v, vs[i]? = some v ∧ VR as p v := by
  induction h with
  | nil => intro i p e; simp at e
  | cons h _ ih =>
    intro i p e
    cases i with
    | zero => simp at e; subst e; exact ⟨_, by simp, h⟩
    | succ i => simp at e; simpa using ih e
theorem VRs.get' {as : List Addr} {ps : List PV} {vs : List Value} (h : VRs as ps vs) : ∀ {i : Nat} {v : Value}, vs[i]? = some v → ∃ p, ps[i]? = some p ∧ VR as p v := by
  induction h with
  | nil => intro i p e; simp at e
  | cons h _ ih =>
    intro i p e
    cases i with
    | zero => simp at e; subst e; exact ⟨_, by simp, h⟩
    | succ i => simp at e; simpa using ih e
theorem VRs.append {as : List Addr} {ps qs : List PV} {vs us : List Value} (h : VRs as ps vs) (g : VRs as qs us) : VRs as (ps ++ qs) (vs ++ us) := by
  induction h with
  | nil => exact g
  | cons h _ ih => exact .cons h ih

theorem HR.mono {as as' : List Addr} (p : as <+: as') {h : Heap} {a : Addr} {po : PO} (H : HR as h a po) : HR as' h a po := by
  cases po with
  | ns n l => obtain ⟨hL, m, hn, hl⟩ := H; exact ⟨hL, m, hn, fun j x kd pv e0 e => let ⟨v, e1, e2⟩ := hl j x kd pv e0 e; ⟨v, e1, e2.mono p⟩⟩
  | cell c =>
    obtain ⟨o, ho, r⟩ := H
    refine ⟨o, ho, ?_⟩
    cases c with
    | none => exact r
    | some pv => obtain ⟨v, e, r⟩ := r; exact ⟨v, e, r.mono p⟩
  | list xs => obtain ⟨vs, hl, r⟩ := H; exact ⟨vs, hl, r.mono p⟩
  | tuple xs => obtain ⟨vs, hl, r⟩ := H; exact ⟨vs, hl, r.mono p⟩
  | inst C d => obtain ⟨dx, hd, ho⟩ := H; exact ⟨dx, pre_get p hd, ho⟩
  | dict l => obtain ⟨es, n, ho, r⟩ := H; exact ⟨es, n, ho, r.mono p⟩
  | barr b => exact H
  | raw o => exact H
  | rcd c fs => obtain ⟨vs, ho, r⟩ := H; exact ⟨vs, ho, r.mono p⟩

theorem HR.there {as : List Addr} {h : Heap} {a : Addr} {po : PO} (H : HR as h a po) : ∃ o, h.get? a = some o := by
  cases po with
  | ns n l => obtain ⟨_, m, ⟨o, _, _, ho, _⟩, _⟩ := H; exact ⟨o, ho⟩
  | cell c => obtain ⟨o, ho, _⟩ := H; exact ⟨o, ho⟩
  | list xs => obtain ⟨vs, ⟨_, ho⟩, _⟩ := H; exact ⟨_, ho⟩
  | tuple xs => obtain ⟨vs, ⟨o, ho, _⟩, _⟩ := H; exact ⟨o, ho⟩
  | inst C d => obtain ⟨dx, hd, ho⟩ := H; exact ⟨_, ho⟩
  | dict l => obtain ⟨es, n, ho, _⟩ := H; exact ⟨_, ho⟩
  | barr b => obtain ⟨n, ho⟩ := H; exact ⟨_, ho⟩
  | raw o => exact ⟨_, H⟩
  | rcd c fs => obtain ⟨vs, ho, _⟩ := H; exact ⟨_, ho⟩

/-- the heap h bears the pure objects σ at the addresses as, above the base h₀ -/
structure HInv (h₀ : Heap) (as : List Addr) (σ : St) (h : Heap) : Prop where
  len : as.length = σ.length
  nd : as.Nodup
  base : ∀ b o, h₀.get? b = some o → h.get? b = some o
  new : ∀ a ∈ as, h₀.get? a = none
  above : ∀ (i : Nat) (a : Addr) (n : List (Str × NameKind)) (l : List (Option PV)), as[i]? = some a → σ[i]? = some (PO.ns n l) → h₀.objs.size ≤ a
  size : h₀.objs.size ≤ h.objs.size
  rel : ∀ (i : Nat) (a : Addr) (po : PO), as[i]? = some a → σ[i]? = some po → HR as h a po

theorem HInv.there {h₀ : Heap} {as : List Addr} {σ : St} {h : Heap} (H : HInv h₀ as σ h) {a : Addr} (ha : a ∈ as) : ∃ o, h.get? a = some o := by
  obtain ⟨i, hi, e⟩ := List.getElem_of_mem ha
  have h1 : as[i]? = some a := by rw [List.getElem?_eq_getElem hi, e]
  have h2 : i < σ.length := H.len ▸ hi
  exact (H.rel i a _ h1 (List.getElem?_eq_getElem h2)).there
theorem HInv.lt {h₀ : Heap} {as : List Addr} {σ : St} {h : Heap} (H : HInv h₀ as σ h) {a : Addr} (ha : a ∈ as) : a < h.objs.size :=
  let ⟨_, e⟩ := H.there ha; Heap.lt_size e
theorem mem_of_get? {α : Type} {l : List α} {i : Nat} {a : α} (h : l[i]? = some a) : a ∈ l := List.mem_of_getElem? h

theorem HInv.keeps {h₀ : Heap} {as : List Addr} {σ : St} {h h' : Heap} (H : HInv h₀ as σ h) (k : ∀ b o, h.get? b = some o → h'.get? b = some o) (hz : h.objs.size ≤ h'.objs.size) : HInv h₀ as σ h' :=
  ⟨H.len, H.nd, fun b o e => k b o (H.base b o e), H.new, H.above, Nat.le_trans H.size hz, fun i a po e1 e2 => (H.rel i a po e1 e2).keep fun o => k a o⟩

theorem HInv.push {h₀ : Heap} {as : List Addr} {σ : St} {h : Heap} (H : HInv h₀ as σ h) (o : Obj) : HInv h₀ as σ (h.push o) :=
  H.keeps (fun _ _ e => Heap.get?_push_of_some _ e) (by rw [Heap.size_push]; omega)

theorem none_of_size {h₀ : Heap} {a : Addr} (h : h₀.objs.size ≤ a) : h₀.get? a = none := by
  cases e : h₀.get? a with
  | none => rfl
  | some o => exact absurd (Heap.lt_size e) (Nat.not_lt.mpr h)
/-- new objects are taken into the account -/
theorem HInv.takes {h₀ : Heap} {as : List Addr} {σ : St} {h : Heap} (H : HInv h₀ as σ h) (ls : List Addr) (ps : List PO) (hl : ls.length = ps.length) (hn : ls.Nodup) (hf : ∀ a ∈ ls, a ∉ as ∧ h₀.objs.size ≤ a)
    (R : ∀ (i : Nat) (a : Addr) (po : PO), ls[i]? = some a → ps[i]? = some po → HR (as ++ ls) h a po) : HInv h₀ (as ++ ls) (σ ++ ps) h := by
  have get?_append_ge : ∀ {α : Type} {l l' : List α} {i : Nat} {a : α}, (l ++ l')[i]? = some a → l.length ≤ i → l'[i - l.length]? = some a := fun h hi => by rwa [List.getElem?_append_right hi] at h
  refine ⟨by simp [H.len, hl], ?_, H.base, ?_, ?_, H.size, ?_⟩
  · rw [List.nodup_append]
    exact ⟨H.nd, hn, fun x hx y hy e => (hf y hy).1 (e ▸ hx)⟩
  · intro x hx
    rcases List.mem_append.mp hx with hx | hx
    · exact H.new x hx
    · exact none_of_size (hf x hx).2
  · intro i x n l e1 e2
    by_cases hi : i < as.length
    · rw [List.getElem?_append_left hi] at e1
      rw [List.getElem?_append_left (H.len ▸ hi)] at e2
      exact H.above i x n l e1 e2
    · exact (hf x (List.mem_of_getElem? (get?_append_ge e1 (Nat.le_of_not_lt hi)))).2
  · intro i x p e1 e2
    by_cases hi : i < as.length
    · rw [List.getElem?_append_left hi] at e1
      rw [List.getElem?_append_left (H.len ▸ hi)] at e2
      exact (H.rel i x p e1 e2).mono (List.prefix_append _ _)
    · have hi' : as.length ≤ i := Nat.le_of_not_lt hi
      have e2' := get?_append_ge e2 (H.len ▸ hi')
      rw [← H.len] at e2'
      exact R _ x p (get?_append_ge e1 hi') e2'

theorem HInv.alloc {h₀ : Heap} {as : List Addr} {σ : St} {h : Heap} {o : Obj} {po : PO} (H : HInv h₀ as σ h) (R : HR (as ++ [h.objs.size]) (h.push o) h.objs.size po) :
    HInv h₀ (as ++ [h.objs.size]) (σ ++ [po]) (h.push o) := by
  refine (H.push o).takes [h.objs.size] [po] rfl (by simp) (fun a ha => ?_) (fun i a p e1 e2 => ?_)
  · simp at ha; subst ha
    exact ⟨fun hm => Nat.lt_irrefl _ (H.lt hm), H.size⟩
  · cases i with
    | zero => simp at e1 e2; subst e1; subst e2; exact R
    | succ i => simp at e1

/-- one object is changed -/
theorem HInv.put {h₀ : Heap} {as : List Addr} {σ : St} {h h' : Heap} {i : Nat} {a : Addr} {po : PO} (H : HInv h₀ as σ h) (hi : as[i]? = some a) (hs : Heap.SameBut a h h') (R : HR as h' a po)
    (hn : ∀ n l, po = .ns n l → ∃ n' l', σ[i]? = some (.ns n' l')) : HInv h₀ as (σ.set i po) h' := by
  have ne : ∀ {j x}, as[j]? = some x → j ≠ i → x ≠ a := fun {j x} e hj q => by
    subst q
    obtain ⟨l1, e1⟩ := List.getElem?_eq_some_iff.mp e
    obtain ⟨l2, e2⟩ := List.getElem?_eq_some_iff.mp hi
    exact hj ((List.getElem_inj H.nd).mp (e1.trans e2.symm))
  have hl : i < σ.length := H.len ▸ (List.getElem?_eq_some_iff.mp hi).1
  refine ⟨by simp [H.len], H.nd, fun b o e => ?_, H.new, fun j x n l e1 e2 => ?_, by rw [hs.1]; exact H.size, ?_⟩
  · have hb : b ≠ a := fun q => by
      have := H.new _ (mem_of_get? hi)
      rw [← q, e] at this; cases this
    exact (hs.2 b hb).trans (H.base b o e)
  · by_cases hj : i = j
    · subst hj
      rw [List.getElem?_set_self hl] at e2; cases e2
      obtain ⟨n', l', e'⟩ := hn n l rfl
      exact H.above i x n' l' e1 e'
    · rw [List.getElem?_set_ne hj] at e2
      exact H.above j x n l e1 e2
  · intro j x p e1 e2
    by_cases hj : i = j
    · subst hj
      rw [hi] at e1; cases e1
      rw [List.getElem?_set_self hl] at e2; cases e2
      exact R
    · rw [List.getElem?_set_ne hj] at e2
      exact (H.rel j x p e1 e2).keep fun o e => (hs.2 x (ne e1 (Ne.symm hj))).trans e

/-- an object that is a frame's names -/
def NsAt (σ : St) (i : Nat) : Prop := ∃ n l, σ[i]? = some (PO.ns n l)
/-- what a state of the objects must not lose: frames stay frames -/
def Ext (σ σ' : St) : Prop := σ.length ≤ σ'.length ∧ ∀ i, NsAt σ i → NsAt σ' i
theorem Ext.refl (σ : St) : Ext σ σ := ⟨Nat.le_refl _, fun _ e => e⟩
theorem Ext.trans {σ₁ σ₂ σ₃ : St} (x : Ext σ₁ σ₂) (y : Ext σ₂ σ₃) : Ext σ₁ σ₃ :=
  ⟨Nat.le_trans x.1 y.1, fun i e => y.2 i (x.2 i e)⟩
theorem Ext.append (σ τ : St) : Ext σ (σ ++ τ) :=
  ⟨by simp, fun i ⟨n, l, e⟩ => ⟨n, l, by rw [List.getElem?_append_left (List.getElem?_eq_some_iff.mp e).1]; exact e⟩⟩
theorem Ext.setNs {σ : St} {i : Nat} {n : List (Str × NameKind)} {l : List (Option PV)} : Ext σ (σ.set i (.ns n l)) := by
  refine ⟨by simp, fun j ⟨n', l', e⟩ => ?_⟩
  by_cases h : i = j
  · subst h; exact ⟨n, l, List.getElem?_set_self (List.getElem?_eq_some_iff.mp e).1⟩
  · exact ⟨n', l', by rw [List.getElem?_set_ne h]; exact e⟩
theorem Ext.set {σ : St} {i : Nat} {po po' : PO} (h : σ[i]? = some po) (hn : ∀ n l, po ≠ .ns n l) : Ext σ (σ.set i po') := by
  refine ⟨by simp, fun j ⟨n', l', e⟩ => ?_⟩
  by_cases q : i = j
  · subst q; rw [h] at e; cases e; exact absurd rfl (hn n' l')
  · exact ⟨n', l', by rw [List.getElem?_set_ne q]; exact e⟩

/-- the world outside the heap: what is printed and read, and that no generator is left unfinished -/
def SRel (s s' : Shared) : Prop := s'.os = s.os ∧ (AllBare s.gens → AllBare s'.gens)
theorem SRel.refl (s : Shared) : SRel s s := ⟨rfl, id⟩
theorem SRel.trans {a b c : Shared} (x : SRel a b) (y : SRel b c) : SRel a c := ⟨y.1.trans x.1, fun h => y.2 (x.2 h)⟩
theorem SRel.heap (s : Shared) (h : Heap) (tk : Nat) : SRel s { s with heap := h, toks := tk } := ⟨rfl, id⟩

/-- what stood outside the account stands as it stood, but for xs -/
def Kp (as : List Addr) (s : Shared) (as' xs : List Addr) (s' : Shared) : Prop := ∀ b o, b ∉ as → s.heap.get? b = some o → b ∉ as' ∧ b ∉ xs ∧ s'.heap.get? b = some o
structure GoX (as : List Addr) (s : Shared) (as' xs : List Addr) (s' : Shared) : Prop where
  srel : SRel s s'
  kp : Kp as s as' xs s'
abbrev Go (as : List Addr) (s : Shared) (as' : List Addr) (s' : Shared) : Prop := GoX as s as' [] s'
theorem Go.refl (as : List Addr) (s : Shared) : Go as s as s := ⟨SRel.refl s, fun b o hb e => ⟨hb, by simp, e⟩⟩
theorem Go.trans {as as₁ as₂ xs : List Addr} {s s₁ s₂ : Shared} (x : Go as s as₁ s₁) (y : GoX as₁ s₁ as₂ xs s₂) : GoX as s as₂ xs s₂ :=
  ⟨x.srel.trans y.srel, fun b o hb e => let ⟨h1, _, h3⟩ := x.kp b o hb e; y.kp b o h1 h3⟩
theorem GoX.trans {as as₁ as₂ xs : List Addr} {s s₁ s₂ : Shared} (x : Go as s as₁ s₁) (y : GoX as₁ s₁ as₂ xs s₂) : GoX as s as₂ xs s₂ := Go.trans x y
theorem Go.toks (as : List Addr) (s : Shared) (tk : Nat) : Go as s as { s with toks := tk } := ⟨SRel.heap s s.heap tk, fun b o hb e => ⟨hb, by simp, e⟩⟩
theorem Go.keeps {as as' : List Addr} {s : Shared} {h : Heap} {tk : Nat} (k : ∀ b o, s.heap.get? b = some o → h.get? b = some o) (hz : True) (hf : ∀ a ∈ as', a ∉ as → s.heap.get? a = none) : Go as s as' { s with heap := h, toks := tk } :=
  ⟨SRel.heap s h tk, fun b o hb e => ⟨fun hm => (by have q := hf b hm hb; rw [e] at q; exact absurd q (fun z => nomatch z)), (by simp), k b o e⟩⟩
theorem Go.push {as : List Addr} {s : Shared} {o : Obj} {tk : Nat} : Go as s (as ++ [s.heap.objs.size]) { s with heap := s.heap.push o, toks := tk } := by
  refine Go.keeps (fun _ _ e => Heap.get?_push_of_some _ e) trivial fun a ha hn => ?_
  rcases List.mem_append.mp ha with ha | ha
  · exact absurd ha hn
  · simp at ha; subst ha; exact none_of_size (Nat.le_refl _)
theorem Go.put {as : List Addr} {s : Shared} {h : Heap} {a : Addr} {tk : Nat} (ha : a ∈ as) (hs : Heap.SameBut a s.heap h) : Go as s as { s with heap := h, toks := tk } :=
  ⟨SRel.heap s h tk, fun b o hb e => ⟨hb, by simp, (hs.2 b fun q => hb (q ▸ ha)).trans e⟩⟩

/-- an exception in flight; tb: it has a traceback; xs: what it has laid -/
def Exn (h₀ : Heap) (as : List Addr) (e : Value) (cls : Value) (tb : Bool) (xs : List Addr) (h : Heap) : Prop :=
  (∀ a ∈ xs, a ∉ as ∧ h₀.get? a = none) ∧ ∃ a oe vs, e = .ref a ∧ a ∈ xs ∧ h.get? a = some oe ∧ oe.cls = cls ∧ oe.data = .fields vs ∧ 1 < vs.size ∧
    match tb with
    | false => vs[1]? = some .none
    | true => ∃ T oT ts, vs[1]? = some (.ref T) ∧ T ∈ xs ∧ T ≠ a ∧ h.get? T = some oT ∧ oT.data = .fields ts ∧ 3 < ts.size

structure Cx where
  prog : Program
  w : World
  K : Frag
  p : Program
  loose : List Str
  mg : Str → Option Value
  mb : Str → Option Value
  h₀ : Heap
structure Cx.Ok (C : Cx) : Prop where
  X : C.K.In C.h₀
  T : TopRead C.p C.loose C.mg C.mb C.h₀

/-- the static side of a frame or of a comprehension's block -/
structure PEnv where
  scope : Scope
  L : Nat
  cells : List (Str × Nat)
  frs : List Nat
  clean : Bool

inductive CRs (as : List Addr) : List (Str × Nat) → List (Str × Addr) → Prop
  | nil : CRs as [] []
  | cons {x i a cs ds} : as[i]? = some a → CRs as cs ds → CRs as ((x, i) :: cs) ((x, a) :: ds)
theorem CRs.mono {as as' : List Addr} (p : as <+: as') {cs ds} (h : CRs as cs ds) : CRs as' cs ds := by
  induction h with
  | nil => exact .nil
  | cons h _ ih => exact .cons (pre_get p h) ih
theorem CRs.lookup {as : List Addr} {cs ds} (h : CRs as cs ds) {x : Str} : ∀ {i}, cs.lookup x = some i → ∃ a, ds.lookup x = some a ∧ as[i]? = some a := by
  induction h with
  | nil => intro i e; cases e
  | @cons y j a cs ds h _ ih =>
    intro i e
    rw [List.lookup_cons] at e ⊢
    cases hx : (x == y) with
    | true => rw [hx] at e; cases e; exact ⟨a, rfl, h⟩
    | false => rw [hx] at e; exact ih e

structure EnvRel (as : List Addr) (pe : PEnv) (env : Env) : Prop where
  scope : env.scope = pe.scope
  kind : pe.scope.kind = .function
  nd : (pe.scope.names.map (·.1)).Nodup
  loc : as[pe.L]? = some env.locals
  cells : CRs as pe.cells env.cells
  globals : env.globals = mainGlobals
  builtins : env.builtins = builtinsNs
  frame : ∃ f r a, pe.frs = f :: r ∧ as[f]? = some a ∧ env.frame = some a

theorem EnvRel.mono {as as' : List Addr} (p : as <+: as') {pe : PEnv} {env : Env} (h : EnvRel as pe env) : EnvRel as' pe env :=
  ⟨h.scope, h.kind, h.nd, pre_get p h.loc, h.cells.mono p, h.globals, h.builtins, let ⟨f, r, a, e1, e2, e3⟩ := h.frame; ⟨f, r, a, e1, pre_get p e2, e3⟩⟩

inductive FRs (as : List Addr) : List Nat → List Env → Prop
  | nil : FRs as [] []
  | cons {i a is env envs} : as[i]? = some a → env.frame = some a → env.scope.kind ≠ .module → FRs as is envs → FRs as (i :: is) (env :: envs)
theorem FRs.mono {as as' : List Addr} (p : as <+: as') {is envs} (h : FRs as is envs) : FRs as' is envs := by
  induction h with
  | nil => exact .nil
  | cons h e k _ ih => exact .cons (pre_get p h) e k ih

/-- the stack of activations -/
structure AOk (k : Nat) (as : List Addr) (pe : PEnv) (A : Around) : Prop where
  frames : ∃ envs, A.frames = some envs ∧ FRs as pe.frs envs
  clean : pe.clean = true → A.handled = none
  depth : A.depth + 8 * k < recursionLimit
  units : A.units + 40 * k < cLine
theorem AOk.mono {k : Nat} {as as' : List Addr} (p : as <+: as') {pe : PEnv} {A : Around} (h : AOk k as pe A) : AOk k as' pe A :=
  ⟨let ⟨e, h1, h2⟩ := h.frames; ⟨e, h1, h2.mono p⟩, h.clean, h.depth, h.units⟩
theorem AOk.less {k k' : Nat} (hk : k ≤ k') {as : List Addr} {pe : PEnv} {A : Around} (h : AOk k' as pe A) : AOk k as pe A :=
  ⟨h.frames, h.clean, Nat.lt_of_le_of_lt (by omega) h.depth, Nat.lt_of_le_of_lt (by omega) h.units⟩
theorem AOk.in1 {k : Nat} {as : List Addr} {pe : PEnv} {A : Around} (h : AOk (k + 1) as pe A) : AOk k as pe A.in1 :=
  ⟨h.frames, h.clean, Nat.lt_of_le_of_lt (by show A.depth + 8 * k ≤ A.depth + 8 * (k + 1); omega) h.depth, Nat.lt_of_le_of_lt (by show A.units + 1 + 40 * k ≤ A.units + 40 * (k + 1); omega) h.units⟩

/-- where a run stands -/
structure At (C : Cx) (k : Nat) (pe : PEnv) (as : List Addr) (σ : St) (A : Around) (s : Shared) : Prop where
  ok : C.Ok
  a : AOk k as pe A
  inv : HInv C.h₀ as σ s.heap
  frs : ∀ i ∈ pe.frs, NsAt σ i

theorem At.step {C : Cx} {k : Nat} {pe : PEnv} {as as' : List Addr} {σ σ' : St} {A : Around} {s s' : Shared} (H : At C k pe as σ A s) (p : as <+: as') (x : Ext σ σ') (i : HInv C.h₀ as' σ' s'.heap) : At C k pe as' σ' A s' :=
  ⟨H.ok, H.a.mono p, i, fun j hj => x.2 j (H.frs j hj)⟩
theorem At.same {C : Cx} {k : Nat} {pe : PEnv} {as : List Addr} {σ : St} {A : Around} {s s' : Shared} (H : At C k pe as σ A s) (e : s'.heap = s.heap) : At C k pe as σ A s' :=
  H.step (List.prefix_refl _) (Ext.refl _) (e ▸ H.inv)

/-- what stands behind a run: Q is reached with the answer b, told by PQ -/
def Run {α β : Type} (C : Cx) (as : List Addr) (σ : St) (s : Shared) (rel : List Addr → β → α → Prop) (PQ : β → St → Prop) (Q : α → Shared → Prop) : Prop :=
  ∀ (a : α) (b : β) (σ' : St) (as' : List Addr) (s' : Shared), PQ b σ' → as <+: as' → Ext σ σ' → rel as' b a → HInv C.h₀ as' σ' s'.heap → Go as s as' s' → Q a s'
def Exc (C : Cx) (as : List Addr) (σ : St) (s : Shared) (PE : Value → St → Prop) (E : Value → Shared → Prop) : Prop :=
  ∀ (e cls : Value) (tb : Bool) (xs : List Addr) (σ' : St) (as' : List Addr) (s' : Shared), PE cls σ' → as <+: as' → Ext σ σ' → Exn C.h₀ as' e cls tb xs s'.heap → HInv C.h₀ as' σ' s'.heap → GoX as s as' xs s' → E e s'

theorem Run.go {α β : Type} {C : Cx} {as as₁ : List Addr} {σ σ₁ : St} {s s₁ : Shared} {rel : List Addr → β → α → Prop} {PQ : β → St → Prop} {Q : α → Shared → Prop}
    (h : Run C as σ s rel PQ Q) (p : as <+: as₁) (x : Ext σ σ₁) (r : Go as s as₁ s₁) : Run C as₁ σ₁ s₁ rel PQ Q :=
  fun a b σ' as' s' h1 h2 h3 h4 h5 h6 => h a b σ' as' s' h1 (p.trans h2) (x.trans h3) h4 h5 (r.trans h6)
theorem Exc.go {C : Cx} {as as₁ : List Addr} {σ σ₁ : St} {s s₁ : Shared} {PE : Value → St → Prop} {E : Value → Shared → Prop}
    (h : Exc C as σ s PE E) (p : as <+: as₁) (x : Ext σ σ₁) (r : Go as s as₁ s₁) : Exc C as₁ σ₁ s₁ PE E :=
  fun e cls tb xs σ' as' s' h1 h2 h3 h4 h5 h6 => h e cls tb xs σ' as' s' h1 (p.trans h2) (x.trans h3) h4 h5 (r.trans h6)

/-- a triple for a tree that hangs on the environment -/
def Tr {α β : Type} (C : Cx) (k : Nat) (pe : PEnv) (t : Env → Sem α) (rel : List Addr → β → α → Prop) (σ : St) (PQ : β → St → Prop) (PE : Value → St → Prop) : Prop :=
  ∀ (A : Around) (env : Env) (s : Shared) (as : List Addr) (Q : α → Shared → Prop) (E : Value → Shared → Prop),
    At C k pe as σ A s → EnvRel as pe env → Run C as σ s rel PQ Q → Exc C as σ s PE E → wpAny (model C.prog C.w) A (t env) Q E s

theorem Tr.mono {α β : Type} {C : Cx} {k : Nat} {pe : PEnv} {t : Env → Sem α} {rel : List Addr → β → α → Prop} {σ : St} {PQ PQ' : β → St → Prop} {PE PE' : Value → St → Prop}
    (h : Tr C k pe t rel σ PQ PE) (hq : ∀ b σ', PQ b σ' → PQ' b σ') (he : ∀ c σ', PE c σ' → PE' c σ') : Tr C k pe t rel σ PQ' PE' :=
  fun A env s as Q E H N R X => h A env s as Q E H N (fun a b σ' as' s' h1 => R a b σ' as' s' (hq _ _ h1)) (fun e c tb xs σ' as' s' h1 => X e c tb xs σ' as' s' (he _ _ h1))
theorem Tr.less {α β : Type} {C : Cx} {k k' : Nat} {pe : PEnv} {t : Env → Sem α} {rel : List Addr → β → α → Prop} {σ : St} {PQ : β → St → Prop} {PE : Value → St → Prop}
    (h : Tr C k pe t rel σ PQ PE) (hk : k ≤ k') : Tr C k' pe t rel σ PQ PE :=
  fun A env s as Q E H N R X => h A env s as Q E ⟨H.ok, H.a.less hk, H.inv, H.frs⟩ N R X

def Hx (C : Cx) (k : Nat) (pe : PEnv) (e : Expr) (σ : St) (PQ : PV → St → Prop) (PE : Value → St → Prop) : Prop := Tr C k pe (eval e) VR σ PQ PE

inductive PF where
  | next | brk | cont
  | ret (v : PV)
inductive FR (as : List Addr) : PF → Flow → Prop
  | next : FR as .next .next
  | brk : FR as .brk .brk
  | cont : FR as .cont .cont
  | ret {p v} : VR as p v → FR as (.ret p) (.ret v)
def Hs (C : Cx) (k : Nat) (pe : PEnv) (b : List Stmt) (σ : St) (PQ : PF → St → Prop) (PE : Value → St → Prop) : Prop := Tr C k pe (execs b) FR σ PQ PE
def Hs1 (C : Cx) (k : Nat) (pe : PEnv) (b : Stmt) (σ : St) (PQ : PF → St → Prop) (PE : Value → St → Prop) : Prop := Tr C k pe (exec b) FR σ PQ PE
def BR (_ : List Addr) (b c : Bool) : Prop := b = c
def Ht (C : Cx) (k : Nat) (pe : PEnv) (e : Expr) (σ : St) (PQ : Bool → St → Prop) (PE : Value → St → Prop) : Prop := Tr C k pe (fun env => isTrue e env (eval e env)) BR σ PQ PE
end Mine

set_option maxRecDepth 100000
set_option autoImplicit false
set_option linter.unusedVariables false
set_option linter.unusedSectionVars false
set_option linter.unusedSimpArgs false
namespace Mine
open PySem PySem.W PyProof.Rows PySem.Calls

/-- a tree that hangs on one value, on two, on three, on a list of values -/
def T1 {α β : Type} (C : Cx) (k : Nat) (pe : PEnv) (f : Value → Sem α) (rel : List Addr → β → α → Prop) (p : PV) (σ : St) (PQ : β → St → Prop) (PE : Value → St → Prop) : Prop :=
  ∀ (A : Around) (env : Env) (s : Shared) (as : List Addr) (Q : α → Shared → Prop) (E : Value → Shared → Prop) (v : Value),
    At C k pe as σ A s → EnvRel as pe env → VR as p v → Run C as σ s rel PQ Q → Exc C as σ s PE E → wpAny (model C.prog C.w) A (f v) Q E s
def T2 {α β : Type} (C : Cx) (k : Nat) (pe : PEnv) (f : Value → Value → Sem α) (rel : List Addr → β → α → Prop) (p q : PV) (σ : St) (PQ : β → St → Prop) (PE : Value → St → Prop) : Prop :=
  ∀ (A : Around) (env : Env) (s : Shared) (as : List Addr) (Q : α → Shared → Prop) (E : Value → Shared → Prop) (v u : Value),
    At C k pe as σ A s → EnvRel as pe env → VR as p v → VR as q u → Run C as σ s rel PQ Q → Exc C as σ s PE E → wpAny (model C.prog C.w) A (f v u) Q E s
def T3 {α β : Type} (C : Cx) (k : Nat) (pe : PEnv) (f : Value → Value → Value → Sem α) (rel : List Addr → β → α → Prop) (p q r : PV) (σ : St) (PQ : β → St → Prop) (PE : Value → St → Prop) : Prop :=
  ∀ (A : Around) (env : Env) (s : Shared) (as : List Addr) (Q : α → Shared → Prop) (E : Value → Shared → Prop) (v u w : Value),
    At C k pe as σ A s → EnvRel as pe env → VR as p v → VR as q u → VR as r w → Run C as σ s rel PQ Q → Exc C as σ s PE E → wpAny (model C.prog C.w) A (f v u w) Q E s
def TL {α β : Type} (C : Cx) (k : Nat) (pe : PEnv) (f : List Value → Sem α) (rel : List Addr → β → α → Prop) (ps : List PV) (σ : St) (PQ : β → St → Prop) (PE : Value → St → Prop) : Prop :=
  ∀ (A : Around) (env : Env) (s : Shared) (as : List Addr) (Q : α → Shared → Prop) (E : Value → Shared → Prop) (vs : List Value),
    At C k pe as σ A s → EnvRel as pe env → VRs as ps vs → Run C as σ s rel PQ Q → Exc C as σ s PE E → wpAny (model C.prog C.w) A (f vs) Q E s

def UR (_ : List Addr) (_ _ : Unit) : Prop := True

section
variable {C : Cx} {k : Nat} {pe : PEnv} {σ : St} {PE : Value → St → Prop}

/-- the run ends where it stands -/
theorem Run.here {α β : Type} {as : List Addr} {s : Shared} {rel : List Addr → β → α → Prop} {PQ : β → St → Prop} {Q : α → Shared → Prop} {A : Around}
    (R : Run C as σ s rel PQ Q) (H : At C k pe as σ A s) {a : α} {b : β} (h : PQ b σ) (r : rel as b a) : Q a s :=
  R a b σ as s h (List.prefix_refl _) (Ext.refl _) r H.inv (Go.refl _ _)
theorem Run.toks {α β : Type} {as : List Addr} {s : Shared} {rel : List Addr → β → α → Prop} {PQ : β → St → Prop} {Q : α → Shared → Prop} {A : Around}
    (R : Run C as σ s rel PQ Q) (H : At C k pe as σ A s) {a : α} {b : β} {t : Nat} (h : PQ b σ) (r : rel as b a) : Q a { s with toks := t } :=
  R a b σ as _ h (List.prefix_refl _) (Ext.refl _) r H.inv (Go.toks _ _ _)

theorem EnvRel.kindOf {as : List Addr} {env : Env} (N : EnvRel as pe env) (x : Str) : env.kindOf x = pe.scope.names.lookup x := by
  unfold Env.kindOf; rw [N.scope]
theorem EnvRel.fkind {as : List Addr} {env : Env} (N : EnvRel as pe env) : env.scope.kind = .function := N.scope ▸ N.kind
theorem HInv.at {h₀ : Heap} {as : List Addr} {h : Heap} (H : HInv h₀ as σ h) {i : Nat} {po : PO} (e : σ[i]? = some po) : ∃ a, as[i]? = some a ∧ HR as h a po := by
  have hl : i < as.length := H.len ▸ (List.getElem?_eq_some_iff.mp e).1
  exact ⟨as[i], List.getElem?_eq_getElem hl, H.rel i _ po (List.getElem?_eq_getElem hl) e⟩
theorem HInv.atRef {h₀ : Heap} {as : List Addr} {h : Heap} (H : HInv h₀ as σ h) {i : Nat} {a : Addr} {po : PO} (e : σ[i]? = some po) (ha : as[i]? = some a) : HR as h a po := H.rel i a po ha e

/-- a name's place in the scope, and its kind -/
def slotFrom (n : Nat) (names : List (Str × NameKind)) (x : Str) : Option (Nat × NameKind) := match names with
  | [] => none
  | y :: r => if y.1 == x then some (n, y.2) else slotFrom (n + 1) r x
def slotOf (names : List (Str × NameKind)) (x : Str) : Option (Nat × NameKind) := slotFrom 0 names x
theorem slotFrom_spec : ∀ {names : List (Str × NameKind)} {n j : Nat} {x : Str} {kd : NameKind}, slotFrom n names x = some (j, kd) → n ≤ j ∧ names[j - n]? = some (x, kd) ∧ names.lookup x = some kd
  | [], _, _, _, _, h => by cases h
  | y :: r, n, j, x, kd, h => by
    unfold slotFrom at h
    by_cases e : (y.1 == x) = true
    · rw [if_pos e] at h
      cases h
      have e' : y.1 = x := by simpa using e
      subst e'
      exact ⟨Nat.le_refl _, by simp, by rw [List.lookup_cons]; simp⟩
    · rw [if_neg e] at h
      obtain ⟨a, b, c⟩ := slotFrom_spec h
      have hx : (x == y.1) = false := by
        have e' : ¬ y.1 = x := by simpa using e
        simpa using fun q : x = y.1 => e' q.symm
      refine ⟨by omega, ?_, by rw [List.lookup_cons, hx]; exact c⟩
      have : j - n = (j - (n + 1)) + 1 := by omega
      rw [this, List.getElem?_cons_succ]; exact b
theorem slotOf_spec {names : List (Str × NameKind)} {j : Nat} {x : Str} {kd : NameKind} (h : slotOf names x = some (j, kd)) : names[j]? = some (x, kd) ∧ names.lookup x = some kd := by
  obtain ⟨_, b, c⟩ := slotFrom_spec h
  exact ⟨by simpa using b, c⟩

/-- what a name of the frame holds -/
inductive NameIs (pe : PEnv) (σ : St) (x : Str) (p : PV) : Prop
  | loc {j : Nat} {l : List (Option PV)} : slotOf pe.scope.names x = some (j, .local) → σ[pe.L]? = some (.ns pe.scope.names l) → l[j]? = some (some p) → NameIs pe σ x p
  | cell {j c : Nat} {kd : NameKind} : slotOf pe.scope.names x = some (j, kd) → (kd = .cell ∨ kd = .free) → pe.cells.lookup x = some c → σ[c]? = some (.cell (some p)) → NameIs pe σ x p

theorem wp_name {A : Around} {env : Env} {s : Shared} {as : List Addr} {Q : Value → Shared → Prop} {E : Value → Shared → Prop} {x : Str} {p : PV}
    (H : At C k pe as σ A s) (N : EnvRel as pe env) (e : NameIs pe σ x p) (hq : ∀ v, VR as p v → Q v s)
    (hc : (x == ("__classdict__" : Str)) = false) : wpAny (model C.prog C.w) A (loadName env x) Q E s := by
  cases e with
  | loc e1 e2 e3 =>
    obtain ⟨_, m, hn, hv⟩ := H.inv.atRef e2 N.loc
    obtain ⟨f1, f2⟩ := slotOf_spec e1
    obtain ⟨v, g1, g2⟩ := hv _ x _ p f1 e3
    exact wpAny_loadName_local N.fkind ((N.kindOf x).trans f2) hn g1 (hq v g2)
  | cell e1 e2 e3 e4 =>
    obtain ⟨f1, f2⟩ := slotOf_spec e1
    obtain ⟨a, ha, hai⟩ := N.cells.lookup e3
    obtain ⟨o, ho, v, hd, hv⟩ := H.inv.atRef e4 hai
    rcases e2 with rfl | rfl
    · exact wpAny_loadName_cell N.fkind ((N.kindOf x).trans f2) ha ⟨o, ho, hd⟩ (hq v hv)
    · exact wpAny_loadName_free N.fkind ((N.kindOf x).trans f2) ha ⟨o, ho, hd⟩ (hq v hv) hc

theorem hx_name {x : Str} {pos : Pos} {p : PV} {PQ : PV → St → Prop} (e : NameIs pe σ x p) (h : PQ p σ)
    (hc : (x == ("__classdict__" : Str)) = false := by decide +kernel) (hd : (x == ("__debug__" : Str)) = false := by decide +kernel) : Hx C k pe (.Name x pos) σ PQ PE :=
  fun A env s as Q E H N R X => wpAny_Name (wp_name H N e (fun v r => R.here H h r) hc) hd

/-- what the global names hold -/
def Globs (C : Cx) (tbl : List (Str × Value)) : Prop :=
  ∀ x v, tbl.lookup x = some v → nsIn C.K mainGlobals x = some (some v) ∨ (nsIn C.K mainGlobals x = some none ∧ bootBuiltins x = some v ∧ x ≠ "__name__")

theorem hx_glob {tbl : List (Str × Value)} (G : Globs C tbl) {x : Str} {pos : Pos} {v : Value} {PQ : PV → St → Prop} {j : Nat} (hk : slotOf pe.scope.names x = some (j, .globalImplicit)) (e : tbl.lookup x = some v) (h : PQ (.lit v) σ)
    (hd : (x == ("__debug__" : Str)) = false := by decide +kernel) : Hx C k pe (.Name x pos) σ PQ PE := by
  intro A env s as Q E H N R X
  have hq : Q v s := R.here H h (.lit v)
  have hkk : env.kindOf x = some .globalImplicit := (N.kindOf x).trans (slotOf_spec hk).2
  have T := H.ok.T
  rcases G x v e with e1 | ⟨e1, e2, e3⟩
  · exact Name_function_global N.fkind hkk (loadGlobal_global (env := env) (by rw [N.globals]; exact T.g.keeps H.inv.base) (mg_of H.ok.X T.g e1) hq) hd
  · exact Name_function_global N.fkind hkk (loadGlobal_builtin (env := env) (by rw [N.globals]; exact T.g.keeps H.inv.base) (mg_none_of H.ok.X T.g e1) (by rw [N.builtins]; exact T.b.keeps H.inv.base) ((T.builtins x e3).trans e2) hq) hd

theorem hx_none {n : Nat} {pos : Pos} {PQ : PV → St → Prop} (h : PQ .none σ) : Hx C k pe (.Constant .none n pos) σ PQ PE :=
  fun A env s as Q E H N R X => wpAny_Constant_none (R.here H h .none)
theorem hx_bool {b : Bool} {n : Nat} {pos : Pos} {PQ : PV → St → Prop} (h : PQ (.bool b) σ) : Hx C k pe (.Constant (.bool b) n pos) σ PQ PE :=
  fun A env s as Q E H N R X => wpAny_Constant_bool (R.here H h (.bool b))
theorem hx_int {i : Int} {n : Nat} {pos : Pos} {PQ : PV → St → Prop} (h : PQ (.int i) σ) : Hx C k pe (.Constant (.int i) n pos) σ PQ PE :=
  fun A env s as Q E H N R X => wpAny_Constant_int (R.toks H h (.int i _))
theorem hx_str {x : Str} {n : Nat} {pos : Pos} {PQ : PV → St → Prop} (h : PQ (.str x) σ) : Hx C k pe (.Constant (.str x) n pos) σ PQ PE :=
  fun A env s as Q E H N R X => wpAny_Constant_str (R.toks H h (.str x _))
theorem hx_bytes {x : List UInt8} {n : Nat} {pos : Pos} {PQ : PV → St → Prop} (h : PQ (.bytes x.toArray) σ) : Hx C k pe (.Constant (.bytes x) n pos) σ PQ PE :=
  fun A env s as Q E H N R X => Constant_bytes (R.toks H h (.bytes _ _))

theorem hx_binop {l r : Expr} {op : Operator} {pos : Pos} {PQ : PV → St → Prop}
    (h : Hx C k pe l σ (fun p₁ σ₁ => Hx C k pe r σ₁ (fun p₂ σ₂ => T2 C k pe (binaryOp op) VR p₁ p₂ σ₂ PQ PE) PE) PE) : Hx C k pe (.BinOp l op r pos) σ PQ PE := by
  intro A env s as Q E H N R X
  refine wpAny_BinOp (h A env s as _ E H N (fun v₁ p₁ σ₁ as₁ s₁ h₁ a₁ x₁ r₁ i₁ w₁ => ?_) X)
  have H₁ := H.step a₁ x₁ i₁
  refine h₁ A env s₁ as₁ _ E H₁ (N.mono a₁) (fun v₂ p₂ σ₂ as₂ s₂ h₂ a₂ x₂ r₂ i₂ w₂ => ?_) (X.go a₁ x₁ w₁)
  exact h₂ A env s₂ as₂ _ E _ _ (H₁.step a₂ x₂ i₂) ((N.mono a₁).mono a₂) (r₁.mono a₂) r₂ ((R.go a₁ x₁ w₁).go a₂ x₂ w₂) ((X.go a₁ x₁ w₁).go a₂ x₂ w₂)

theorem hx_unary {e : Expr} {op : UnaryOp} {pos : Pos} {PQ : PV → St → Prop}
    (h : Hx C k pe e σ (fun p₁ σ₁ => T1 C k pe (unaryOp op) VR p₁ σ₁ PQ PE) PE) : Hx C k pe (.UnaryOp op e pos) σ PQ PE := by
  intro A env s as Q E H N R X
  refine wpAny_UnaryOp (h A env s as _ E H N (fun v₁ p₁ σ₁ as₁ s₁ h₁ a₁ x₁ r₁ i₁ w₁ => ?_) X)
  exact h₁ A env s₁ as₁ _ E _ (H.step a₁ x₁ i₁) (N.mono a₁) r₁ (R.go a₁ x₁ w₁) (X.go a₁ x₁ w₁)

theorem hx_cmp {l r : Expr} {op : CmpOp} {pos : Pos} {PQ : PV → St → Prop} 
    (h : Hx C k pe l σ (fun p₁ σ₁ => Hx C k pe r σ₁ (fun p₂ σ₂ => T2 C k pe (compareOp op) VR p₁ p₂ σ₂ PQ PE) PE) PE) (hb : behindInMarks op r = false := by rfl) : Hx C k pe (.Compare l [op] [r] pos) σ PQ PE := by
  intro A env s as Q E H N R X
  refine wpAny_Compare1 (h A env s as _ E H N (fun v₁ p₁ σ₁ as₁ s₁ h₁ a₁ x₁ r₁ i₁ w₁ => ?_) X) hb
  have H₁ := H.step a₁ x₁ i₁
  refine h₁ A env s₁ as₁ _ E H₁ (N.mono a₁) (fun v₂ p₂ σ₂ as₂ s₂ h₂ a₂ x₂ r₂ i₂ w₂ => ?_) (X.go a₁ x₁ w₁)
  exact h₂ A env s₂ as₂ _ E _ _ (H₁.step a₂ x₂ i₂) ((N.mono a₁).mono a₂) (r₁.mono a₂) r₂ ((R.go a₁ x₁ w₁).go a₂ x₂ w₂) ((X.go a₁ x₁ w₁).go a₂ x₂ w₂)

theorem ht_cmp {l r : Expr} {op : CmpOp} {pos : Pos} {PQ : Bool → St → Prop} 
    (h : Hx C k pe l σ (fun p₁ σ₁ => Hx C k pe r σ₁ (fun p₂ σ₂ => T2 C k pe (compareOp op) VR p₁ p₂ σ₂ (fun p₃ σ₃ => T1 C k pe truthy BR p₃ σ₃ PQ PE) PE) PE) PE) (hb : behindInMarks op r = false := by rfl) : Ht C k pe (.Compare l [op] [r] pos) σ PQ PE := by
  intro A env s as Q E H N R X
  refine wpAny_isTrue_Compare1 (h A env s as _ E H N (fun v₁ p₁ σ₁ as₁ s₁ h₁ a₁ x₁ r₁ i₁ w₁ => ?_) X) hb
  have H₁ := H.step a₁ x₁ i₁
  refine h₁ A env s₁ as₁ _ E H₁ (N.mono a₁) (fun v₂ p₂ σ₂ as₂ s₂ h₂ a₂ x₂ r₂ i₂ w₂ => ?_) (X.go a₁ x₁ w₁)
  have H₂ := H₁.step a₂ x₂ i₂
  refine h₂ A env s₂ as₂ _ E _ _ H₂ ((N.mono a₁).mono a₂) (r₁.mono a₂) r₂ (fun v₃ p₃ σ₃ as₃ s₃ h₃ a₃ x₃ r₃ i₃ w₃ => ?_) ((X.go a₁ x₁ w₁).go a₂ x₂ w₂)
  exact h₃ A env s₃ as₃ _ E _ (H₂.step a₃ x₃ i₃) (((N.mono a₁).mono a₂).mono a₃) r₃ (((R.go a₁ x₁ w₁).go a₂ x₂ w₂).go a₃ x₃ w₃) (((X.go a₁ x₁ w₁).go a₂ x₂ w₂).go a₃ x₃ w₃)

theorem ht_not {e : Expr} {pos : Pos} {PQ : Bool → St → Prop} (h : Ht C k pe e σ (fun b σ₁ => PQ (!b) σ₁) PE) : Ht C k pe (.UnaryOp .Not e pos) σ PQ PE := by
  intro A env s as Q E H N R X
  refine wpAny_isTrue_Not (h A env s as _ E H N (fun v₁ p₁ σ₁ as₁ s₁ h₁ a₁ x₁ r₁ i₁ w₁ => ?_) X)
  obtain rfl : p₁ = v₁ := r₁
  exact R _ _ σ₁ as₁ s₁ h₁ a₁ x₁ rfl i₁ w₁

/-- the truth of the rest of an and, of an or -/
def Hall (C : Cx) (k : Nat) (pe : PEnv) (op : BoolOp) (es : List Expr) (σ : St) (PQ : Bool → St → Prop) (PE : Value → St → Prop) : Prop := Tr C k pe (fun env => allTrue op es env) BR σ PQ PE
theorem ht_bool {es : List Expr} {op : BoolOp} {pos : Pos} {PQ : Bool → St → Prop} (h : Hall C k pe op es σ PQ PE) : Ht C k pe (.BoolOp op es pos) σ PQ PE :=
  fun A env s as Q E H N R X => wpAny_isTrue_BoolOp (h A env s as Q E H N R X)
theorem hall_nil_and {PQ : Bool → St → Prop} (h : PQ true σ) : Hall C k pe .And [] σ PQ PE := fun A env s as Q E H N R X => wpAny_pure (R.here H h rfl)
theorem hall_nil_or {PQ : Bool → St → Prop} (h : PQ false σ) : Hall C k pe .Or [] σ PQ PE := fun A env s as Q E H N R X => wpAny_pure (R.here H h rfl)
theorem hall_and {e : Expr} {es : List Expr} {PQ : Bool → St → Prop} (h : Ht C k pe e σ (fun b σ₁ => if b = true then Hall C k pe .And es σ₁ PQ PE else PQ false σ₁) PE) : Hall C k pe .And (e :: es) σ PQ PE := by
  intro A env s as Q E H N R X
  refine wpAny_allTrue_And_cons (h A env s as _ E H N (fun v₁ p₁ σ₁ as₁ s₁ h₁ a₁ x₁ r₁ i₁ w₁ => ?_) X)
  obtain rfl : p₁ = v₁ := r₁
  cases p₁ with
  | true => simp only [if_true] at h₁ ⊢; exact h₁ A env s₁ as₁ _ E (H.step a₁ x₁ i₁) (N.mono a₁) (R.go a₁ x₁ w₁) (X.go a₁ x₁ w₁)
  | false => simp only [Bool.false_eq_true, if_false] at h₁ ⊢; exact R _ _ σ₁ as₁ s₁ h₁ a₁ x₁ rfl i₁ w₁
theorem hall_or {e : Expr} {es : List Expr} {PQ : Bool → St → Prop} (h : Ht C k pe e σ (fun b σ₁ => if b = true then PQ true σ₁ else Hall C k pe .Or es σ₁ PQ PE) PE) : Hall C k pe .Or (e :: es) σ PQ PE := by
  intro A env s as Q E H N R X
  refine wpAny_allTrue_Or_cons (h A env s as _ E H N (fun v₁ p₁ σ₁ as₁ s₁ h₁ a₁ x₁ r₁ i₁ w₁ => ?_) X)
  obtain rfl : p₁ = v₁ := r₁
  cases p₁ with
  | false => simp only [Bool.false_eq_true, if_false] at h₁ ⊢; exact h₁ A env s₁ as₁ _ E (H.step a₁ x₁ i₁) (N.mono a₁) (R.go a₁ x₁ w₁) (X.go a₁ x₁ w₁)
  | true => simp only [if_true] at h₁ ⊢; exact R _ _ σ₁ as₁ s₁ h₁ a₁ x₁ rfl i₁ w₁

/-- the truth of any other expression -/
theorem ht_val {e : Expr} {PQ : Bool → St → Prop} (h : Hx C k pe e σ (fun p₁ σ₁ => T1 C k pe truthy BR p₁ σ₁ PQ PE) PE)
    (he : ∀ env, isTrue e env (eval e env) = (do let v ← eval e env; standAt e.pos; holding [v] (truthy v)) := by intro _; rfl) : Ht C k pe e σ PQ PE := by
  intro A env s as Q E H N R X
  show wpAny (model C.prog C.w) A (isTrue e env (eval e env)) Q E s
  refine wpAny_isTrue_value (h A env s as _ E H N (fun v₁ p₁ σ₁ as₁ s₁ h₁ a₁ x₁ r₁ i₁ w₁ => ?_) X) (he env)
  exact h₁ A env s₁ as₁ _ E _ (H.step a₁ x₁ i₁) (N.mono a₁) r₁ (R.go a₁ x₁ w₁) (X.go a₁ x₁ w₁)

theorem hx_if {t b o : Expr} {pos : Pos} {PQ : PV → St → Prop} (h : Ht C k pe t σ (fun c σ₁ => if c = true then Hx C k pe b σ₁ PQ PE else Hx C k pe o σ₁ PQ PE) PE) : Hx C k pe (.IfExp t b o pos) σ PQ PE := by
  intro A env s as Q E H N R X
  refine wpAny_IfExp (h A env s as _ E H N (fun v₁ p₁ σ₁ as₁ s₁ h₁ a₁ x₁ r₁ i₁ w₁ => ?_) X)
  obtain rfl : p₁ = v₁ := r₁
  cases p₁ with
  | true => simp only [if_true] at h₁ ⊢; exact h₁ A env s₁ as₁ _ E (H.step a₁ x₁ i₁) (N.mono a₁) (R.go a₁ x₁ w₁) (X.go a₁ x₁ w₁)
  | false => simp only [Bool.false_eq_true, if_false] at h₁ ⊢; exact h₁ A env s₁ as₁ _ E (H.step a₁ x₁ i₁) (N.mono a₁) (R.go a₁ x₁ w₁) (X.go a₁ x₁ w₁)

/-- a row of expressions -/
def Hl (C : Cx) (k : Nat) (pe : PEnv) (pos : Pos) (es : List Expr) (σ : St) (PQ : List PV → St → Prop) (PE : Value → St → Prop) : Prop := Tr C k pe (fun env => spliced (backTo pos (starEach es env))) VRs σ PQ PE
theorem hl_nil {pos : Pos} {PQ : List PV → St → Prop} (h : PQ [] σ) : Hl C k pe pos [] σ PQ PE := by
  intro A env s as Q E H N R X
  exact spliced_nil (R.here H h .nil)
theorem hl_cons {pos : Pos} {e : Expr} {es : List Expr} {PQ : List PV → St → Prop} (h : Hx C k pe e σ (fun p σ₁ => Hl C k pe pos es σ₁ (fun ps σ₂ => PQ (p :: ps) σ₂) PE) PE)
    (he : ∀ env, starEach (e :: es) env = (false, eval e env) :: starEach es env := by intro _; rfl) : Hl C k pe pos (e :: es) σ PQ PE := by
  intro A env s as Q E H N R X
  show wpAny _ _ (spliced (backTo pos (starEach (e :: es) env))) _ _ _
  rw [he env]
  show wpAny _ _ (spliced ((false, eval e env) :: backTo pos (starEach es env))) _ _ _
  refine spliced_cons (h A env s as _ E H N (fun v₁ p₁ σ₁ as₁ s₁ h₁ a₁ x₁ r₁ i₁ w₁ => ?_) X)
  refine h₁ A env s₁ as₁ _ E (H.step a₁ x₁ i₁) (N.mono a₁) (fun vs ps σ₂ as₂ s₂ h₂ a₂ x₂ r₂ i₂ w₂ => ?_) (X.go a₁ x₁ w₁)
  exact R _ _ σ₂ as₂ s₂ h₂ (a₁.trans a₂) (x₁.trans x₂) (.cons (r₁.mono a₂) r₂) i₂ (w₁.trans w₂)

theorem hx_tuple {es : List Expr} {n : Nat} {pos : Pos} {PQ : PV → St → Prop} (h : Hl C k pe pos es σ (fun ps σ₁ => ps.length ≤ sizeLine ∧ PQ (.obj σ₁.length) (σ₁ ++ [.tuple ps])) PE) : Hx C k pe (.Tuple es n pos) σ PQ PE := by
  intro A env s as Q E H N R X
  refine Tuple_ (h A env s as _ E H N (fun vs ps σ₁ as₁ s₁ h₁ a₁ x₁ r₁ i₁ w₁ => ?_) X)
  refine wpAny_newObj_type ?_ (by show vs.toArray.size ≤ sizeLine; rw [List.size_toArray, r₁.length]; exact h₁.1)
  have p₂ : as₁ <+: as₁ ++ [s₁.heap.objs.size] := List.prefix_append _ _
  refine R _ (.obj σ₁.length) (σ₁ ++ [.tuple ps]) (as₁ ++ [s₁.heap.objs.size]) _ h₁.2 (a₁.trans p₂) (x₁.trans (Ext.append _ _)) (.obj _ _ ?_) (i₁.alloc ?_) (w₁.trans Go.push)
  · rw [← i₁.len]; simp
  · exact ⟨vs, ⟨_, Heap.get?_push_size _ rfl, rfl, 0, rfl⟩, r₁.mono p₂⟩
theorem hx_list {es : List Expr} {pos : Pos} {PQ : PV → St → Prop} (h : Hl C k pe pos es σ (fun ps σ₁ => ps.length ≤ sizeLine ∧ PQ (.obj σ₁.length) (σ₁ ++ [.list ps])) PE) : Hx C k pe (.List es pos) σ PQ PE := by
  intro A env s as Q E H N R X
  refine List_ (h A env s as _ E H N (fun vs ps σ₁ as₁ s₁ h₁ a₁ x₁ r₁ i₁ w₁ => ?_) X)
  refine wpAny_newObj_type ?_ (by show vs.toArray.size ≤ sizeLine; rw [List.size_toArray, r₁.length]; exact h₁.1)
  have p₂ : as₁ <+: as₁ ++ [s₁.heap.objs.size] := List.prefix_append _ _
  refine R _ (.obj σ₁.length) (σ₁ ++ [.list ps]) (as₁ ++ [s₁.heap.objs.size]) _ h₁.2 (a₁.trans p₂) (x₁.trans (Ext.append _ _)) (.obj _ _ ?_) (i₁.alloc ?_) (w₁.trans Go.push)
  · rw [← i₁.len]; simp
  · exact ⟨vs, ⟨0, Heap.get?_push_size _ rfl⟩, r₁.mono p₂⟩

/-- statements -/
theorem hs_nil {PQ : PF → St → Prop} (h : PQ .next σ) : Hs C k pe [] σ PQ PE := fun A env s as Q E H N R X => wpAny_execs_nil (R.here H h .next)
theorem hs_cons {st : Stmt} {rest : List Stmt} {PQ : PF → St → Prop} (h : Hs1 C k pe st σ (fun f σ₁ => match f with | .next => Hs C k pe rest σ₁ PQ PE | f => PQ f σ₁) PE) : Hs C k pe (st :: rest) σ PQ PE := by
  intro A env s as Q E H N R X
  refine wpAny_execs_cons (h A env s as _ E H N (fun f pf σ₁ as₁ s₁ h₁ a₁ x₁ r₁ i₁ w₁ => ?_) X)
  cases r₁ with
  | next => exact h₁ A env s₁ as₁ _ E (H.step a₁ x₁ i₁) (N.mono a₁) (R.go a₁ x₁ w₁) (X.go a₁ x₁ w₁)
  | brk => exact R _ _ σ₁ as₁ s₁ h₁ a₁ x₁ .brk i₁ w₁
  | cont => exact R _ _ σ₁ as₁ s₁ h₁ a₁ x₁ .cont i₁ w₁
  | ret v => exact R _ _ σ₁ as₁ s₁ h₁ a₁ x₁ (.ret v) i₁ w₁

theorem hs_return {e : Expr} {pos : Pos} {PQ : PF → St → Prop} (h : Hx C k pe e σ (fun p σ₁ => PQ (.ret p) σ₁) PE) : Hs1 C k pe (.Return (some e) pos) σ PQ PE := by
  intro A env s as Q E H N R X
  exact wpAny_Return_some (h A env s as _ E H N (fun v p σ₁ as₁ s₁ h₁ a₁ x₁ r₁ i₁ w₁ => R _ _ σ₁ as₁ s₁ h₁ a₁ x₁ (.ret r₁) i₁ w₁) X)
theorem hs_if {t : Expr} {b o : List Stmt} {pos : Pos} {PQ : PF → St → Prop} (h : Ht C k pe t σ (fun c σ₁ => if c = true then Hs C k pe b σ₁ PQ PE else Hs C k pe o σ₁ PQ PE) PE) : Hs1 C k pe (.If t b o pos) σ PQ PE := by
  intro A env s as Q E H N R X
  refine wpAny_If (h A env s as _ E H N (fun v₁ p₁ σ₁ as₁ s₁ h₁ a₁ x₁ r₁ i₁ w₁ => ?_) X)
  obtain rfl : p₁ = v₁ := r₁
  cases p₁ with
  | true => simp only [if_true] at h₁ ⊢; exact h₁ A env s₁ as₁ _ E (H.step a₁ x₁ i₁) (N.mono a₁) (R.go a₁ x₁ w₁) (X.go a₁ x₁ w₁)
  | false => simp only [Bool.false_eq_true, if_false] at h₁ ⊢; exact h₁ A env s₁ as₁ _ E (H.step a₁ x₁ i₁) (N.mono a₁) (R.go a₁ x₁ w₁) (X.go a₁ x₁ w₁)
theorem hs_pass {pos : Pos} {PQ : PF → St → Prop} (h : PQ .next σ) : Hs1 C k pe (.Pass pos) σ PQ PE := fun A env s as Q E H N R X => wpAny_Pass (R.here H h .next)
end

/-- a name is bound: the state behind it -/
inductive BindIs (pe : PEnv) (σ : St) (x : Str) (p : PV) : St → Prop
  | loc {j : Nat} {l : List (Option PV)} : slotOf pe.scope.names x = some (j, .local) → σ[pe.L]? = some (.ns pe.scope.names l) → BindIs pe σ x p (σ.set pe.L (.ns pe.scope.names (l.set j (some p))))
  | cell {j c : Nat} {q : Option PV} : slotOf pe.scope.names x = some (j, .cell) → pe.cells.lookup x = some c → σ[c]? = some (.cell q) → BindIs pe σ x p (σ.set c (.cell (some p)))
section
variable {C : Cx} {k : Nat} {pe : PEnv} {σ : St} {PE : Value → St → Prop}

theorem t_store {x : Str} {p : PV} {σ' : St} {PQ : Unit → St → Prop} (e : BindIs pe σ x p σ') (h : PQ () σ')
    {A : Around} {env : Env} {s : Shared} {as : List Addr} {Q : Unit → Shared → Prop} {E : Value → Shared → Prop} {v : Value}
    (H : At C k pe as σ A s) (N : EnvRel as pe env) (r : VR as p v) (R : Run C as σ s UR PQ Q) : wpAny (model C.prog C.w) A (storeName env x v) Q E s := by
  cases e with
  | @loc j l e1 e2 =>
    obtain ⟨f1, f2⟩ := slotOf_spec e1
    obtain ⟨hL, m, hn, hv⟩ := H.inv.atRef e2 N.loc
    refine wpAny_storeName_local ((N.kindOf x).trans f2) hn (fun h' hn' hs' => ?_) (by rw [N.fkind]; rfl)
    refine R () () _ as _ h (List.prefix_refl _) Ext.setNs trivial (H.inv.put N.loc hs' ?_ (fun _ _ _ => ⟨_, _, e2⟩)) (Go.put (mem_of_get? N.loc) hs')
    refine ⟨by simpa using hL, _, hn', fun i y kd pv ey el => ?_⟩
    by_cases hij : j = i
    · subst hij
      rw [f1] at ey; cases ey
      by_cases hl : j < l.length
      · rw [List.getElem?_set_self hl] at el; cases el
        exact ⟨v, if_pos rfl, r⟩
      · rw [List.getElem?_eq_none (by simpa using Nat.le_of_not_lt hl)] at el; cases el
    · rw [List.getElem?_set_ne hij] at el
      have hy : y ≠ x := fun q => by
        subst q
        have g1 : (pe.scope.names.map (·.1))[j]? = some y := by rw [List.getElem?_map, f1]; rfl
        have g2 : (pe.scope.names.map (·.1))[i]? = some y := by rw [List.getElem?_map, ey]; rfl
        obtain ⟨l1, q1⟩ := List.getElem?_eq_some_iff.mp g1
        obtain ⟨l2, q2⟩ := List.getElem?_eq_some_iff.mp g2
        exact hij ((List.getElem_inj N.nd).mp (q1.trans q2.symm))
      rw [if_neg hy]; exact hv i y kd pv ey el
  | cell e1 e2 e3 =>
    obtain ⟨f1, f2⟩ := slotOf_spec e1
    rename_i q
    obtain ⟨a, ha, hai⟩ := N.cells.lookup e2
    have hcell : ∃ v₀, s.heap.IsCell a v₀ := by
      obtain ⟨o, ho, hd⟩ := H.inv.atRef e3 hai
      cases q with
      | none => obtain ⟨cv, hd⟩ := hd; exact ⟨_, o, ho, hd⟩
      | some p => obtain ⟨v', hd, _⟩ := hd; exact ⟨_, o, ho, hd⟩
    obtain ⟨v₀, hcell⟩ := hcell
    refine wpAny_storeName_cell N.fkind ((N.kindOf x).trans f2) ha hcell fun h' hv' hs' => ?_
    obtain ⟨o', ho', hd'⟩ := hv'
    exact R () () _ as _ h (List.prefix_refl _) (Ext.set e3 fun n l q => nomatch q) trivial (H.inv.put hai hs' ⟨o', ho', v, hd', r⟩ (fun _ _ q => nomatch q)) (Go.put (tk := s.toks) (mem_of_get? hai) hs')

theorem hs_assign {x : Str} {e : Expr} {pos pos' : Pos} {PQ : PF → St → Prop} (h : Hx C k pe e σ (fun p σ₁ => ∃ σ₂, BindIs pe σ₁ x p σ₂ ∧ PQ .next σ₂) PE)
    (hs : ∀ env, swapsWith e (some (.Name x pos')) pos.line env = pure false := by intro _; rfl) : Hs1 C k pe (.Assign [.Name x pos'] e pos) σ PQ PE := by
  intro A env s as Q E H N R X
  refine wpAny_Assign_Name (h A env s as _ E H N (fun v p σ₁ as₁ s₁ h₁ a₁ x₁ r₁ i₁ w₁ => ?_) X) (hs env)
  obtain ⟨σ₂, e₂, h₂⟩ := h₁
  refine t_store (PQ := fun _ σ' => PQ .next σ') e₂ h₂ (H.step a₁ x₁ i₁) (N.mono a₁) r₁ (fun u b σ₃ as₃ s₃ h₃ a₃ x₃ r₃ i₃ w₃ => ?_)
  exact R _ _ σ₃ as₃ s₃ h₃ (a₁.trans a₃) (x₁.trans x₃) .next i₃ (w₁.trans w₃)

theorem hs_aug {x : Str} {op : Operator} {e : Expr} {pos pos' : Pos} {p₀ : PV} {PQ : PF → St → Prop} (e₀ : NameIs pe σ x p₀)
    (h : Hx C k pe e σ (fun p σ₁ => T2 C k pe (inplaceOp op) VR p₀ p σ₁ (fun q σ₂ => ∃ σ₃, BindIs pe σ₂ x q σ₃ ∧ PQ .next σ₃) PE) PE)
    (hc : (x == ("__classdict__" : Str)) = false := by decide +kernel) : Hs1 C k pe (.AugAssign (.Name x pos') op e pos) σ PQ PE := by
  intro A env s as Q E H N R X
  refine wpAny_AugAssign_Name (wp_name H N e₀ (fun v₀ r₀ => ?_) hc)
  refine h A env s as _ E H N (fun v p σ₁ as₁ s₁ h₁ a₁ x₁ r₁ i₁ w₁ => ?_) X
  have H₁ := H.step a₁ x₁ i₁
  refine h₁ A env s₁ as₁ _ E _ _ H₁ (N.mono a₁) (r₀.mono a₁) r₁ (fun u q σ₂ as₂ s₂ h₂ a₂ x₂ r₂ i₂ w₂ => ?_) (X.go a₁ x₁ w₁)
  obtain ⟨σ₃, e₃, h₃⟩ := h₂
  refine t_store (PQ := fun _ σ' => PQ .next σ') e₃ h₃ (H₁.step a₂ x₂ i₂) ((N.mono a₁).mono a₂) r₂ (fun u b σ₄ as₄ s₄ h₄ a₄ x₄ r₄ i₄ w₄ => ?_)
  exact R _ _ σ₄ as₄ s₄ h₄ ((a₁.trans a₂).trans a₄) ((x₁.trans x₂).trans x₄) .next i₄ ((w₁.trans w₂).trans w₄)

theorem hs_expr {e : Expr} {pos : Pos} {PQ : PF → St → Prop} (h : Hx C k pe e σ (fun _ σ₁ => PQ .next σ₁) PE)
    (hs : ∀ env, swapsWith e none pos.line env = pure false := by intro _; rfl) : Hs1 C k pe (.Expr e pos) σ PQ PE := by
  intro A env s as Q E H N R X
  refine wpAny_Expr_any (h A env s as _ E H N (fun v p σ₁ as₁ s₁ h₁ a₁ x₁ r₁ i₁ w₁ => R _ _ σ₁ as₁ s₁ h₁ a₁ x₁ .next i₁ w₁) X) ?_ (hs env)
  unfold interactive; rw [N.fkind]; rfl
end
end Mine

set_option maxRecDepth 100000
set_option autoImplicit false
set_option linter.unusedVariables false
set_option linter.unusedSectionVars false
set_option linter.unusedSimpArgs false
namespace Mine
open PySem PySem.W PyProof.Rows PySem.Calls

/-- an object that is not in the account is changed -/
theorem HInv.other {h₀ : Heap} {as : List Addr} {σ : St} {h h' : Heap} {a : Addr} (H : HInv h₀ as σ h) (ha : a ∉ as) (hb : h₀.get? a = none) (hs : Heap.SameBut a h h') : HInv h₀ as σ h' := by
  refine ⟨H.len, H.nd, fun b o e => ?_, H.new, H.above, by rw [hs.1]; exact H.size, fun i x po e1 e2 => ?_⟩
  · exact (hs.2 b (fun q => by rw [q, hb] at e; cases e)).trans (H.base b o e)
  · refine (H.rel i x po e1 e2).keep fun o e => (hs.2 x fun q => ?_).trans e
    exact ha (q ▸ mem_of_get? e1)
theorem HInv.slots {h₀ : Heap} {as : List Addr} {σ : St} {h h' : Heap} {S : List Addr} (H : HInv h₀ as σ h) (hS : ∀ a ∈ S, ∃ i, as[i]? = some a ∧ NsAt σ i) (hs : Heap.SlotsOnly S h h') : HInv h₀ as σ h' := by
  refine ⟨H.len, H.nd, fun b o e => ?_, H.new, H.above, by rw [hs.1]; exact H.size, fun i x po e1 e2 => ?_⟩
  · refine (hs.2.1 b fun hb => ?_).trans (H.base b o e)
    obtain ⟨i, e1, _⟩ := hS b hb
    have := H.new _ (mem_of_get? e1); rw [e] at this; cases this
  · by_cases hx : x ∈ S
    · obtain ⟨j, f1, n, l, f2⟩ := hS x hx
      obtain ⟨l1, g1⟩ := List.getElem?_eq_some_iff.mp e1
      obtain ⟨l2, g2⟩ := List.getElem?_eq_some_iff.mp f1
      have hij : i = j := (List.getElem_inj H.nd).mp (g1.trans g2.symm)
      subst hij
      rw [e2] at f2; cases f2
      obtain ⟨hL, m, ⟨o, es, ep, ho, hd, hk, hm⟩, hl⟩ := H.rel i x _ e1 e2
      obtain ⟨sl, ho'⟩ := hs.2.2 x o ho
      exact ⟨hL, m, ⟨_, es, ep, ho', hd, hk, hm⟩, hl⟩
    · exact (H.rel i x po e1 e2).keep fun o e => (hs.2.1 x hx).trans e

theorem FRs.mem {as : List Addr} {is : List Nat} {envs : List Env} (h : FRs as is envs) : ∀ a ∈ envs.filterMap (·.frame), ∃ i ∈ is, as[i]? = some a := by
  induction h with
  | nil => intro a ha; simp at ha
  | @cons i b is env envs e1 e2 e3 _ ih =>
    intro a ha
    rw [List.filterMap_cons, e2] at ha
    rcases List.mem_cons.mp ha with rfl | ha
    · exact ⟨i, .head _, e1⟩
    · obtain ⟨j, hj, e⟩ := ih a ha; exact ⟨j, .tail _ hj, e⟩

theorem FRs.fun {h₀ : Heap} {as : List Addr} {σ : St} {h : Heap} {is : List Nat} {envs : List Env} (H : HInv h₀ as σ h) (F : FRs as is envs) (hn : ∀ i ∈ is, NsAt σ i) : h.FunFrames h₀ envs := by
  induction F with
  | nil => trivial
  | @cons i b is env envs e1 e2 e3 _ ih =>
    refine ⟨e3, ?_, ih fun j hj => hn j (.tail _ hj)⟩
    obtain ⟨n, l, hl⟩ := hn i (.head _)
    obtain ⟨_, m, ⟨o, es, ep, ho, hd, _⟩, _⟩ := H.rel i b _ e1 hl
    exact ⟨b, o, e2, H.new _ (mem_of_get? e1), ho, fun vs q => by rw [hd] at q; cases q⟩

section
variable {C : Cx} {k : Nat} {pe : PEnv} {σ : St}

theorem t_frameOf {A : Around} {env : Env} {s : Shared} {as : List Addr} {Q : Value → Shared → Prop} {E : Value → Shared → Prop}
    (H : At C k pe as σ A s) (N : EnvRel as pe env)
    (h : ∀ L h', env.frame = some L → L ∈ as → HInv C.h₀ as σ h' → (∀ b o, b ∉ as → s.heap.get? b = some o → h'.get? b = some o) → h'.objs.size = s.heap.objs.size → Q (.ref L) { s with heap := h' }) :
    wpAny (model C.prog C.w) A (PySem.frameOf env) Q E s := by
  obtain ⟨envs, hfr, F⟩ := H.a.frames
  obtain ⟨f, r, a, hf, ha, hfa⟩ := N.frame
  have hfun := FRs.fun H.inv F H.frs
  have hmem := F.mem
  have hnf := H.frs
  rw [hf] at F
  cases F with
  | @cons _ b _ fenv outer e1 e2 e3 F' =>
    rw [ha] at e1; cases e1
    unfold PySem.frameOf
    refine wpAny_bind (wpAny_frameEnvs hfr ?_)
    have hdw : ((fenv :: outer).dropWhile fun x => x.frame != env.frame) = fenv :: outer := by simp [List.dropWhile, e2, hfa]
    rw [hdw]
    unfold frameObject
    refine wpAny_bind (wpAny_bind (wpAny_readyFrames_fun hfun fun h₁ hs₁ => wpAny_pure ?_))
    rw [e2]
    refine wpAny_pure (h a h₁ hfa (mem_of_get? ha) (H.inv.slots (fun x hx => ?_) hs₁) (fun b o hb e => ?_) hs₁.1)
    · obtain ⟨i, hi, ei⟩ := hmem x hx
      exact ⟨i, ei, hnf i hi⟩
    · refine (hs₁.2.1 b fun hx => hb ?_).trans e
      obtain ⟨i, hi, ei⟩ := hmem b hx
      exact mem_of_get? ei

/-- a step with the exception in flight: what it may touch beside -/
def KpX (as xs : List Addr) (h : Heap) (xs' : List Addr) (h' : Heap) : Prop := (∀ b o, b ∉ as → b ∉ xs → h.get? b = some o → b ∉ xs' ∧ h'.get? b = some o)
theorem KpX.trans {as xs xs₁ xs₂ : List Addr} {h h₁ h₂ : Heap} (x : KpX as xs h xs₁ h₁) (y : KpX as xs₁ h₁ xs₂ h₂) : KpX as xs h xs₂ h₂ :=
  fun b o h1 h2 e => let ⟨h3, h4⟩ := x b o h1 h2 e; y b o h1 h3 h4
theorem GoX.more {as as' xs xs' : List Addr} {s s' : Shared} {h : Heap} {tk : Nat} (x : GoX as s as' xs s') (y : KpX as' xs s'.heap xs' h) : GoX as s as' xs' { s' with heap := h, toks := tk } :=
  ⟨x.srel.trans (SRel.heap s' h tk), fun b o hb e => let ⟨h1, h2, h3⟩ := x.kp b o hb e; let ⟨h4, h5⟩ := y b o h1 h2 h3; ⟨h1, h4, h5⟩⟩

theorem t_note {A : Around} {env : Env} {s : Shared} {as xs : List Addr} {Q : Unit → Shared → Prop} {E : Value → Shared → Prop} {e cls : Value} {tb : Bool}
    (H : At C k pe as σ A s) (N : EnvRel as pe env) (X : Exn C.h₀ as e cls tb xs s.heap)
    (h : ∀ h' xs', HInv C.h₀ as σ h' → Exn C.h₀ as e cls true xs' h' → KpX as xs s.heap xs' h' → Q () { s with heap := h' }) :
    wpAny (model C.prog C.w) A (noteFrame e env) Q E s := by
  obtain ⟨hxs, x, oe, vs, rfl, hx, he, hc, hd, hz, ht⟩ := X
  obtain ⟨f, r, a, hf, ha, hfa⟩ := N.frame
  unfold noteFrame
  rw [hfa]
  dsimp only
  have last : ∀ (s₁ : Shared) (vs₁ : Array Value) (oe₁ : Obj) (head : Value) (b : Bool), s₁ = { s with heap := s₁.heap } → HInv C.h₀ as σ s₁.heap → KpX as xs s.heap xs s₁.heap → s₁.heap.get? x = some oe₁ → oe₁.cls = cls → oe₁.data = .fields vs₁ → 1 < vs₁.size →
      wpAny (model C.prog C.w) A (do
        let a_1 ← PySem.frameOf env
        let pl ← entryPlaceOf a b
        let c ← EntryCells.newEntry head a_1 .none (rawInt a) .none pl
        setField (.ref x) 1 c) Q E s₁ := by
    intro s₁ vs₁ oe₁ head b hs₁ hi₁ hkp he₁ hc₁ hd₁ hz₁
    have H₁ : At C k pe as σ A s₁ := ⟨H.ok, H.a, hi₁, H.frs⟩
    refine wpAny_bind (t_frameOf H₁ N fun L h₂ hL hLm hi₂ hk₂ hz₂ => ?_)
    refine wpAny_bind (wpAny_entryPlaceOf fun pl hpl => ?_)
    unfold EntryCells.newEntry newFields
    refine wpAny_bind (wpAny_newObj_type ?_ (hpl.sizeOk5 _ _ _ _ _))
    have he₂ := hk₂ x _ (hxs x hx).1 he₁
    have hT : h₂.objs.size ∉ as := fun hm => Nat.lt_irrefl _ (hi₂.lt hm)
    generalize hto : ({ cls := .type "traceback", dict := none, data := .fields ([head, .ref L, .none, rawInt a, .none] ++ (if pl.isEmpty then List.replicate 6 Value.none else pl)).toArray } : Obj) = to
    have he₃ := Heap.get?_push_of_some (h := h₂) to he₂
    refine wpAny_setField he₃ hd₁ hz₁ ?_
    have hTe : h₂.objs.size ≠ x := Nat.ne_of_gt (Heap.lt_size he₂)
    have hd₃ := Obj.data_mapFields hd₁ (·.setIfInBounds 1 (Value.ref h₂.objs.size))
    have he₄ := Heap.get?_update_self (Obj.mapFields (·.setIfInBounds 1 (Value.ref h₂.objs.size))) he₃ (Obj.isFreed_of_fields hd₃)
    have hs := Heap.SameBut.update (h₂.push to) x (Obj.mapFields (·.setIfInBounds 1 (Value.ref h₂.objs.size)))
    have inv' := (hi₂.push to).other (hxs x hx).1 (hxs x hx).2 hs
    have hsz : h₂.objs.size = s₁.heap.objs.size := hz₂
    have key := h _ (h₂.objs.size :: xs) inv'
    rw [hs₁]
    refine key ?_ ?_
    · refine ⟨fun b hb => ?_, x, _, _, rfl, .tail _ hx, he₄, (Obj.cls_mapFields _ _).trans hc₁, hd₃, by simpa using hz₁, h₂.objs.size, to, _, by simp [hz₁], .head _, hTe, (Heap.get?_update_other _ _ (Ne.symm hTe)).trans (Heap.get?_push_size _ (by subst hto; rfl)), by subst hto; rfl, ?_⟩
      · rcases List.mem_cons.mp hb with rfl | hb
        · exact ⟨hT, none_of_size hi₂.size⟩
        · exact hxs b hb
      · simp only [List.size_toArray, List.length_append, List.length_cons, List.length_nil]; omega
    · refine KpX.trans hkp fun b o h1 h2 e => ⟨?_, ?_⟩
      · intro hm
        rcases List.mem_cons.mp hm with rfl | hm
        · exact absurd (Heap.lt_size e) (by rw [hsz]; exact Nat.lt_irrefl _)
        · exact h2 hm
      · exact (hs.2 b fun q => h2 (q ▸ hx)).trans (Heap.get?_push_of_some _ (hk₂ b o h1 e))
  have kp0 : KpX as xs s.heap xs s.heap := (fun b o h1 h2 e => ⟨h2, e⟩)
  cases tb with
  | false =>
    refine wpAny_bind (wpAny_field he hd ht ?_)
    rw [if_neg (by simp)]
    exact last s vs oe .none _ rfl H.inv kp0 he hc hd hz
  | true =>
    obtain ⟨T, oT, ts, ht1, hT, hTx, hoT, hdT, hzT⟩ := ht
    refine wpAny_bind (wpAny_field he hd ht1 ?_)
    rw [if_pos (by simp)]
    have h3 : ts[3]? = some ts[3] := Array.getElem?_eq_getElem hzT
    refine wpAny_bind (wpAny_field hoT hdT h3 ?_)
    by_cases hq : (ts[3] == rawInt a) = true
    · rw [if_pos hq]
      exact wpAny_pure (h s.heap xs H.inv ⟨hxs, x, oe, vs, rfl, hx, he, hc, hd, hz, T, oT, ts, ht1, hT, hTx, hoT, hdT, hzT⟩ kp0)
    · rw [if_neg hq]
      refine wpAny_bind (wpAny_setField hoT hdT hzT ?_)
      have hs := Heap.SameBut.update s.heap T (Obj.mapFields (·.setIfInBounds 3 Value.none))
      exact last { s with heap := s.heap.update T (Obj.mapFields (·.setIfInBounds 3 Value.none)) } vs oe (.ref T) _ rfl (H.inv.other (hxs T hT).1 (hxs T hT).2 hs)
        (fun b o h1 h2 e => ⟨h2, (hs.2 b fun q => h2 (q ▸ hT)).trans e⟩) ((hs.2 x (Ne.symm hTx)).trans he) hc hd hz

theorem t_setFlight {A : Around} {s : Shared} {as xs : List Addr} {Q : Unit → Shared → Prop} {E : Value → Shared → Prop} {e cls : Value} {tb : Bool} {fr : Option Addr}
    (H : At C k pe as σ A s) (X : Exn C.h₀ as e cls tb xs s.heap)
    (h : ∀ h', HInv C.h₀ as σ h' → Exn C.h₀ as e cls tb xs h' → KpX as xs s.heap xs h' → Q () { s with heap := h' }) :
    wpAny (model C.prog C.w) A (setFlight e fr) Q E s := by
  have X0 := X
  obtain ⟨hxs, x, oe, vs, rfl, hx, he, hc, hd, hz, ht⟩ := X
  unfold setFlight
  cases tb with
  | false =>
    refine wpAny_bind (wpAny_field he hd ht ?_)
    rw [if_neg (by simp)]
    exact wpAny_pure (h s.heap H.inv X0 (fun b o h1 h2 e => ⟨h2, e⟩))
  | true =>
    obtain ⟨T, oT, ts, ht1, hT, hTx, hoT, hdT, hzT⟩ := ht
    refine wpAny_bind (wpAny_field he hd ht1 ?_)
    rw [if_pos (by simp)]
    refine wpAny_setField hoT hdT hzT ?_
    have hs := Heap.SameBut.update s.heap T (Obj.mapFields (·.setIfInBounds 3 (fr.elim Value.none fun f => rawInt f)))
    have hd₃ := Obj.data_mapFields hdT (·.setIfInBounds 3 (fr.elim Value.none fun f => rawInt f))
    exact h _ (H.inv.other (hxs T hT).1 (hxs T hT).2 hs) ⟨hxs, x, oe, vs, rfl, hx, (hs.2 x (Ne.symm hTx)).trans he, hc, hd, hz, T, _, _, ht1, hT, hTx, Heap.get?_update_self _ hoT (Obj.isFreed_of_fields hd₃), hd₃, by simpa using hzT⟩
      (fun b o h1 h2 e => ⟨h2, (hs.2 b fun q => h2 (q ▸ hT)).trans e⟩)

theorem t_leaving {A : Around} {env : Env} {s : Shared} {as xs : List Addr} {Q : Unit → Shared → Prop} {E : Value → Shared → Prop} {e cls : Value} {tb : Bool}
    (H : At C k pe as σ A s) (N : EnvRel as pe env) (X : Exn C.h₀ as e cls tb xs s.heap)
    (h : ∀ h' xs', HInv C.h₀ as σ h' → Exn C.h₀ as e cls true xs' h' → KpX as xs s.heap xs' h' → Q () { s with heap := h' }) :
    wpAny (model C.prog C.w) A (leaving env e) Q E s := by
  unfold leaving
  refine wpAny_bind (t_note H N X fun h₁ xs₁ i₁ x₁ k₁ => ?_)
  exact t_setFlight (s := { s with heap := h₁ }) ⟨H.ok, H.a, i₁, H.frs⟩ x₁ fun h₂ i₂ x₂ k₂ => h h₂ xs₁ i₂ x₂ (k₁.trans k₂)

/-- the exception has been noted: what a loop's own activation asks -/
theorem t_cameBack {A : Around} {env : Env} {s : Shared} {as xs : List Addr} {E : Value → Shared → Prop} {e cls : Value}
    (H : At C k pe as σ A s) (X : Exn C.h₀ as e cls true xs s.heap) (h : ∀ h', HInv C.h₀ as σ h' → Exn C.h₀ as e cls true xs h' → KpX as xs s.heap xs h' → E e { s with heap := h' }) :
    cameBackBy (model C.prog C.w) A env E e s := by
  have X0 := X
  obtain ⟨hxs, x, oe, vs, rfl, hx, he, hc, hd, hz, T, oT, ts, ht1, hT, hTx, hoT, hdT, hzT⟩ := X
  unfold cameBackBy
  refine wpAny_bind (wpAny_field he hd ht1 ?_)
  rw [if_neg (by simp)]
  exact t_setFlight H X0 fun h' i x k => h h' i x k

theorem Exc.noted {A : Around} {env : Env} {s : Shared} {as : List Addr} {PE : Value → St → Prop} {E : Value → Shared → Prop} (X : Exc C as σ s PE E) (H : At C k pe as σ A s) (N : EnvRel as pe env) :
    Exc C as σ s PE (notedBy (model C.prog C.w) A env (cameBackBy (model C.prog C.w) A env E)) := by
  intro e cls tb xs σ' as' s' h1 h2 h3 h4 h5 h6
  have H' := H.step h2 h3 h5
  refine t_note H' (N.mono h2) h4 fun h₁ xs₁ i₁ x₁ k₁ => ?_
  refine t_cameBack (s := { s' with heap := h₁ }) ⟨H'.ok, H'.a, i₁, H'.frs⟩ x₁ fun h₂ i₂ x₂ k₂ => ?_
  exact X e cls true xs₁ σ' as' _ h1 h2 h3 x₂ i₂ (h6.more (tk := s'.toks) (k₁.trans k₂))
end
end Mine

set_option maxRecDepth 100000
set_option autoImplicit false
set_option linter.unusedVariables false
set_option linter.unusedSectionVars false
set_option linter.unusedSimpArgs false
namespace Mine
open PySem PySem.W PyProof.Rows PySem.Calls

inductive KRs (as : List Addr) : List (Str × PV) → List (Str × Value) → Prop
  | nil : KRs as [] []
  | cons {x p v ps vs} : VR as p v → KRs as ps vs → KRs as ((x, p) :: ps) ((x, v) :: vs)
theorem KRs.mono {as as' : List Addr} (q : as <+: as') {ps vs} (h : KRs as ps vs) : KRs as' ps vs := by
  induction h with
  | nil => exact .nil
  | cons h _ ih => exact .cons (h.mono q) ih
theorem KRs.of {as : List Addr} : ∀ {xs : List Str} {ps vs}, VRs as ps vs → KRs as (xs.zip ps) (xs.zip vs)
  | [], _, _, _ => by simpa using KRs.nil
  | x :: xs, [], _, .nil => by simpa using KRs.nil
  | x :: xs, _, _, .cons h r => by simpa using KRs.cons h (KRs.of r)
theorem KRs.zip {as : List Addr} : ∀ {xs : List Str} {ps vs}, VRs as ps vs → KRs as (xs.zip ps) (xs.zip vs) := KRs.of
theorem KRs.append {as : List Addr} {ps vs qs us} (h : KRs as ps vs) (g : KRs as qs us) : KRs as (ps ++ qs) (vs ++ us) := by
  induction h with
  | nil => exact g
  | cons h _ ih => exact .cons h ih
theorem KRs.reverse {as : List Addr} {ps vs} (h : KRs as ps vs) : KRs as ps.reverse vs.reverse := by
  induction h with
  | nil => exact .nil
  | cons h _ ih => rw [List.reverse_cons, List.reverse_cons]; exact ih.append (.cons h .nil)
theorem KRs.lookup {as : List Addr} {ps vs} (h : KRs as ps vs) {x : Str} : ∀ {p}, ps.lookup x = some p → ∃ v, vs.lookup x = some v ∧ VR as p v := by
  induction h with
  | nil => intro p e; cases e
  | @cons y q v ps vs h _ ih =>
    intro p e
    rw [List.lookup_cons] at e ⊢
    cases hx : (x == y) with
    | true => rw [hx] at e; cases e; exact ⟨v, rfl, h⟩
    | false => rw [hx] at e; exact ih e
theorem KRs.names {as : List Addr} {ps vs} (h : KRs as ps vs) : vs.map (·.1) = ps.map (·.1) := by
  induction h with
  | nil => rfl
  | cons h _ ih => simp [ih]

/-- a call of a value -/
def TC (C : Cx) (k : Nat) (pe : PEnv) (pf : PV) (ps : List PV) (kws : List (Str × PV)) (σ : St) (PQ : PV → St → Prop) (PE : Value → St → Prop) : Prop :=
  ∀ (A : Around) (env : Env) (s : Shared) (as : List Addr) (Q : Value → Shared → Prop) (E : Value → Shared → Prop) (f : Value) (vs : List Value) (ks : List (Str × Value)),
    At C k pe as σ A s → EnvRel as pe env → VR as pf f → VRs as ps vs → KRs as kws ks → Run C as σ s VR PQ Q → Exc C as σ s PE E → wpAny (model C.prog C.w) A (call f vs ks) Q E s

def KeepOk (C : Cx) (σ : St) (p : PV) : Prop :=
  ∀ (as : List Addr) (h : Heap) (v : Value), C.Ok → HInv C.h₀ as σ h → VR as p v → ∃ k, (k = Keeper.frame ∨ k = Keeper.machine ∨ k = Keeper.boundFrame) ∧ Looks (model C.prog C.w) h (keeperOf v) k

section
variable {C : Cx} {k : Nat} {pe : PEnv} {σ : St} {PE : Value → St → Prop}

theorem keep_K {v : Value} (e : keepIn C.K v = true) : KeepOk C σ (.lit v) := by
  intro as h u O H r
  cases r
  obtain ⟨k, a, b⟩ := looks_keep (M := model C.prog C.w) e (fun a o q => H.base a o (O.X a o q))
  exact ⟨k, a.elim .inl fun e => .inr (.inl e), b⟩
theorem keep_builtin {id : String} : KeepOk C σ (.lit (.builtin id)) := by
  intro as h u O H r
  cases r
  exact ⟨.machine, .inr (.inl rfl), Looks.of_pure rfl⟩
theorem keep_type {id : String} : KeepOk C σ (.lit (.type id)) := by
  intro as h u O H r
  cases r
  exact ⟨.machine, .inr (.inl rfl), Looks.of_pure rfl⟩

/-- the arguments, positional ones and named ones -/
def Hk (C : Cx) (k : Nat) (pe : PEnv) (pos : Pos) (kws : List Keyword) (σ : St) (PQ : List PV → St → Prop) (PE : Value → St → Prop) : Prop :=
  Tr C k pe (fun env => evalAll ((backToKw pos (keywordEach kws env)).map (·.2))) VRs σ PQ PE
theorem hk_nil {pos : Pos} {PQ : List PV → St → Prop} (h : PQ [] σ) : Hk C k pe pos [] σ PQ PE := fun A env s as Q E H N R X => wpAny_evalAll_nil (R.here H h .nil)
theorem hk_cons {pos : Pos} {n : Option Str} {e : Expr} {p : Pos} {kws : List Keyword} {PQ : List PV → St → Prop}
    (h : Hx C k pe e σ (fun q σ₁ => Hk C k pe pos kws σ₁ (fun ps σ₂ => PQ (q :: ps) σ₂) PE) PE) : Hk C k pe pos (⟨n, e, p⟩ :: kws) σ PQ PE := by
  intro A env s as Q E H N R X
  show wpAny _ _ (evalAll ((do let v ← eval e env; standAt pos; pure v) :: ((backToKw pos (keywordEach kws env)).map (·.2)))) _ _ _
  refine wpAny_evalAll_cons (wpAny_bind (h A env s as _ E H N (fun v₁ p₁ σ₁ as₁ s₁ h₁ a₁ x₁ r₁ i₁ w₁ => wpAny_bind (wpAny_standAt (wpAny_pure ?_))) X))
  refine h₁ A env s₁ as₁ _ E (H.step a₁ x₁ i₁) (N.mono a₁) (fun vs ps σ₂ as₂ s₂ h₂ a₂ x₂ r₂ i₂ w₂ => ?_) (X.go a₁ x₁ w₁)
  exact R _ _ σ₂ as₂ s₂ h₂ (a₁.trans a₂) (x₁.trans x₂) (.cons (r₁.mono a₂) r₂) i₂ (w₁.trans w₂)

def kwNames (kws : List Keyword) : List Str := kws.filterMap (·.arg)

theorem wp_callWith {A : Around} {env : Env} {s : Shared} {as : List Addr} {Q : Value → Shared → Prop} {E : Value → Shared → Prop} {pos : Pos} {pf : PV} {f : Value} {fs : List Value} {pfs : List PV} {args : List Expr} {kws : List Keyword}
    {PQ : PV → St → Prop} (H : At C k pe as σ A s) (N : EnvRel as pe env) (rf : VR as pf f) (rs : VRs as pfs fs) (R : Run C as σ s VR PQ Q) (X : Exc C as σ s PE E)
    (h : Hl C k pe pos args σ (fun ps σ₁ => Hk C k pe pos kws σ₁ (fun ks σ₂ => KeepOk C σ₂ pf ∧ TC C k pe pf (pfs ++ ps) ((kwNames kws).zip ks) σ₂ PQ PE) PE) PE)
    (hp : (backTo pos (starEach args env)).any (·.1) = false) (hk : kws.all (·.arg.isSome) = true) :
    wpAny (model C.prog C.w) A (callWith pos f fs (backTo pos (starEach args env)) (backToKw pos (keywordEach kws env))) Q E s := by
  have hall : ∀ kws : List Keyword, kws.all (·.arg.isSome) = true → (backToKw pos (keywordEach kws env)).all (·.1.isSome) = true ∧ (backToKw pos (keywordEach kws env)).filterMap (·.1) = kwNames kws := by
    intro kws
    induction kws with
    | nil => intro _; exact ⟨rfl, rfl⟩
    | cons x r ih =>
      obtain ⟨n, e, p⟩ := x
      intro hx
      rw [List.all_cons, Bool.and_eq_true] at hx
      obtain ⟨i1, i2⟩ := ih hx.2
      refine ⟨?_, ?_⟩
      · show (n.isSome && (backToKw pos (keywordEach r env)).all (·.1.isSome)) = true
        rw [i1, Bool.and_true]; exact hx.1
      · cases n with
        | none => cases hx.1
        | some n =>
          show n :: (backToKw pos (keywordEach r env)).filterMap (·.1) = _
          rw [i2]; rfl
  obtain ⟨a1, a2⟩ := hall kws hk
  have hnone : (backToKw pos (keywordEach kws env)).any (·.1.isNone) = false := by
    rw [List.any_eq_false]
    intro x hx
    have := List.all_eq_true.mp a1 x hx
    cases q : x.1 with
    | none => rw [q] at this; cases this
    | some n => simp [q]
  refine callWith_of (P := fun h => ∃ k, (k = Keeper.frame ∨ k = Keeper.machine ∨ k = Keeper.boundFrame) ∧ Looks (model C.prog C.w) h (keeperOf f) k) (by rw [hp, hnone]; rfl) (fun _ x => x) ?_
  have body : wpAny (model C.prog C.w) A (spliced (backTo pos (starEach args env))) (fun vs s₁ => wpAny (model C.prog C.w) A (evalAll ((backToKw pos (keywordEach kws env)).map (·.2)))
      (fun ks s₂ => (∃ k, (k = Keeper.frame ∨ k = Keeper.machine ∨ k = Keeper.boundFrame) ∧ Looks (model C.prog C.w) s₂.heap (keeperOf f) k) ∧
        wpAny (model C.prog C.w) A (call f (fs ++ vs) ((kwNames kws).zip ks)) Q E s₂) E s₁) E s := by
    refine h A env s as _ E H N (fun vs ps σ₁ as₁ s₁ h₁ a₁ x₁ r₁ i₁ w₁ => ?_) X
    have H₁ := H.step a₁ x₁ i₁
    refine h₁ A env s₁ as₁ _ E H₁ (N.mono a₁) (fun ks qs σ₂ as₂ s₂ h₂ a₂ x₂ r₂ i₂ w₂ => ?_) (X.go a₁ x₁ w₁)
    have a₁₂ := a₁.trans a₂
    refine ⟨h₂.1 as₂ s₂.heap f H.ok i₂ (rf.mono a₁₂), ?_⟩
    exact h₂.2 A env s₂ as₂ _ E f _ _ (H₁.step a₂ x₂ i₂) (N.mono a₁₂) (rf.mono a₁₂) ((rs.mono a₁₂).append (r₁.mono a₂)) (KRs.of r₂) ((R.go a₁ x₁ w₁).go a₂ x₂ w₂) ((X.go a₁ x₁ w₁).go a₂ x₂ w₂)
  have fin : wpAny (model C.prog C.w) A (spliced (backTo pos (starEach args env))) (fun vs s₁ => wpAny (model C.prog C.w) A (evalAll ((backToKw pos (keywordEach kws env)).map (·.2)))
      (fun ks s₂ => (∃ k, (k = Keeper.frame ∨ k = Keeper.machine ∨ k = Keeper.boundFrame) ∧ Looks (model C.prog C.w) s₂.heap (keeperOf f) k) ∧
        wpAny (model C.prog C.w) A (call f (fs ++ vs) (((backToKw pos (keywordEach kws env)).filterMap (·.1)).zip ks)) Q E s₂) E s₁) E s := by rw [a2]; exact body
  generalize hl : backTo pos (starEach args env) = l at hp fin ⊢
  cases l with
  | nil =>
    unfold evalArgs
    show wpAny _ _ (spliced [] >>= _) _ _ s
    refine wpAny_bind (wpAny_mono fin (fun vs s₁ h₁ => ?_) fun _ _ x => x)
    refine wpAny_bind (wpAny_pure ?_)
    refine wpAny_holding ?_
    simp only [a1, if_true]
    refine wpAny_bind (wpAny_mono h₁ (fun ks s₂ h₂ => ?_) fun _ _ x => x)
    exact wpAny_bind (wpAny_pure (wpAny_pure h₂))
  | cons x r =>
    obtain ⟨b, t⟩ := x
    rw [List.any_cons, Bool.or_eq_false_iff] at hp
    cases hp.1
    exact evalArgs_kw a1 fin

theorem hx_call {f : Expr} {args : List Expr} {kws : List Keyword} {pos : Pos} {PQ : PV → St → Prop}
    (h : Hx C k pe f σ (fun pf σ₁ => Hl C k pe pos args σ₁ (fun ps σ₂ => Hk C k pe pos kws σ₂ (fun ks σ₃ => KeepOk C σ₃ pf ∧ TC C k pe pf ps ((kwNames kws).zip ks) σ₃ PQ PE) PE) PE) PE)
    (he : ∀ env, eval (.Call f args kws pos) env = (do callWith pos (← eval f env) [] (backTo pos (starEach args env)) (backToKw pos (keywordEach kws env))) := by intro _; rfl)
    (hp : ∀ env, (backTo pos (starEach args env)).any (·.1) = false := by intro _; rfl) (hk : kws.all (·.arg.isSome) = true := by rfl) : Hx C k pe (.Call f args kws pos) σ PQ PE := by
  intro A env s as Q E H N R X
  rw [he env]
  refine wpAny_bind (h A env s as _ E H N (fun vf pf σ₁ as₁ s₁ h₁ a₁ x₁ r₁ i₁ w₁ => ?_) X)
  exact wp_callWith (H.step a₁ x₁ i₁) (N.mono a₁) r₁ .nil (R.go a₁ x₁ w₁) (X.go a₁ x₁ w₁) (by simpa using h₁) (hp env) hk

/-- what a method call finds -/
inductive MR (as : List Addr) : PV × List PV → Value × List Value → Prop
  | mk {p v ps vs} : VR as p v → VRs as ps vs → MR as (p, ps) (v, vs)
def TM (C : Cx) (k : Nat) (pe : PEnv) (name : Str) (p : PV) (σ : St) (PQ : PV × List PV → St → Prop) (PE : Value → St → Prop) : Prop :=
  ∀ pl : Sem Bool, T1 C k pe (fun v => getMethod v name pl) MR p σ PQ PE

theorem hx_mcall {o : Expr} {name : Str} {apos pos : Pos} {args : List Expr} {kws : List Keyword} {PQ : PV → St → Prop}
    (h : Hx C k pe o σ (fun po σ₁ => TM C k pe name po σ₁ (fun fm σ₂ => Hl C k pe pos args σ₂ (fun ps σ₃ => Hk C k pe pos kws σ₃ (fun ks σ₄ => KeepOk C σ₄ fm.1 ∧ TC C k pe fm.1 (fm.2 ++ ps) ((kwNames kws).zip ks) σ₄ PQ PE) PE) PE) PE) PE)
    (he : ∀ env, ∃ pl : Sem Bool, eval (.Call (.Attribute o name apos) args kws pos) env = (do
      let ov ← eval o env
      standAt apos.atName
      let (f, first) ← holding [ov] (getMethod ov name pl)
      callWith pos f first (backTo pos (starEach args env)) (backToKw pos (keywordEach kws env))) := by intro _; exact ⟨_, rfl⟩)
    (hp : ∀ env, (backTo pos (starEach args env)).any (·.1) = false := by intro _; rfl) (hk : kws.all (·.arg.isSome) = true := by rfl) : Hx C k pe (.Call (.Attribute o name apos) args kws pos) σ PQ PE := by
  intro A env s as Q E H N R X
  obtain ⟨pl, e⟩ := he env
  refine methodCall_KW (pl := pl) (h A env s as _ E H N (fun vo po σ₁ as₁ s₁ h₁ a₁ x₁ r₁ i₁ w₁ => ?_) X) e
  have H₁ := H.step a₁ x₁ i₁
  refine h₁ pl A env s₁ as₁ _ E _ H₁ (N.mono a₁) r₁ (fun fx fm σ₂ as₂ s₂ h₂ a₂ x₂ r₂ i₂ w₂ => ?_) (X.go a₁ x₁ w₁)
  cases r₂ with
  | mk rf rs => exact wp_callWith (H₁.step a₂ x₂ i₂) ((N.mono a₁).mono a₂) rf rs ((R.go a₁ x₁ w₁).go a₂ x₂ w₂) ((X.go a₁ x₁ w₁).go a₂ x₂ w₂) h₂ (hp env) hk
end

/-- names of a scope that are cells, in the order in which they are made -/
def cellNames (names : List (Str × NameKind)) : List Str := (names.filter fun x => x.2 == .cell).map (·.1)

theorem cells_rel {as : List Addr} : ∀ (names : List (Str × NameKind)) (i n : Nat) (cs : List (Str × Nat)) (ds : List (Str × Addr)), CRs as cs ds →
    (∀ j, j < (cellNames names).length → as[i + j]? = some (n + j)) → CRs as (cellsFrom i names cs) (cellsFrom n names ds)
  | [], _, _, _, _, h, _ => h
  | (y, kd) :: r, i, n, cs, ds, h, hj => by
    unfold cellsFrom
    by_cases hk : (kd == NameKind.cell) = true
    · rw [if_pos hk, if_pos hk]
      have hc : cellNames ((y, kd) :: r) = y :: cellNames r := by simp [cellNames, List.filter_cons, hk]
      rw [hc] at hj
      refine cells_rel r (i + 1) (n + 1) _ _ (.cons ?_ h) fun j hjl => ?_
      · have := hj 0 (by simp); simpa using this
      · have := hj (j + 1) (by simp; omega)
        rw [Nat.add_assoc, Nat.add_comm 1 j, Nat.add_assoc n 1 j, Nat.add_comm 1 j]; exact this
    · rw [if_neg hk, if_neg hk]
      have hc : cellNames ((y, kd) :: r) = cellNames r := by
        have : (kd == NameKind.cell) = false := by simpa using hk
        simp [cellNames, List.filter_cons, this]
      rw [hc] at hj
      exact cells_rel r i n _ _ h hj

theorem cells_mem : ∀ (names : List (Str × NameKind)) (n : Nat) (acc : List (Str × Addr)), (∀ x ∈ acc, x ∈ cellsFrom n names acc) ∧ ∀ (j : Nat) (x : Str), (cellNames names)[j]? = some x → (x, n + j) ∈ cellsFrom n names acc
  | [], n, acc => ⟨fun _ h => h, fun j x h => by simp [cellNames] at h⟩
  | (y, kd) :: r, n, acc => by
    unfold cellsFrom
    by_cases hk : (kd == NameKind.cell) = true
    · rw [if_pos hk]
      have hc : cellNames ((y, kd) :: r) = y :: cellNames r := by simp [cellNames, List.filter_cons, hk]
      rw [hc]
      obtain ⟨m1, m2⟩ := cells_mem r (n + 1) ((y, n) :: acc)
      refine ⟨fun x hx => m1 x (.tail _ hx), fun j x hj => ?_⟩
      cases j with
      | zero => simp at hj; subst hj; exact m1 _ (.head _)
      | succ j =>
        simp at hj
        have := m2 j x hj
        rwa [Nat.add_assoc, Nat.add_comm 1 j] at this
    · rw [if_neg hk]
      have hc : cellNames ((y, kd) :: r) = cellNames r := by
        have : (kd == NameKind.cell) = false := by simpa using hk
        simp [cellNames, List.filter_cons, this]
      rw [hc]
      exact cells_mem r n acc

/-- where a def of the text stands, and what it is -/
structure FunAt (h₀ : Heap) (f : Addr) (params : Arguments) (body : List Stmt) (scope : Scope) (dV : Value) : Prop where
  there : ∃ o fd, h₀.get? f = some o ∧ o.data = .func fd ∧ fd.params = params ∧ fd.body = .stmts body ∧ fd.scope = scope ∧ fd.globals = mainGlobals ∧ fd.closure = [] ∧ fd.defaults = dV ∧ fd.builtins = builtinsNs ∧ h₀.CodeRec fd.code fd.qualname
theorem funAt_K {K : Frag} {h₀ : Heap} (X : K.In h₀) {f : Addr} {params : Arguments} {body : List Stmt} {scope : Scope} {oc dV : Value} {od : Option Addr} {osl : Array (Option Value)} {name qual : Str} {kV doc pm : Value} {an : Option Addr} {cdv ct : Value}
    (e : K.lookup f = some ⟨oc, od, .func (fnOf name qual params body scope dV kV doc pm an cdv ct), osl⟩) (hc : codeIn K cdv qual = true) : FunAt h₀ f params body scope dV :=
  ⟨_, _, X _ _ e, rfl, rfl, rfl, rfl, rfl, rfl, rfl, rfl, codeRec_of X hc⟩

/-- the parameters are bound -/
def BindOk (C : Cx) (σ : St) (params : Arguments) (dV : Value) (ps : List PV) (kws : List (Str × PV)) (pb : List (Str × PV)) : Prop :=
  ∀ (as : List Addr) (s : Shared) (vs : List Value) (ks : List (Str × Value)) (name qual : Str) (body : FuncBody) (scope : Scope) (g : Addr) (cl : List (Str × Addr)) (kV doc pm : Value) (an : Option Addr) (cdv ct : Value) (bn : Addr),
    C.Ok → HInv C.h₀ as σ s.heap → VRs as ps vs → KRs as kws ks → ∃ binds, BindsTo s ⟨name, qual, params, body, scope, g, cl, dV, kV, doc, pm, an, cdv, ct, bn⟩ ⟨vs, ks⟩ binds ∧ KRs as pb binds

/-- the frame's names and cells at the start -/
def locP (scope : Scope) (pb : List (Str × PV)) : List (Option PV) := scope.names.map fun y => (pb.filter fun x => decide (scope.names.lookup x.1 = some .local)).reverse.lookup y.1
def cellP (scope : Scope) (pb : List (Str × PV)) : List PO := (cellNames scope.names).map fun x => .cell ((pb.filter fun x => !decide (scope.names.lookup x.1 = some .local)).reverse.lookup x)

theorem bindL_lookup {as : List Addr} (kindOf : Str → Option NameKind) : ∀ {pb : List (Str × PV)} {binds : List (Str × Value)}, KRs as pb binds → ∀ (m : Str → Option Value) (l : List (Str × PV)), (∀ x pv, l.lookup x = some pv → ∃ v, m x = some v ∧ VR as pv v) →
    ∀ x pv, ((pb.filter fun x => decide (kindOf x.1 = some .local)).reverse ++ l).lookup x = some pv → ∃ v, bindL kindOf binds m x = some v ∧ VR as pv v
  | [], _, .nil, m, l, hm, x, pv, e => hm x pv (by simpa using e)
  | _, _, @KRs.cons _ y p v ps vs h r, m, l, hm, x, pv, e => by
    unfold bindL
    by_cases hk : kindOf y = some .local
    · rw [if_pos hk]
      rw [List.filter_cons, if_pos (by simpa using hk), List.reverse_cons, List.append_assoc] at e
      refine bindL_lookup kindOf r _ ([(y, p)] ++ l) (fun z pz hz => ?_) x pv e
      rw [List.singleton_append, List.lookup_cons] at hz
      by_cases hzy : z = y
      · subst hzy; simp at hz; subst hz; exact ⟨v, if_pos rfl, h⟩
      · have : (z == y) = false := by simpa using hzy
        rw [this] at hz
        rw [if_neg hzy]; exact hm z pz hz
    · rw [if_neg hk]
      rw [List.filter_cons, if_neg (by simpa using hk)] at e
      exact bindL_lookup kindOf r m l hm x pv e
theorem bindC_lookup {as : List Addr} (kindOf : Str → Option NameKind) : ∀ {pb : List (Str × PV)} {binds : List (Str × Value)}, KRs as pb binds → ∀ (m : Str → Option Value) (l : List (Str × PV)), (∀ x pv, l.lookup x = some pv → ∃ v, m x = some v ∧ VR as pv v) →
    ∀ x pv, ((pb.filter fun x => !decide (kindOf x.1 = some .local)).reverse ++ l).lookup x = some pv → ∃ v, bindC kindOf binds m x = some v ∧ VR as pv v
  | [], _, .nil, m, l, hm, x, pv, e => hm x pv (by simpa using e)
  | _, _, @KRs.cons _ y p v ps vs h r, m, l, hm, x, pv, e => by
    unfold bindC
    by_cases hk : kindOf y = some .local
    · rw [if_pos hk]
      rw [List.filter_cons, if_neg (by simpa using hk)] at e
      exact bindC_lookup kindOf r m l hm x pv e
    · rw [if_neg hk]
      rw [List.filter_cons, if_pos (by simpa using hk), List.reverse_cons, List.append_assoc] at e
      refine bindC_lookup kindOf r _ ([(y, p)] ++ l) (fun z pz hz => ?_) x pv e
      rw [List.singleton_append, List.lookup_cons] at hz
      by_cases hzy : z = y
      · subst hzy; simp at hz; subst hz; exact ⟨v, if_pos rfl, h⟩
      · have : (z == y) = false := by simpa using hzy
        rw [this] at hz
        rw [if_neg hzy]; exact hm z pz hz

theorem range_get {n c j : Nat} (h : j < c) : (List.range' n c)[j]? = some (n + j) := by
  rw [List.getElem?_eq_getElem (by simpa using h)]; simp

section
variable {C : Cx} {k : Nat} {pe : PEnv} {σ : St} {PE : Value → St → Prop}

theorem code_defC {f : Addr} {params : Arguments} {body : List Stmt} {scope : Scope} {dV : Value} {ps : List PV} {kws pb : List (Str × PV)} {PQ : PV → St → Prop} {frs : List Nat} {cl : Bool}
    (F : FunAt C.h₀ f params body scope dV) (B : BindOk C σ params dV ps kws pb)
    {l₀ : List (Option PV)} {cs₀ : List PO} {ci₀ : List (Str × Nat)} (hl₀ : locP scope pb = l₀) (hcs : cellP scope pb = cs₀) (hci : cellsFrom (σ.length + 1) scope.names [] = ci₀)
    (h : Hs C k ⟨scope, σ.length, ci₀, σ.length :: frs, cl⟩ body (σ ++ .ns scope.names l₀ :: cs₀)
      (fun fl σ' => match fl with | .ret p => PQ p σ' | _ => PQ .none σ') PE)
    (hnn : (scope.names.map (·.1)).Nodup)
    (hkind : (pb.all fun y => scope.names.lookup y.1 == some .local || (scope.names.lookup y.1 == some .cell && ((cellsFrom 0 scope.names []).lookup y.1).isSome)) = true)
    (hnd : ((cellsFrom 0 scope.names []).map (·.1)).Nodup)
    (hk : scope.kind = .function) (hco : scope.isCoroutine = false) (hgen : scope.isGenerator = false)
    {A : Around} {s : Shared} {as : List Addr} {Q : Value → Shared → Prop} {E : Value → Shared → Prop} {vs : List Value} {ks : List (Str × Value)}
    (ok : C.Ok) (inv : HInv C.h₀ as σ s.heap) (afr : ∃ envs, A.frames = some envs ∧ FRs as frs envs) (acl : cl = true → A.handled = none) (adep : A.depth + 8 * (k + 1) < recursionLimit) (aun : A.units + 40 * (k + 1) < cLine)
    (hfrs : ∀ i ∈ frs, NsAt σ i) (rs : VRs as ps vs) (rk : KRs as kws ks) (R : Run C as σ s VR PQ Q) (X : Exc C as σ s PE E) :
    codeAny (model C.prog C.w) A (.call (.ref f) ⟨vs, ks⟩) (fun r s' => match r with | .ok (.ret v) => Q v s' | .ok _ => False | .error e => E e s') s := by
  subst hl₀; subst hcs; subst hci
  obtain ⟨o, ⟨name, qual, params', body', scope', g', cl', dV', kV, doc, pm, an, cdv, ct, bn⟩, ho, hdata, e1, e2, e3, e4, e5, e6, e7, hcd⟩ := F.there
  simp only at e1 e2 e3 e4 e5 e6 e7 hcd
  subst e1 e2 e3 e4 e5 e6 e7
  obtain ⟨binds, hb, rb⟩ := B as s vs ks name qual (.stmts body) scope' mainGlobals [] kV doc pm an cdv ct builtinsNs ok inv rs rk
  have hoS := inv.base _ _ ho
  refine codeAny_call_function (fd := ⟨name, qual, params', .stmts body, scope', mainGlobals, [], dV', kV, doc, pm, an, cdv, ct, builtinsNs⟩) (body := body) (Nat.lt_of_le_of_lt (Nat.le_add_right _ _) adep) hoS hdata hco hgen rfl (hcd.keeps inv.base) (hb _ _ _ _ ?_)
  have hlim : s.heap.NoLimit := ok.T.nolimit.keeps inv.base
  refine wpAny_newFunctionEnv_cells hk (fun x hx => ?_) fun env' he s' x => ?_
  · have hn := rb.names
    have hx1 : x.1 ∈ pb.map (·.1) := hn ▸ List.mem_map_of_mem hx
    obtain ⟨y, hy, hyx⟩ := List.mem_map.mp hx1
    have := List.all_eq_true.mp hkind y hy
    rw [hyx] at this
    rcases Bool.or_eq_true_iff.mp this with q | q
    · exact .inl (by simpa using q)
    · obtain ⟨q1, q2⟩ := (Bool.and_eq_true _ _).mp q |> fun z => (z : _ ∧ _)
      exact .inr ⟨by simpa using q1, cellsFrom_some _ _ _ (.inl (by simpa using q1))⟩
  subst he
  refine ⟨hlim.keeps x.toInCall.keep, codeAny_func ?_⟩
  obtain ⟨h₁, tk, rfl⟩ := x.toInCall.same
  have hkeep := x.toInCall.keep
  let env' := newEnv scope' s.heap.objs.size mainGlobals (cellsFrom (s.heap.objs.size + 1) scope'.names []) (qual ++ ".<locals>.") (some f) cdv none builtinsNs
  let L := s.heap.objs.size
  let cn := cellNames scope'.names
  have hnd' : ((cellsFrom (L + 1) scope'.names []).map (·.1)).Nodup := by
    rw [cellsFrom_names scope'.names (L + 1) 0 [] [] rfl]; exact hnd
  have hsz : s.heap.objs.size ≤ h₁.objs.size := by
    obtain ⟨m, ⟨o, _, _, ho', _⟩, _⟩ := (⟨_, x.toInCall.ns, True.intro⟩ : ∃ m, h₁.Ns L m ∧ True)
    exact Nat.le_of_lt (Heap.lt_size ho')
  have I₁ := inv.keeps hkeep hsz
  have notin : ∀ a, L ≤ a → a ∉ as := fun a ha hm => Nat.lt_irrefl _ (Nat.lt_of_lt_of_le (inv.lt hm) ha)
  have pre : as <+: as ++ L :: List.range' (L + 1) cn.length := List.prefix_append _ _
  have I₂ : HInv C.h₀ (as ++ L :: List.range' (L + 1) cn.length) (σ ++ .ns scope'.names (locP scope' pb) :: cellP scope' pb) h₁ := by
    refine I₁.takes (L :: List.range' (L + 1) cn.length) (.ns scope'.names (locP scope' pb) :: cellP scope' pb) (by simp [cellP, cn]) ?_ (fun a ha => ?_) (fun i a po e1 e2 => ?_)
    · rw [List.nodup_cons]
      refine ⟨fun hm => ?_, List.nodup_range'⟩
      have := (List.mem_range'_1.mp hm).1
      omega
    · have hal : L ≤ a := by
        rcases List.mem_cons.mp ha with rfl | ha
        · exact Nat.le_refl _
        · have := (List.mem_range'_1.mp ha).1; omega
      exact ⟨notin a hal, Nat.le_trans inv.size hal⟩
    · cases i with
      | zero =>
        simp at e1 e2
        subst e1; subst e2
        refine ⟨by simp [locP], _, x.toInCall.ns, fun j y kd pv ey el => ?_⟩
        unfold locP at el
        rw [List.getElem?_map, ey] at el
        simp only [Option.map_some, Option.some.injEq] at el
        obtain ⟨v, e3, e4⟩ := bindL_lookup (as := as) env'.kindOf rb (fun _ => none) [] (fun _ _ q => by cases q) y pv (by rw [List.append_nil]; exact el)
        exact ⟨v, e3, e4.mono pre⟩
      | succ j =>
        simp at e1 e2
        have hj : j < cn.length := by
          have := (List.getElem?_eq_some_iff.mp e1).1; simpa using this
        rw [range_get hj] at e1
        cases e1
        unfold cellP at e2
        rw [List.getElem?_map] at e2
        cases hcj : (cellNames scope'.names)[j]? with
        | none => rw [hcj] at e2; cases e2
        | some cname =>
          rw [hcj] at e2
          cases e2
          have hm := (cells_mem scope'.names (L + 1) []).2 j cname hcj
          obtain ⟨o, ho', hd'⟩ := x.cell cname _ (lookup_of_mem_nodup hnd' hm)
          refine ⟨o, ho', ?_⟩
          cases hq : (pb.filter fun x => !decide (scope'.names.lookup x.1 = some .local)).reverse.lookup cname with
          | none => exact ⟨_, hd'⟩
          | some pv =>
            obtain ⟨v, e3, e4⟩ := bindC_lookup (as := as) env'.kindOf rb (fun _ => none) [] (fun _ _ q => by cases q) cname pv (by rw [List.append_nil]; exact hq)
            exact ⟨v, hd'.trans (congrArg Data.cell e3), e4.mono pre⟩
  have atL : (as ++ L :: List.range' (L + 1) cn.length)[σ.length]? = some L := by
    rw [← inv.len]; simp
  have N₂ : EnvRel (as ++ L :: List.range' (L + 1) cn.length) ⟨scope', σ.length, cellsFrom (σ.length + 1) scope'.names [], σ.length :: frs, cl⟩ env' := by
    refine ⟨rfl, hk, hnn, atL, ?_, rfl, rfl, ⟨_, _, L, rfl, atL, rfl⟩⟩
    refine cells_rel scope'.names (σ.length + 1) (L + 1) [] [] .nil fun j hj => ?_
    rw [← inv.len, List.getElem?_append_right (by omega)]
    have : as.length + 1 + j - as.length = j + 1 := by omega
    rw [this, List.getElem?_cons_succ]
    exact range_get hj
  have H₂ : At C k ⟨scope', σ.length, cellsFrom (σ.length + 1) scope'.names [], σ.length :: frs, cl⟩ (as ++ L :: List.range' (L + 1) cn.length) (σ ++ .ns scope'.names (locP scope' pb) :: cellP scope' pb)
      (A.deeper env') { s with heap := h₁, toks := tk } := by
    refine ⟨ok, ⟨?_, acl, ?_, ?_⟩, I₂, fun i hi => ?_⟩
    · obtain ⟨envs, hfr, FF⟩ := afr
      exact ⟨_, Around.frames_deeper hfr, .cons atL rfl (by show scope'.kind ≠ .module; rw [hk]; decide) (FF.mono pre)⟩
    · show A.depth + 1 + 8 * k < _; omega
    · show A.units + 3 + 40 * k < _; omega
    · rcases List.mem_cons.mp hi with rfl | hi
      · exact ⟨scope'.names, locP scope' pb, by simp⟩
      · exact (Ext.append σ _).2 i (hfrs i hi)
  have go : Go as s (as ++ L :: List.range' (L + 1) cn.length) { s with heap := h₁, toks := tk } := by
    refine Go.keeps hkeep trivial fun a ha hn => none_of_size ?_
    rcases List.mem_append.mp ha with ha | ha
    · exact absurd ha hn
    · rcases List.mem_cons.mp ha with rfl | ha
      · exact Nat.le_refl _
      · have := (List.mem_range'_1.mp ha).1; show s.heap.objs.size ≤ a; omega
  have ext : Ext σ (σ ++ .ns scope'.names (locP scope' pb) :: cellP scope' pb) := Ext.append _ _
  refine h _ _ _ _ _ _ H₂ N₂ (fun fl pf σ₃ as₃ s₃ h₃ a₃ x₃ r₃ i₃ w₃ => ?_) (fun e cls tb xs σ₃ as₃ s₃ h₃ a₃ x₃ n₃ i₃ w₃ => ?_)
  · cases r₃ with
    | ret r => exact R _ _ σ₃ as₃ s₃ h₃ (pre.trans a₃) (ext.trans x₃) r i₃ (go.trans w₃)
    | next => exact R _ _ σ₃ as₃ s₃ h₃ (pre.trans a₃) (ext.trans x₃) .none i₃ (go.trans w₃)
    | brk => exact R _ _ σ₃ as₃ s₃ h₃ (pre.trans a₃) (ext.trans x₃) .none i₃ (go.trans w₃)
    | cont => exact R _ _ σ₃ as₃ s₃ h₃ (pre.trans a₃) (ext.trans x₃) .none i₃ (go.trans w₃)
  · refine t_leaving (H₂.step a₃ x₃ i₃) (N₂.mono a₃) n₃ fun h₄ xs₄ i₄ n₄ k₄ => ?_
    exact X e cls true xs₄ σ₃ as₃ _ h₃ (pre.trans a₃) (ext.trans x₃) n₄ i₄ ((go.trans w₃).more (tk := s₃.toks) k₄)

/-- a call of a def, from wherever -/
def TF (C : Cx) (k : Nat) (frs : List Nat) (cl : Bool) (f : Addr) (ps : List PV) (kws : List (Str × PV)) (σ : St) (PQ : PV → St → Prop) (PE : Value → St → Prop) : Prop :=
  ∀ (A : Around) (s : Shared) (as : List Addr) (Q : Value → Shared → Prop) (E : Value → Shared → Prop) (vs : List Value) (ks : List (Str × Value)), C.Ok → HInv C.h₀ as σ s.heap → (∃ envs, A.frames = some envs ∧ FRs as frs envs) → (cl = true → A.handled = none) →
    A.depth + 8 * k < recursionLimit → A.units + 40 * k < cLine → (∀ i ∈ frs, NsAt σ i) → VRs as ps vs → KRs as kws ks → Run C as σ s VR PQ Q → Exc C as σ s PE E →
    codeAny (model C.prog C.w) A (.call (.ref f) ⟨vs, ks⟩) (fun r s' => match r with | .ok (.ret v) => Q v s' | .ok _ => False | .error e => E e s') s

theorem tc_of {f : Addr} {ps : List PV} {kws : List (Str × PV)} {PQ : PV → St → Prop} (h : TF C k pe.frs pe.clean f ps kws σ PQ PE) : TC C k pe (.lit (.ref f)) ps kws σ PQ PE := by
  intro A env s as Q E f' vs ks H N rf rs rk R X
  cases rf
  exact wpAny_call (h A s as Q E vs ks H.ok H.inv H.a.frames H.a.clean H.a.depth H.a.units H.frs rs rk R X)

theorem tf_def {f : Addr} {params : Arguments} {body : List Stmt} {scope : Scope} {dV : Value} {ps : List PV} {kws pb : List (Str × PV)} {PQ : PV → St → Prop} {frs : List Nat} {cl : Bool}
    (F : FunAt C.h₀ f params body scope dV) (B : BindOk C σ params dV ps kws pb)
    {l₀ : List (Option PV)} {cs₀ : List PO} {ci₀ : List (Str × Nat)} (hl₀ : locP scope pb = l₀) (hcs : cellP scope pb = cs₀) (hci : cellsFrom (σ.length + 1) scope.names [] = ci₀)
    (h : Hs C k ⟨scope, σ.length, ci₀, σ.length :: frs, cl⟩ body (σ ++ .ns scope.names l₀ :: cs₀)
      (fun fl σ' => match fl with | .ret p => PQ p σ' | _ => PQ .none σ') PE)
    (hnn : (scope.names.map (·.1)).Nodup := by decide +kernel)
    (hkind : (pb.all fun y => scope.names.lookup y.1 == some .local || (scope.names.lookup y.1 == some .cell && ((cellsFrom 0 scope.names []).lookup y.1).isSome)) = true := by rfl)
    (hnd : ((cellsFrom 0 scope.names []).map (·.1)).Nodup := by decide +kernel)
    (hk : scope.kind = .function := by rfl) (hco : scope.isCoroutine = false := by rfl) (hgen : scope.isGenerator = false := by rfl) : TF C (k + 1) frs cl f ps kws σ PQ PE :=
  fun A s as Q E vs ks ok inv afr acl adep aun hfrs rs rk R X => code_defC F B hl₀ hcs hci h hnn hkind hnd hk hco hgen ok inv afr acl adep aun hfrs rs rk R X
end
end Mine

set_option maxRecDepth 100000
set_option autoImplicit false
set_option linter.unusedVariables false
set_option linter.unusedSectionVars false
set_option linter.unusedSimpArgs false
namespace Mine
open PySem PySem.W PyProof.Rows PySem.Calls PySem.SeqAt

section
variable {C : Cx} {k : Nat} {pe : PEnv} {σ : St} {PE : Value → St → Prop} {PQ : PV → St → Prop}

theorem t2_add_int {a b : Int} (h : PQ (.int (a + b)) σ) : T2 C k pe (binaryOp .Add) VR (.int a) (.int b) σ PQ PE := by
  intro A env s as Q E v u H N r1 r2 R X
  cases r1; cases r2
  exact add_int (R.toks H h (.int _ _))
theorem t2_sub_int {a b : Int} (h : PQ (.int (a - b)) σ) : T2 C k pe (binaryOp .Sub) VR (.int a) (.int b) σ PQ PE := by
  intro A env s as Q E v u H N r1 r2 R X
  cases r1; cases r2
  exact sub_int (R.toks H h (.int _ _))
theorem t2_mul_int {a b : Int} (hm : IntMulOk a b) (h : PQ (.int (a * b)) σ) : T2 C k pe (binaryOp .Mult) VR (.int a) (.int b) σ PQ PE := by
  intro A env s as Q E v u H N r1 r2 R X
  cases r1; cases r2
  exact PyProof.Rows.mul_int (R.toks H h (.int _ _)) hm
theorem t2_div_int {a b : Int} (hb : b ≠ 0) (hp : b.natAbs.log2 < 9000) (h : PQ (.int (a.fdiv b)) σ) : T2 C k pe (binaryOp .FloorDiv) VR (.int a) (.int b) σ PQ PE := by
  intro A env s as Q E v u H N r1 r2 R X
  cases r1; cases r2
  exact floordiv_int hb (R.toks H h (.int _ _)) (.inl (PyProof.noPylong_of_log2 hp))
theorem t2_mod_int {a b : Int} (hb : b ≠ 0) (h : PQ (.int (a.fmod b)) σ) : T2 C k pe (binaryOp .Mod) VR (.int a) (.int b) σ PQ PE := by
  intro A env s as Q E v u H N r1 r2 R X
  cases r1; cases r2
  exact mod_int' hb (R.toks H h (.int _ _))
theorem t2_shl_int {a n : Int} (hn : 0 ≤ n) (hz : (Builtin.Int.intBits a : Int) + n ≤ 2 ^ 27) (h : PQ (.int (a * 2 ^ n.toNat)) σ) : T2 C k pe (binaryOp .LShift) VR (.int a) (.int n) σ PQ PE := by
  intro A env s as Q E v u H N r1 r2 R X
  cases r1; cases r2
  exact lshift_int hn hz (R.toks H h (.int _ _))
theorem t2_shr_int {a n : Int} (hn : 0 ≤ n) (h : PQ (.int (a.fdiv (2 ^ n.toNat))) σ) : T2 C k pe (binaryOp .RShift) VR (.int a) (.int n) σ PQ PE := by
  intro A env s as Q E v u H N r1 r2 R X
  cases r1; cases r2
  exact rshift_int hn (R.toks H h (.int _ _))
theorem t2_pow_int {a n : Int} (hn : 0 ≤ n) (hz : (Builtin.Int.intBits a : Int) * n ≤ 2 ^ 27) (h : PQ (.int (a ^ n.toNat)) σ) : T2 C k pe (binaryOp .Pow) VR (.int a) (.int n) σ PQ PE := by
  intro A env s as Q E v u H N r1 r2 R X
  cases r1; cases r2
  exact pow_int hn hz (R.toks H h (.int _ _))
theorem t2_and_int {a b : Int} (h : PQ (.int (Builtin.bitAnd a b)) σ) : T2 C k pe (binaryOp .BitAnd) VR (.int a) (.int b) σ PQ PE := by
  intro A env s as Q E v u H N r1 r2 R X
  cases r1; cases r2
  exact and_int (R.toks H h (.int _ _))
theorem t2_or_int {a b : Int} (h : PQ (.int (Builtin.bitOr a b)) σ) : T2 C k pe (binaryOp .BitOr) VR (.int a) (.int b) σ PQ PE := by
  intro A env s as Q E v u H N r1 r2 R X
  cases r1; cases r2
  exact or_int (R.toks H h (.int _ _))
theorem t2_xor_int {a b : Int} (h : PQ (.int (Builtin.bitXor a b)) σ) : T2 C k pe (binaryOp .BitXor) VR (.int a) (.int b) σ PQ PE := by
  intro A env s as Q E v u H N r1 r2 R X
  cases r1; cases r2
  exact xor_int (R.toks H h (.int _ _))
theorem t2_iadd_int {a b : Int} (h : PQ (.int (a + b)) σ) : T2 C k pe (inplaceOp .Add) VR (.int a) (.int b) σ PQ PE := by
  intro A env s as Q E v u H N r1 r2 R X
  cases r1; cases r2
  exact wpAny_iadd_int (R.toks H h (.int _ _))
theorem t2_add_str {a b : Str} (hz : a.length + b.length ≤ sizeLine) (h : PQ (.str (a ++ b)) σ) : T2 C k pe (binaryOp .Add) VR (.str a) (.str b) σ PQ PE := by
  intro A env s as Q E v u H N r1 r2 R X
  cases r1; cases r2
  exact SBL.add (fun t' tk _ => R.toks H h (.str _ _)) hz
theorem t1_neg_int {a : Int} (h : PQ (.int (-a)) σ) : T1 C k pe (unaryOp .USub) VR (.int a) σ PQ PE := by
  intro A env s as Q E v H N r1 R X
  cases r1
  exact neg_int (R.toks H h (.int _ _))
theorem t1_not {p : PV} (h : T1 C k pe truthy BR p σ (fun b σ₁ => PQ (.bool (!b)) σ₁) PE) : T1 C k pe (unaryOp .Not) VR p σ PQ PE := by
  intro A env s as Q E v H N r1 R X
  refine not_of (h A env s as _ E v H N r1 (fun c b σ₁ as₁ s₁ h₁ a₁ x₁ r₁ i₁ w₁ => ?_) X)
  obtain rfl : b = c := r₁
  exact R _ _ σ₁ as₁ s₁ h₁ a₁ x₁ (.bool _) i₁ w₁

/-- truth -/
theorem t1_truth_bool {b : Bool} {PB : Bool → St → Prop} (h : PB b σ) : T1 C k pe truthy BR (.bool b) σ PB PE := by
  intro A env s as Q E v H N r1 R X
  cases r1
  exact wpAny_truthy_bool (R.here H h rfl)
theorem t1_truth_none {PB : Bool → St → Prop} (h : PB false σ) : T1 C k pe truthy BR .none σ PB PE := by
  intro A env s as Q E v H N r1 R X
  cases r1
  exact truthy_none (R.here H h rfl)
theorem t1_truth_int {a : Int} {PB : Bool → St → Prop} (h : PB (a != 0) σ) : T1 C k pe truthy BR (.int a) σ PB PE := by
  intro A env s as Q E v H N r1 R X
  cases r1
  exact PyProof.Rows.truthy_int (R.here H h rfl)
theorem t1_truth_list {i : Nat} {xs : List PV} {PB : Bool → St → Prop} (g : σ[i]? = some (.list xs)) (hz : xs.length ≤ sizeLine) (h : PB (!xs.isEmpty) σ) : T1 C k pe truthy BR (.obj i) σ PB PE := by
  intro A env s as Q E v H N r1 R X
  cases r1 with
  | obj _ a ha =>
    obtain ⟨vs, ⟨n, ho⟩, hv⟩ := H.inv.atRef g ha
    have hs : sizeLine = 2 ^ 24 := rfl
    refine wpAny_truthy_list (items := vs.toArray) ⟨_, ho, rfl, n, rfl⟩ (by rw [List.size_toArray, hv.length]; omega) (R.toks H h ?_)
    show (!xs.isEmpty) = _
    cases hv <;> rfl

/-- the equality of values that are no objects -/
def eqb : PV → PV → Option Bool
  | .int a, .int b => some (a == b)
  | .str a, .str b => some (a == b)
  | .bool a, .bool b => some (a == b)
  | .none, .none => some true
  | .none, .str _ => some false
  | .str _, .none => some false
  | .none, .int _ => some false
  | .int _, .none => some false
  | .int _, .str _ => some false
  | .str _, .int _ => some false
  | _, _ => none
theorem eqAt {as : List Addr} {p q : PV} {v u : Value} {b : Bool} {A : Around} {s : Shared} (r1 : VR as p v) (r2 : VR as q u) (e : eqb p q = some b) : EqAt A s v u b := by
  cases r1 <;> cases r2 <;> simp only [eqb, reduceCtorEq, Option.some.injEq] at e <;> subst e
  · exact EqAt.same _
  · exact EqAt.none_int _ _
  · exact EqAt.none_str _ _
  · exact EqAt.bool_bool _ _
  · exact EqAt.int_none _ _
  · exact EqAt.int_int _ _ _ _
  · exact EqAt.int_str _ _ _ _
  · exact EqAt.str_none _ _
  · exact EqAt.str_int _ _ _ _
  · exact EqAt.str_str _ _ _ _

theorem t2_eq_imm {p q : PV} {b : Bool} (e : eqb p q = some b) (h : PQ (.bool b) σ) : T2 C k pe (compareOp .Eq) VR p q σ PQ PE := by
  intro A env s as Q E v u H N r1 r2 R X
  have hq : Q (.bool b) s := R.here H h (.bool b)
  cases r1 <;> cases r2 <;> simp only [eqb, reduceCtorEq, Option.some.injEq] at e <;> subst e
  · exact EqNone.eq_none_none hq
  · exact EqNone.eq_none_int hq
  · exact EqNone.eq_none_str hq
  · exact eq_bool hq
  · exact EqNone.eq_int_none hq
  · exact PyProof.Rows.eq_int hq
  · exact EqMixed.eq_int_str hq
  · exact EqNone.eq_str_none hq
  · exact EqMixed.eq_str_int hq
  · exact PyProof.Rows.eq_str hq
theorem ne_str' {prog : Program} {w : World} {A : Around} {E : Value → Shared → Prop} {s : Shared} {x y : Str} {t u : Tok} {Q : Value → Shared → Prop} (h : Q (.bool (!(x == y))) s) : wpAny (model prog w) A (compareOp .NotEq (.str x t) (.str y u)) Q E s := by
  refine PySem.P.ne_str ?_
  have : (x.cps.toList != y.cps.toList) = !(x == y) := by rw [← str_beq]; rfl
  rw [this]; exact h
theorem t2_ne_imm {p q : PV} {b : Bool} (e : eqb p q = some b) (h : PQ (.bool (!b)) σ) : T2 C k pe (compareOp .NotEq) VR p q σ PQ PE := by
  intro A env s as Q E v u H N r1 r2 R X
  have hq : Q (.bool (!b)) s := R.here H h (.bool _)
  cases r1 <;> cases r2 <;> simp only [eqb, reduceCtorEq, Option.some.injEq] at e <;> subst e
  · exact EqNone.ne_none_none hq
  · exact EqNone.ne_none_int hq
  · exact EqNone.ne_none_str hq
  · exact ne_bool hq
  · exact EqNone.ne_int_none hq
  · exact PyProof.Rows.ne_int hq
  · exact EqMixed.ne_int_str hq
  · exact EqNone.ne_str_none hq
  · exact EqMixed.ne_str_int hq
  · exact ne_str' hq
theorem t2_lt_int {a b : Int} (h : PQ (.bool (decide (a < b))) σ) : T2 C k pe (compareOp .Lt) VR (.int a) (.int b) σ PQ PE := by
  intro A env s as Q E v u H N r1 r2 R X
  cases r1; cases r2
  exact PyProof.Rows.lt_int (R.here H h (.bool _))
theorem t2_gt_int {a b : Int} (h : PQ (.bool (decide (b < a))) σ) : T2 C k pe (compareOp .Gt) VR (.int a) (.int b) σ PQ PE := by
  intro A env s as Q E v u H N r1 r2 R X
  cases r1; cases r2
  exact PyProof.Rows.gt_int (R.here H h (.bool _))
theorem t2_lt_str {a b : Str} (h : PQ (.bool (decide (a.cps.toList < b.cps.toList))) σ) : T2 C k pe (compareOp .Lt) VR (.str a) (.str b) σ PQ PE := by
  intro A env s as Q E v u H N r1 r2 R X
  cases r1; cases r2
  exact PySem.P.lt_str (R.here H h (.bool _))
theorem t2_eq_bytes {a b : Array UInt8} (h : PQ (.bool (a.toList == b.toList)) σ) : T2 C k pe (compareOp .Eq) VR (.bytes a) (.bytes b) σ PQ PE := by
  intro A env s as Q E v u H N r1 r2 R X
  cases r1; cases r2
  exact eq_bytes (R.here H h (.bool _))
theorem t2_is_none {p : PV} (hp : ∀ v, p ≠ .lit v) (h : PQ (.bool (match p with | .none => true | _ => false)) σ) : T2 C k pe (compareOp .Is) VR p .none σ PQ PE := by
  intro A env s as Q E v u H N r1 r2 R X
  cases r2
  have hq := R.here H h (.bool _)
  cases r1 with
  | none => exact is_none_none hq
  | lit v => exact absurd rfl (hp v)
  | _ => exact is_none_ne (by intro x; cases x) hq
theorem t2_isnot_bool {b c : Bool} (h : PQ (.bool (b != c)) σ) : T2 C k pe (compareOp .IsNot) VR (.bool b) (.bool c) σ PQ PE := by
  intro A env s as Q E v u H N r1 r2 R X
  cases r1; cases r2
  exact isnot_bool (R.here H h (.bool _))
theorem t2_is_bool {b c : Bool} (h : PQ (.bool (b == c)) σ) : T2 C k pe (compareOp .Is) VR (.bool b) (.bool c) σ PQ PE := by
  intro A env s as Q E v u H N r1 r2 R X
  cases r1; cases r2
  exact is_bool (R.here H h (.bool _))

/-- is one of the row equal to p -/
def anyEq (p : PV) : List PV → Option Bool
  | [] => some false
  | x :: r => match eqb x p, anyEq p r with
    | some a, some b => some (a || b)
    | _, _ => none
def veq : Value → Value → Bool
  | .int a _, .int b _ => a == b
  | .str a _, .str b _ => a == b
  | .bool a, .bool b => a == b
  | .none, .none => true
  | _, _ => false
theorem veq_eqb {as : List Addr} {p q : PV} {v u : Value} {b : Bool} (r1 : VR as p v) (r2 : VR as q u) (e : eqb p q = some b) : veq v u = b := by
  cases r1 <;> cases r2 <;> simp only [eqb, reduceCtorEq, Option.some.injEq] at e <;> subst e <;> rfl
theorem anyEq_spec {as : List Addr} {p : PV} {u : Value} (rp : VR as p u) : ∀ {xs : List PV} {vs : List Value} {b : Bool}, VRs as xs vs → anyEq p xs = some b →
    (∀ A s y, y ∈ vs → EqAt A s y u (veq y u)) ∧ (vs.any fun y => veq y u) = b
  | [], _, b, .nil, h => by cases h; exact ⟨fun _ _ _ h => (nomatch h), rfl⟩
  | x :: xs, _, b, @VRs.cons _ _ v _ vs hx hr, h => by
    unfold anyEq at h
    split at h
    · rename_i c d e1 e2
      cases h
      obtain ⟨he, hany⟩ := anyEq_spec rp hr e2
      have hv := veq_eqb hx rp e1
      refine ⟨fun A s y hy => ?_, by rw [List.any_cons, hv, hany]⟩
      rcases List.mem_cons.mp hy with q | q
      · subst q; rw [hv]; exact eqAt hx rp e1
      · exact he A s y q
    · cases h
theorem anyEq_ints (n : Int) : ∀ ns : List Int, anyEq (.int n) (ns.map .int) = some (ns.any (· == n))
  | [] => rfl
  | m :: r => by simp only [List.map_cons, anyEq, eqb, anyEq_ints n r, List.any_cons]
theorem anyEq_strs (n : Str) : ∀ ns : List Str, anyEq (.str n) (ns.map .str) = some (ns.any (· == n))
  | [] => rfl
  | m :: r => by simp only [List.map_cons, anyEq, eqb, anyEq_strs n r, List.any_cons]

theorem t2_in_list {p : PV} {i : Nat} {xs : List PV} {b : Bool} (g : σ[i]? = some (.list xs)) (e : anyEq p xs = some b) (h : PQ (.bool b) σ) : T2 C k pe (compareOp .In) VR p (.obj i) σ PQ PE := by
  intro A env s as Q E v u H N r1 r2 R X
  cases r2 with
  | obj _ a ha =>
    obtain ⟨vs, ⟨n, ho⟩, hv⟩ := H.inv.atRef g ha
    obtain ⟨he, hany⟩ := anyEq_spec r1 hv e
    refine in_listAt (fun y => veq y v) ⟨_, ho, rfl, n, rfl⟩ (fun y hy => he _ _ y (by simpa using hy)) ?_
    have : (vs.toArray.any fun y => veq y v) = b := by rw [List.any_toArray]; exact hany
    rw [this]; exact R.here H h (.bool b)
theorem t2_notin_list {p : PV} {i : Nat} {xs : List PV} {b : Bool} (g : σ[i]? = some (.list xs)) (e : anyEq p xs = some b) (h : PQ (.bool (!b)) σ) : T2 C k pe (compareOp .NotIn) VR p (.obj i) σ PQ PE := by
  intro A env s as Q E v u H N r1 r2 R X
  cases r2 with
  | obj _ a ha =>
    obtain ⟨vs, ⟨n, ho⟩, hv⟩ := H.inv.atRef g ha
    obtain ⟨he, hany⟩ := anyEq_spec r1 hv e
    refine notIn_listAt (fun y => veq y v) ⟨_, ho, rfl, n, rfl⟩ (fun y hy => he _ _ y (by simpa using hy)) ?_
    have : (vs.toArray.any fun y => veq y v) = b := by rw [List.any_toArray]; exact hany
    rw [this]; exact R.here H h (.bool _)
theorem t2_notin_tuple {p : PV} {i : Nat} {xs : List PV} {b : Bool} (g : σ[i]? = some (.tuple xs)) (e : anyEq p xs = some b) (h : PQ (.bool (!b)) σ) : T2 C k pe (compareOp .NotIn) VR p (.obj i) σ PQ PE := by
  intro A env s as Q E v u H N r1 r2 R X
  cases r2 with
  | obj _ a ha =>
    obtain ⟨vs, ht, hv⟩ := H.inv.atRef g ha
    obtain ⟨he, hany⟩ := anyEq_spec r1 hv e
    refine notIn_tupleAt (fun y => veq y v) ht (fun y hy => he _ _ y (by simpa using hy)) ?_
    have : (vs.toArray.any fun y => veq y v) = b := by rw [List.any_toArray]; exact hany
    rw [this]; exact R.here H h (.bool _)

/-- two rows, item by item -/
def eqAll : List PV → List PV → Option Bool
  | [], [] => some true
  | x :: r, y :: q => match eqb x y, eqAll r q with
    | some a, some b => some (a && b)
    | _, _ => none
  | _, _ => some false
theorem eqAll_ints : ∀ ns ms : List Int, eqAll (ns.map .int) (ms.map .int) = some (ns == ms)
  | [], [] => rfl
  | [], m :: r => rfl
  | m :: r, [] => rfl
  | n :: r, m :: q => by simp only [List.map_cons, eqAll, eqb, eqAll_ints r q]; rfl
theorem eqAll_strs : ∀ ns ms : List Str, eqAll (ns.map .str) (ms.map .str) = some (ns == ms)
  | [], [] => rfl
  | [], m :: r => rfl
  | m :: r, [] => rfl
  | n :: r, m :: q => by simp only [List.map_cons, eqAll, eqb, eqAll_strs r q]; rfl
theorem eqAll_bools : ∀ ns ms : List Bool, eqAll (ns.map .bool) (ms.map .bool) = some (ns == ms)
  | [], [] => rfl
  | [], m :: r => rfl
  | m :: r, [] => rfl
  | n :: r, m :: q => by simp only [List.map_cons, eqAll, eqb, eqAll_bools r q]; rfl
theorem eqAll_spec {as : List Addr} : ∀ {xs ys : List PV} {vs us : List Value} {b : Bool}, VRs as xs vs → VRs as ys us → vs.length = us.length → eqAll xs ys = some b →
    (∀ A s (j : Nat) (h1 : j < vs.length) (h2 : j < us.length), EqAt A s vs[j] us[j] (veq vs[j] us[j])) ∧ ((List.range vs.length).all fun j => match vs[j]?, us[j]? with | some v, some u => veq v u | _, _ => true) = b
  | [], [], _, _, b, .nil, .nil, _, h => by cases h; exact ⟨fun _ _ j h1 => absurd h1 (Nat.not_lt_zero _), rfl⟩
  | [], y :: ys, _, _, b, .nil, .cons _ _, hl, h => by simp at hl
  | x :: xs, [], _, _, b, .cons _ _, .nil, hl, h => by simp at hl
  | x :: xs, y :: ys, _, _, b, @VRs.cons _ _ v _ vs hx hr, @VRs.cons _ _ u _ us hy hq, hl, h => by
    unfold eqAll at h
    split at h
    · rename_i c d e1 e2
      cases h
      obtain ⟨he, hall⟩ := eqAll_spec hr hq (by simpa using hl) e2
      have hv := veq_eqb hx hy e1
      refine ⟨fun A s j h1 h2 => ?_, ?_⟩
      · cases j with
        | zero => simp only [List.getElem_cons_zero]; rw [hv]; exact eqAt hx hy e1
        | succ j => simp only [List.getElem_cons_succ]; exact he A s j (by simpa using h1) (by simpa using h2)
      · rw [List.length_cons, List.range_succ_eq_map, List.all_cons, List.all_map]
        simp only [List.getElem?_cons_zero, hv]
        rw [← hall]
        rfl
    · cases h
theorem eqAll_len : ∀ {xs ys : List PV} {b : Bool}, xs.length ≠ ys.length → eqAll xs ys = some b → b = false
  | [], [], _, h, _ => absurd rfl h
  | [], _ :: _, _, _, h => by cases h; rfl
  | _ :: _, [], _, _, h => by cases h; rfl
  | x :: xs, y :: ys, b, hl, h => by
    unfold eqAll at h
    split at h
    · rename_i c d e1 e2
      cases h
      have := eqAll_len (xs := xs) (ys := ys) (by simpa using hl) e2
      rw [this, Bool.and_false]
    · cases h

theorem AOk.lt {as : List Addr} {A : Around} (h : AOk k as pe A) : A.units < cLine := Nat.lt_of_le_of_lt (Nat.le_add_right _ _) h.units

theorem rc_lists {i j : Nat} {xs ys : List PV} {b : Bool} (g : σ[i]? = some (.list xs)) (g' : σ[j]? = some (.list ys)) (e : eqAll xs ys = some b) {A : Around} {s : Shared} {as : List Addr} (H : At C k pe as σ A s) {v u : Value}
    (r1 : VR as (.obj i) v) (r2 : VR as (.obj j) u) : RcAt A s v u b := by
  cases r1 with
  | obj _ a ha =>
    cases r2 with
    | obj _ a' ha' =>
      obtain ⟨vs, ⟨n, ho⟩, hv⟩ := H.inv.atRef g ha
      obtain ⟨us, ⟨n', ho'⟩, hu⟩ := H.inv.atRef g' ha'
      have hl : s.heap.IsList a vs.toArray := ⟨_, ho, rfl, n, rfl⟩
      have hl' : s.heap.IsList a' us.toArray := ⟨_, ho', rfl, n', rfl⟩
      by_cases hz : vs.length = us.length
      · obtain ⟨he, hall⟩ := eqAll_spec hv hu hz e
        have := RcAt.lists (A := A) (s := s) (e := fun j => match vs[j]?, us[j]? with | some v, some u => veq v u | _, _ => true) hl hl' (by simpa using hz) H.a.lt (fun j h1 h2 => by
          have h1' : j < vs.length := by simpa using h1
          have h2' : j < us.length := by simpa using h2
          have q := he A.in1 s j h1' h2'
          simpa [List.getElem?_eq_getElem h1', List.getElem?_eq_getElem h2'] using q)
        rw [List.size_toArray, hall] at this
        exact this
      · have hb := eqAll_len (by rw [← hv.length, ← hu.length]; exact hz) e
        subst hb
        exact RcAt.lists_lengths hl hl' (by simpa using hz) H.a.lt
theorem t2_eq_list {i j : Nat} {xs ys : List PV} {b : Bool} (g : σ[i]? = some (.list xs)) (g' : σ[j]? = some (.list ys)) (e : eqAll xs ys = some b) (h : PQ (.bool b) σ) : T2 C k pe (compareOp .Eq) VR (.obj i) (.obj j) σ PQ PE := by
  intro A env s as Q E v u H N r1 r2 R X
  exact rc_lists g g' e H r1 r2 _ _ E _ (R.here H h (.bool b))
theorem t2_ne_list {i j : Nat} {xs ys : List PV} {b : Bool} (g : σ[i]? = some (.list xs)) (g' : σ[j]? = some (.list ys)) (e : eqAll xs ys = some b) (h : PQ (.bool (!b)) σ) : T2 C k pe (compareOp .NotEq) VR (.obj i) (.obj j) σ PQ PE := by
  intro A env s as Q E v u H N r1 r2 R X
  cases r1 with
  | obj _ a ha =>
    cases r2 with
    | obj _ a' ha' =>
      obtain ⟨vs, ⟨n, ho⟩, hv⟩ := H.inv.atRef g ha
      obtain ⟨us, ⟨n', ho'⟩, hu⟩ := H.inv.atRef g' ha'
      have hl : s.heap.IsList a vs.toArray := ⟨_, ho, rfl, n, rfl⟩
      have hl' : s.heap.IsList a' us.toArray := ⟨_, ho', rfl, n', rfl⟩
      by_cases hz : vs.length = us.length
      · obtain ⟨he, hall⟩ := eqAll_spec hv hu hz e
        have := RcNeAt.lists (A := A) (s := s) (e := fun j => match vs[j]?, us[j]? with | some v, some u => veq v u | _, _ => true) hl hl' (by simpa using hz) H.a.lt (fun j h1 h2 => by
          have h1' : j < vs.length := by simpa using h1
          have h2' : j < us.length := by simpa using h2
          have q := he A.in1 s j h1' h2'
          simpa [List.getElem?_eq_getElem h1', List.getElem?_eq_getElem h2'] using q)
        rw [List.size_toArray, hall] at this
        exact this _ _ E _ (R.here H h (.bool _))
      · have hb := eqAll_len (by rw [← hv.length, ← hu.length]; exact hz) e
        subst hb
        exact RcNeAt.lists_lengths hl hl' (by simpa using hz) H.a.lt _ _ E _ (R.here H h (.bool _))
end
end Mine

set_option maxRecDepth 100000
set_option autoImplicit false
set_option linter.unusedVariables false
set_option linter.unusedSectionVars false
set_option linter.unusedSimpArgs false
namespace Mine
open PySem PySem.W PyProof.Rows PySem.Calls PySem.SeqAt

/-- the logical objects are named anew: the one that was i is now the place of i in the row -/
inductive PVr (is : List Nat) : PV → PV → Prop
  | none : PVr is .none .none
  | bool (b : Bool) : PVr is (.bool b) (.bool b)
  | int (i : Int) : PVr is (.int i) (.int i)
  | str (s : Str) : PVr is (.str s) (.str s)
  | bytes (b : Array UInt8) : PVr is (.bytes b) (.bytes b)
  | lit (v : Value) : PVr is (.lit v) (.lit v)
  | obj {i j : Nat} : is[j]? = some i → PVr is (.obj i) (.obj j)
inductive PVsr (is : List Nat) : List PV → List PV → Prop
  | nil : PVsr is [] []
  | cons {p q ps qs} : PVr is p q → PVsr is ps qs → PVsr is (p :: ps) (q :: qs)
inductive EVsr (is : List Nat) : List (Str × PV) → List (Str × PV) → Prop
  | nil : EVsr is [] []
  | cons {x p q ps qs} : PVr is p q → EVsr is ps qs → EVsr is ((x, p) :: ps) ((x, q) :: qs)
inductive OVsr (is : List Nat) : List (Option PV) → List (Option PV) → Prop
  | nil : OVsr is [] []
  | skip {p ps qs} : OVsr is ps qs → OVsr is (p :: ps) (.none :: qs)
  | keep {p q ps qs} : PVr is p q → OVsr is ps qs → OVsr is (.some p :: ps) (.some q :: qs)
inductive POr (is : List Nat) : PO → PO → Prop
  | ns {n l l'} : OVsr is l l' → POr is (.ns n l) (.ns n l')
  | cellN {c} : POr is (.cell c) (.cell .none)
  | cellS {p q} : PVr is p q → POr is (.cell (.some p)) (.cell (.some q))
  | list {xs ys} : PVsr is xs ys → POr is (.list xs) (.list ys)
  | tuple {xs ys} : PVsr is xs ys → POr is (.tuple xs) (.tuple ys)
  | inst {C d e} : is[e]? = some d → POr is (.inst C d) (.inst C e)
  | dict {xs ys} : EVsr is xs ys → POr is (.dict xs) (.dict ys)
  | barr {b} : POr is (.barr b) (.barr b)
  | raw {o} : POr is (.raw o) (.raw o)
  | rcd {c xs ys} : PVsr is xs ys → POr is (.rcd c xs) (.rcd c ys)

def SelA (is : List Nat) (as as' : List Addr) : Prop := ∀ (j i : Nat), is[j]? = some i → ∃ a, as[i]? = some a ∧ as'[j]? = some a

theorem PVr.vr {is : List Nat} {as as' : List Addr} (S : SelA is as as') {p q : PV} {v : Value} (h : PVr is p q) (r : VR as p v) : VR as' q v := by
  cases h with
  | obj e =>
    cases r with
    | obj _ a ha =>
      obtain ⟨b, h1, h2⟩ := S _ _ e
      rw [h1] at ha; cases ha
      exact .obj _ _ h2
  | _ => cases r; constructor
theorem PVsr.vrs {is : List Nat} {as as' : List Addr} (S : SelA is as as') : ∀ {ps qs : List PV} {vs : List Value}, PVsr is ps qs → VRs as ps vs → VRs as' qs vs
  | _, _, _, .nil, .nil => .nil
  | _, _, _, .cons h r, .cons g q => .cons (h.vr S g) (r.vrs S q)
theorem EVsr.ers {is : List Nat} {as as' : List Addr} (S : SelA is as as') : ∀ {ps qs : List (Str × PV)} {es : List DictEntry}, EVsr is ps qs → ERs as ps es → ERs as' qs es
  | _, _, _, .nil, .nil => .nil
  | _, _, _, .cons h r, .cons g q => .cons (h.vr S g) (r.ers S q)
theorem OVsr.get {is : List Nat} : ∀ {ps qs : List (Option PV)}, OVsr is ps qs → ∀ {j : Nat} {q : PV}, qs[j]? = some (some q) → ∃ p, ps[j]? = some (some p) ∧ PVr is p q
  | _, _, .nil, j, q, e => by simp at e
  | _, _, .skip r, j, q, e => by
    cases j with
    | zero => simp at e
    | succ j => simp at e; simpa using r.get e
  | _, _, .keep h r, j, q, e => by
    cases j with
    | zero => simp at e; subst e; exact ⟨_, by simp, h⟩
    | succ j => simp at e; simpa using r.get e

theorem OVsr.length {is : List Nat} : ∀ {ps qs : List (Option PV)}, OVsr is ps qs → ps.length = qs.length
  | _, _, .nil => rfl
  | _, _, .skip r => by simp [r.length]
  | _, _, .keep _ r => by simp [r.length]
theorem POr.hr {is : List Nat} {as as' : List Addr} (S : SelA is as as') {h : Heap} {a : Addr} {po po' : PO} (r : POr is po po') (H : HR as h a po) : HR as' h a po' := by
  cases r with
  | ns r =>
    obtain ⟨hL, m, hn, hl⟩ := H
    refine ⟨r.length ▸ hL, m, hn, fun j x kd pv e0 e => ?_⟩
    obtain ⟨p, e1, e2⟩ := r.get e
    obtain ⟨v, e3, e4⟩ := hl j x kd p e0 e1
    exact ⟨v, e3, e2.vr S e4⟩
  | cellN =>
    rename_i c
    obtain ⟨o, ho, hd⟩ := H
    refine ⟨o, ho, ?_⟩
    cases c with
    | none => exact hd
    | some p => obtain ⟨v, hd, _⟩ := hd; exact ⟨_, hd⟩
  | cellS r => obtain ⟨o, ho, v, hd, hv⟩ := H; exact ⟨o, ho, v, hd, r.vr S hv⟩
  | list r => obtain ⟨vs, hl, hv⟩ := H; exact ⟨vs, hl, r.vrs S hv⟩
  | tuple r => obtain ⟨vs, hl, hv⟩ := H; exact ⟨vs, hl, r.vrs S hv⟩
  | inst e =>
    obtain ⟨dx, hd, ho⟩ := H
    obtain ⟨b, h1, h2⟩ := S _ _ e
    rw [h1] at hd; cases hd
    exact ⟨_, h2, ho⟩
  | dict r => obtain ⟨es, n, ho, hr⟩ := H; exact ⟨es, n, ho, r.ers S hr⟩
  | barr => exact H
  | raw => exact H
  | rcd r => obtain ⟨vs, ho, hv⟩ := H; exact ⟨vs, ho, r.vrs S hv⟩

/-- what stands in the account names nothing beyond it -/
theorem PVr.self {is : List Nat} {as : List Addr} (hi : ∀ j, j < as.length → is[j]? = some j) {p : PV} {v : Value} (r : VR as p v) : PVr is p p := by
  cases r with
  | obj i a e => exact .obj (hi i (List.getElem?_eq_some_iff.mp e).1)
  | _ => constructor
theorem PVsr.self {is : List Nat} {as : List Addr} (hi : ∀ j, j < as.length → is[j]? = some j) : ∀ {ps : List PV} {vs : List Value}, VRs as ps vs → PVsr is ps ps
  | _, _, .nil => .nil
  | _, _, .cons h r => .cons (PVr.self hi h) (PVsr.self hi r)
theorem EVsr.self {is : List Nat} {as : List Addr} (hi : ∀ j, j < as.length → is[j]? = some j) : ∀ {ps : List (Str × PV)} {es : List DictEntry}, ERs as ps es → EVsr is ps ps
  | _, _, .nil => .nil
  | _, _, .cons h r => .cons (PVr.self hi h) (EVsr.self hi r)
theorem OVsr.self {is : List Nat} : ∀ {l : List (Option PV)}, (∀ p, some p ∈ l → PVr is p p) → OVsr is l l
  | [], _ => .nil
  | none :: r, h => .skip (OVsr.self fun p hp => h p (.tail _ hp))
  | some p :: r, h => .keep (h p (.head _)) (OVsr.self fun q hq => h q (.tail _ hq))
theorem POr.self {is : List Nat} {as : List Addr} (hi : ∀ j, j < as.length → is[j]? = some j) {h : Heap} {a : Addr} {po : PO} (H : HR as h a po) : POr is po po := by
  cases po with
  | ns n l =>
    obtain ⟨hL, m, hn, hl⟩ := H
    refine .ns (OVsr.self fun p hp => ?_)
    obtain ⟨j, hj⟩ := List.getElem?_of_mem hp
    have hjn : j < n.length := Nat.lt_of_lt_of_le (List.getElem?_eq_some_iff.mp hj).1 hL
    obtain ⟨v, _, hv⟩ := hl j n[j].1 n[j].2 p (by rw [List.getElem?_eq_getElem hjn]) hj
    exact PVr.self hi hv
  | cell c =>
    obtain ⟨o, ho, hd⟩ := H
    cases c with
    | none => exact .cellN
    | some p => obtain ⟨v, _, hv⟩ := hd; exact .cellS (PVr.self hi hv)
  | list xs => obtain ⟨vs, _, hv⟩ := H; exact .list (PVsr.self hi hv)
  | tuple xs => obtain ⟨vs, _, hv⟩ := H; exact .tuple (PVsr.self hi hv)
  | inst C d => obtain ⟨dx, hd, _⟩ := H; exact .inst (hi d (List.getElem?_eq_some_iff.mp hd).1)
  | dict l => obtain ⟨es, n, _, hr⟩ := H; exact .dict (EVsr.self hi hr)
  | barr b => exact .barr
  | raw o => exact .raw
  | rcd c fs => obtain ⟨vs, _, hv⟩ := H; exact .rcd (PVsr.self hi hv)

/-- a part of the account -/
theorem HInv.select {h₀ : Heap} {as : List Addr} {σ σ' : St} {h : Heap} (H : HInv h₀ as σ h) (is : List Nat) (hnd : is.Nodup) (hl : is.length = σ'.length)
    (hs : ∀ (j i : Nat), is[j]? = some i → ∃ po po', σ[i]? = some po ∧ σ'[j]? = some po' ∧ POr is po po') :
    ∃ as', SelA is as as' ∧ as'.length = is.length ∧ (∀ a ∈ as', a ∈ as) ∧ HInv h₀ as' σ' h := by
  have hlt : ∀ i ∈ is, i < as.length := fun i hi => by
    obtain ⟨j, hj⟩ := List.getElem?_of_mem hi
    obtain ⟨po, _, h1, _⟩ := hs j i hj
    rw [H.len]; exact (List.getElem?_eq_some_iff.mp h1).1
  have S : SelA is as (is.map fun i => as.getD i 0) := fun j i e => by
    have hi := hlt i (mem_of_get? e)
    refine ⟨as[i], List.getElem?_eq_getElem hi, ?_⟩
    rw [List.getElem?_map, e]
    simp [List.getD_eq_getElem?_getD, List.getElem?_eq_getElem hi]
  have hget : ∀ (j : Nat) (a : Addr), (is.map fun i => as.getD i 0)[j]? = some a → ∃ i, is[j]? = some i ∧ as[i]? = some a := fun j a e => by
    rw [List.getElem?_map] at e
    cases hj : is[j]? with
    | none => rw [hj] at e; cases e
    | some i =>
      obtain ⟨b, h1, h2⟩ := S j i hj
      rw [List.getElem?_map] at h2
      rw [h2] at e; cases e
      exact ⟨i, rfl, h1⟩
  refine ⟨is.map fun i => as.getD i 0, S, by simp, fun a ha => ?_, ⟨by simpa using hl, ?_, H.base, fun a ha => ?_, fun j a n l e1 e2 => ?_, H.size, fun j a po e1 e2 => ?_⟩⟩
  · obtain ⟨j, hj⟩ := List.getElem?_of_mem ha
    obtain ⟨i, _, h1⟩ := hget j a hj
    exact mem_of_get? h1
  · refine List.pairwise_iff_getElem.mpr fun j j' hj0 hj0' hjj e => ?_
    have h1 : j < is.length := by simpa using hj0
    have hj' : j' < is.length := by simpa using hj0'
    have e1 : (is.map fun i => as.getD i 0)[j]? = some (as.getD is[j] 0) := by simp [h1]
    have e2 : (is.map fun i => as.getD i 0)[j']? = some (as.getD is[j'] 0) := by simp [hj']
    rw [List.getElem_map, List.getElem_map] at e
    obtain ⟨i, g1, g2⟩ := hget _ _ e1
    obtain ⟨i', g1', g2'⟩ := hget _ _ e2
    rw [e] at g2
    obtain ⟨l1, q1⟩ := List.getElem?_eq_some_iff.mp g2
    obtain ⟨l2, q2⟩ := List.getElem?_eq_some_iff.mp g2'
    have hii : i = i' := (List.getElem_inj H.nd).mp (q1.trans q2.symm)
    subst hii
    rw [List.getElem?_eq_getElem h1] at g1
    rw [List.getElem?_eq_getElem hj'] at g1'
    have := (List.getElem_inj hnd).mp ((Option.some.inj g1).trans (Option.some.inj g1').symm)
    omega
  · obtain ⟨j, hj⟩ := List.getElem?_of_mem ha
    obtain ⟨i, _, h1⟩ := hget j a hj
    exact H.new a (mem_of_get? h1)
  · obtain ⟨i, g1, g2⟩ := hget j a e1
    obtain ⟨po, po', f1, f2, f3⟩ := hs j i g1
    rw [e2] at f2; cases f2
    cases f3 with
    | ns _ => exact H.above i a _ _ g2 f1
  · obtain ⟨i, g1, g2⟩ := hget j a e1
    obtain ⟨po1, po', f1, f2, f3⟩ := hs j i g1
    rw [e2] at f2; cases f2
    exact f3.hr S (H.rel i a po1 g2 f1)

/-- the old account, and some of the new objects, named anew -/
structure SelOk (σ σ' : St) (sel : List Nat) (news : List PO) : Prop where
  pre : σ <+: σ'
  nd : sel.Nodup
  ge : ∀ i ∈ sel, σ.length ≤ i
  len : sel.length = news.length
  rel : ∀ (j i : Nat), sel[j]? = some i → ∃ po po', σ'[i]? = some po ∧ news[j]? = some po' ∧ POr (List.range σ.length ++ sel) po po'

theorem SelOk.nil {σ σ' : St} (h : σ <+: σ') : SelOk σ σ' [] [] := ⟨h, .nil, fun _ h => (nomatch h), rfl, fun _ _ e => by simp at e⟩

section
variable {C : Cx} {k : Nat} {pe : PEnv} {σ : St}


theorem sel_core {as as' : List Addr} {s s' : Shared} (H : HInv C.h₀ as σ s.heap) {σ' : St} {sel : List Nat} {news : List PO} (S : SelOk σ σ' sel news) (p : as <+: as') (i : HInv C.h₀ as' σ' s'.heap) :
    ∃ as'', as <+: as'' ∧ SelA (List.range σ.length ++ sel) as' as'' ∧ (∀ a ∈ as'', a ∈ as') ∧ HInv C.h₀ as'' (σ ++ news) s'.heap := by
  have hrange : ∀ j, j < σ.length → (List.range σ.length ++ sel)[j]? = some j := fun j hj => by
    rw [List.getElem?_append_left (by simpa using hj), List.getElem?_range hj]
  have hlen := H.len
  have ⟨as'', S1, S2, S3, S4⟩ := i.select (List.range σ.length ++ sel) (σ' := σ ++ news) (by
      rw [List.nodup_append]
      refine ⟨List.nodup_range, S.nd, fun x hx y hy e => ?_⟩
      subst e
      exact absurd (S.ge x hy) (Nat.not_le.mpr (List.mem_range.mp hx))) (by simp [S.len]) (fun j x e => by
      by_cases hj : j < σ.length
      · rw [hrange j hj] at e
        cases e
        have e1 : σ[j]? = some σ[j] := List.getElem?_eq_getElem hj
        obtain ⟨t, rfl⟩ := S.pre
        refine ⟨σ[j], σ[j], by rw [List.getElem?_append_left hj]; exact e1, by rw [List.getElem?_append_left hj]; exact e1, ?_⟩
        obtain ⟨a, ha, hr⟩ := H.at e1
        exact POr.self (fun m hm => hrange m (by rw [← hlen]; exact hm)) hr
      · have hj' : σ.length ≤ j := Nat.le_of_not_lt hj
        rw [List.getElem?_append_right (by simpa using hj'), List.length_range] at e
        obtain ⟨po, po', f1, f2, f3⟩ := S.rel _ _ e
        exact ⟨po, po', f1, by rw [List.getElem?_append_right hj']; exact f2, f3⟩)
  refine ⟨as'', ?_, S1, S3, S4⟩
  -- the old addresses stay in front
  obtain ⟨t, ht⟩ := p
  refine ⟨as''.drop as.length, ?_⟩
  apply List.ext_getElem?
  intro j
  by_cases hj : j < as.length
  · rw [List.getElem?_append_left hj]
    obtain ⟨a, h1, h2⟩ := S1 j j (hrange j (hlen ▸ hj))
    rw [← ht, List.getElem?_append_left hj] at h1
    rw [h1, h2]
  · have hj' : as.length ≤ j := Nat.le_of_not_lt hj
    rw [List.getElem?_append_right hj', List.getElem?_drop]
    congr 1; omega

theorem Run.sel {as : List Addr} {s : Shared} {PQ : PV → St → Prop} {Q : Value → Shared → Prop} (R : Run C as σ s VR PQ Q) (H : HInv C.h₀ as σ s.heap) :
    Run C as σ s VR (fun p σ' => ∃ sel news q, SelOk σ σ' sel news ∧ PVr (List.range σ.length ++ sel) p q ∧ PQ q (σ ++ news)) Q := by
  rintro v p σ' as' s' ⟨sel, news, q, S, hq, h⟩ pr x r i w
  obtain ⟨as'', p1, S1, S3, S4⟩ := sel_core H S pr i
  refine R v q (σ ++ news) as'' s' h p1 (Ext.append _ _) (hq.vr S1 r) S4 ⟨w.srel, fun b o hb e => ?_⟩
  obtain ⟨h1, h2, h3⟩ := w.kp b o hb e
  exact ⟨fun hm => h1 (S3 b hm), h2, h3⟩
theorem Exc.forget {as : List Addr} {s : Shared} {PE : Value → St → Prop} {E : Value → Shared → Prop} (X : Exc C as σ s PE E) (H : HInv C.h₀ as σ s.heap) :
    Exc C as σ s (fun c σ' => σ <+: σ' ∧ PE c σ) E := by
  rintro e cls tb xs σ' as' s' ⟨hp, h⟩ pr x n i w
  obtain ⟨as'', p1, S1, S3, S4⟩ := sel_core H (SelOk.nil hp) pr i
  rw [List.append_nil] at S4
  obtain ⟨hxs, r⟩ := n
  refine X e cls tb xs σ as'' s' h p1 (Ext.refl _) ⟨fun a ha => ⟨fun hm => (hxs a ha).1 (S3 a hm), (hxs a ha).2⟩, r⟩ S4 ⟨w.srel, fun b o hb e => ?_⟩
  obtain ⟨h1, h2, h3⟩ := w.kp b o hb e
  exact ⟨fun hm => h1 (S3 b hm), h2, h3⟩

/-- the contract of a def: what it makes beside its answer is forgotten -/
theorem tc_sel {pf : PV} {ps : List PV} {kws : List (Str × PV)} {PQ : PV → St → Prop} {PE : Value → St → Prop}
    (h : TC C k pe pf ps kws σ (fun p σ' => ∃ sel news q, SelOk σ σ' sel news ∧ PVr (List.range σ.length ++ sel) p q ∧ PQ q (σ ++ news)) (fun c σ' => σ <+: σ' ∧ PE c σ)) : TC C k pe pf ps kws σ PQ PE :=
  fun A env s as Q E f vs ks H N rf rs rk R X => h A env s as Q E f vs ks H N rf rs rk (R.sel H.inv) (X.forget H.inv)
/-- an immediate value -/
inductive Imm : PV → Prop
  | none : Imm .none
  | bool (b : Bool) : Imm (.bool b)
  | int (i : Int) : Imm (.int i)
  | str (s : Str) : Imm (.str s)
  | bytes (b : Array UInt8) : Imm (.bytes b)
  | lit (v : Value) : Imm (.lit v)
theorem Imm.pvr {is : List Nat} {p : PV} (h : Imm p) : PVr is p p := by cases h <;> constructor
theorem tc_imm {pf : PV} {ps : List PV} {kws : List (Str × PV)} {PQ : PV → St → Prop} {PE : Value → St → Prop}
    (h : TC C k pe pf ps kws σ (fun p σ' => σ <+: σ' ∧ Imm p ∧ PQ p σ) (fun c σ' => σ <+: σ' ∧ PE c σ)) : TC C k pe pf ps kws σ PQ PE := by
  refine tc_sel fun A env s as Q E f vs ks H N rf rs rk R X => h A env s as Q E f vs ks H N rf rs rk (fun a b σ' as' s' hh => R a b σ' as' s' ?_) X
  obtain ⟨h1, h2, h3⟩ := hh
  exact ⟨[], [], b, SelOk.nil h1, h2.pvr, by rw [List.append_nil]; exact h3⟩

theorem tf_sel {frs : List Nat} {cl : Bool} {f : Addr} {ps : List PV} {kws : List (Str × PV)} {PQ : PV → St → Prop} {PE : Value → St → Prop}
    (h : TF C k frs cl f ps kws σ (fun p σ' => ∃ sel news q, SelOk σ σ' sel news ∧ PVr (List.range σ.length ++ sel) p q ∧ PQ q (σ ++ news)) (fun c σ' => σ <+: σ' ∧ PE c σ)) : TF C k frs cl f ps kws σ PQ PE :=
  fun A s as Q E vs ks ok inv afr acl adep aun hfrs rs rk R X => h A s as Q E vs ks ok inv afr acl adep aun hfrs rs rk (R.sel inv) (X.forget inv)
theorem tf_imm {frs : List Nat} {cl : Bool} {f : Addr} {ps : List PV} {kws : List (Str × PV)} {PQ : PV → St → Prop} {PE : Value → St → Prop}
    (h : TF C k frs cl f ps kws σ (fun p σ' => σ <+: σ' ∧ Imm p ∧ PQ p σ) (fun c σ' => σ <+: σ' ∧ PE c σ)) : TF C k frs cl f ps kws σ PQ PE := by
  refine tf_sel fun A s as Q E vs ks ok inv afr acl adep aun hfrs rs rk R X => h A s as Q E vs ks ok inv afr acl adep aun hfrs rs rk (fun a b σ' as' s' hh => R a b σ' as' s' ?_) X
  obtain ⟨h1, h2, h3⟩ := hh
  exact ⟨[], [], b, SelOk.nil h1, h2.pvr, by rw [List.append_nil]; exact h3⟩
theorem TF.mono {frs : List Nat} {cl : Bool} {f : Addr} {ps : List PV} {kws : List (Str × PV)} {PQ PQ' : PV → St → Prop} {PE PE' : Value → St → Prop}
    (h : TF C k frs cl f ps kws σ PQ PE) (hq : ∀ p σ', PQ p σ' → PQ' p σ') (he : ∀ c σ', PE c σ' → PE' c σ') : TF C k frs cl f ps kws σ PQ' PE' :=
  fun A s as Q E vs ks ok inv afr acl adep aun hfrs rs rk R X => h A s as Q E vs ks ok inv afr acl adep aun hfrs rs rk (fun a b σ' as' s' h1 => R a b σ' as' s' (hq _ _ h1)) (fun e c tb xs σ' as' s' h1 => X e c tb xs σ' as' s' (he _ _ h1))
theorem TF.less {k' : Nat} {frs : List Nat} {cl : Bool} {f : Addr} {ps : List PV} {kws : List (Str × PV)} {PQ : PV → St → Prop} {PE : Value → St → Prop}
    (h : TF C k frs cl f ps kws σ PQ PE) (hk : k ≤ k') : TF C k' frs cl f ps kws σ PQ PE :=
  fun A s as Q E vs ks ok inv afr acl adep aun hfrs rs rk R X => h A s as Q E vs ks ok inv afr acl (Nat.lt_of_le_of_lt (by omega) adep) (Nat.lt_of_le_of_lt (by omega) aun) hfrs rs rk R X
end
end Mine

set_option maxRecDepth 100000
set_option autoImplicit false
set_option linter.unusedVariables false
set_option linter.unusedSectionVars false
set_option linter.unusedSimpArgs false
namespace Mine
open PySem PySem.W PyProof.Rows PySem.Calls PySem.SeqAt

/-- a state with less in it: the front part, its slots perhaps forgotten -/
def Shrink (σ σ' : St) : Prop := σ' = σ ∨ (σ'.length ≤ σ.length ∧ ∀ (j : Nat) (po' : PO), σ'[j]? = some po' → ∃ po, σ[j]? = some po ∧ POr (List.range σ'.length) po po')
theorem Shrink.refl (σ : St) : Shrink σ σ := .inl rfl
theorem Shrink.le {σ σ' : St} (S : Shrink σ σ') : σ'.length ≤ σ.length := by
  rcases S with rfl | S
  · exact Nat.le_refl _
  · exact S.1
theorem Shrink.ns {σ σ' : St} (S : Shrink σ σ') {i : Nat} (hi : i < σ'.length) (h : NsAt σ i) : NsAt σ' i := by
  rcases S with rfl | ⟨_, S⟩
  · exact h
  · obtain ⟨n, l, e⟩ := h
    have e' : σ'[i]? = some σ'[i] := List.getElem?_eq_getElem hi
    obtain ⟨po, e1, r⟩ := S i _ e'
    rw [e] at e1; cases e1
    generalize σ'[i] = q at r e'
    cases r
    exact ⟨_, _, e'⟩
theorem HInv.shrink {h₀ : Heap} {as : List Addr} {σ σ' : St} {h : Heap} (H : HInv h₀ as σ h) (S : Shrink σ σ') : HInv h₀ (as.take σ'.length) σ' h := by
  rcases S with rfl | ⟨hl, S⟩
  · rw [List.take_of_length_le (by rw [H.len]; exact Nat.le_refl _)]; exact H
  · obtain ⟨as', S1, S2, S3, S4⟩ := H.select (List.range σ'.length) (σ' := σ') List.nodup_range (by simp) (fun j i e => by
      have hj : j < σ'.length := by have := (List.getElem?_eq_some_iff.mp e).1; simpa using this
      rw [List.getElem?_range hj] at e; cases e
      obtain ⟨po, e1, r⟩ := S j _ (List.getElem?_eq_getElem hj)
      exact ⟨po, _, e1, List.getElem?_eq_getElem hj, r⟩)
    have : as' = as.take σ'.length := by
      apply List.ext_getElem?
      intro j
      by_cases hj : j < σ'.length
      · obtain ⟨a, e1, e2⟩ := S1 j j (List.getElem?_range hj)
        rw [e2, List.getElem?_take, if_pos hj, e1]
      · rw [List.getElem?_eq_none (by rw [S2]; simpa using hj), List.getElem?_eq_none (by simp; omega)]
    rw [← this]; exact S4
theorem take_pre {as₀ as : List Addr} {n : Nat} (p : as₀ <+: as) (h : as₀.length ≤ n) : as₀ <+: as.take n := by
  obtain ⟨t, rfl⟩ := p
  rw [List.take_append, List.take_of_length_le h]
  exact List.prefix_append _ _

/-- what an iterator runs over -/
inductive PIt where
  | list (l : Nat) (xs : List PV)
  | tuple (t : Nat) (xs : List PV)
  | own (xs : List PV)
  | enum (xs : List PV)
def PIt.items : PIt → List PV
  | .list _ xs => xs
  | .tuple _ xs => xs
  | .own xs => xs
  | .enum xs => xs
def PIt.src (σ : St) : PIt → Prop
  | .list l xs => σ[l]? = some (.list xs)
  | .tuple t xs => σ[t]? = some (.tuple xs)
  | .own _ => True
  | .enum _ => True
def PIt.val (σ : St) (i : Nat) (p : PV) : PIt → PV
  | .enum _ => .obj σ.length
  | _ => p
def PIt.st (σ : St) (i : Nat) (p : PV) : PIt → St
  | .enum _ => σ ++ [.tuple [.int i, p]]
  | _ => σ
def ItIs (C : Cx) (fp as : List Addr) (h : Heap) (I : Addr) (i : Nat) : PIt → Prop
  | .list l _ => (∀ b ∈ fp, b = I) ∧ ∃ a, as[l]? = some a ∧ h.IsListIter I a i
  | .tuple t _ => (∀ b ∈ fp, b = I) ∧ ∃ a, as[t]? = some a ∧ h.IsTupleIter I a i
  | .own xs => ∃ (wr : List Addr) (P : Nat → Value → Prop) (St : Nat → Heap → Prop), (∀ A : Around, A.handled = none → Walks C.prog C.w A I fp wr xs.length P St) ∧ St i h ∧ (∀ j v, P j v → (∃ p, xs[j]? = some p ∧ ∀ as, VR as p v) ∧ ∀ a, v ≠ .ref a) ∧ ∀ i h, St i h → ∀ b ∈ fp, ∃ o, h.get? b = some o
  | .enum xs => ∃ (wr : List Addr) (P : Nat → Array Value → Prop) (St : Nat → Heap → Prop) (Mid : Nat → Addr → Heap → Prop), (∀ A : Around, A.handled = none → WalksT C.prog C.w A I fp wr xs.length P St Mid) ∧ St i h ∧
      (∀ j vs, P j vs → ∃ t v p, vs = #[.int j t, v] ∧ xs[j]? = some p ∧ ∀ as, VR as p v) ∧ ∀ i h, St i h → ∀ b ∈ fp, ∃ o, h.get? b = some o

theorem ItIs.keep {C : Cx} {fp as as' : List Addr} {h h' : Heap} {I : Addr} {i : Nat} {j : PIt} {σ' : St} (H : ItIs C fp as h I i j) (hI : I ∈ fp) (k : ∀ b ∈ fp, ∀ o, h.get? b = some o → h'.get? b = some o) (e : j.src σ') (hl : ∀ (l : Nat) (a : Addr), l < σ'.length → as[l]? = some a → as'[l]? = some a) : ItIs C fp as' h' I i j := by
  cases j with
  | list l xs => obtain ⟨hfI, a, h1, h2⟩ := H; exact ⟨hfI, a, hl _ _ (List.getElem?_eq_some_iff.mp e).1 h1, h2.at (k I hI)⟩
  | tuple t xs => obtain ⟨hfI, a, h1, h2⟩ := H; exact ⟨hfI, a, hl _ _ (List.getElem?_eq_some_iff.mp e).1 h1, h2.at (k I hI)⟩
  | own xs => obtain ⟨wr, P, St, W, st, hv⟩ := H; exact ⟨wr, P, St, W, (W {} rfl).frame i h h' st k, hv⟩
  | enum xs => obtain ⟨wr, P, St, Mid, W, st, hv, hal⟩ := H; exact ⟨wr, P, St, Mid, W, (W {} rfl).frame i h h' st k, hv, hal⟩

theorem ItIs.alive {C : Cx} {fp as : List Addr} {h : Heap} {I : Addr} {i : Nat} {j : PIt} (H : ItIs C fp as h I i j) : ∀ b ∈ fp, ∃ o, h.get? b = some o := by
  cases j with
  | list l xs => obtain ⟨hf, a, h1, o, h2, _⟩ := H; exact fun b hb => ⟨o, hf b hb ▸ h2⟩
  | tuple t xs => obtain ⟨hf, a, h1, o, h2, _⟩ := H; exact fun b hb => ⟨o, hf b hb ▸ h2⟩
  | own xs => obtain ⟨wr, P, St, W, st, hv, hal⟩ := H; exact hal _ _ st
  | enum xs => obtain ⟨wr, P, St, Mid, W, st, hv, hal⟩ := H; exact hal _ _ st
/-- objects outside the account are changed -/
theorem HInv.off {h₀ : Heap} {as fp : List Addr} {σ : St} {h h' : Heap} (H : HInv h₀ as σ h) (hf : ∀ b ∈ fp, b ∉ as ∧ h₀.get? b = none) (k : ∀ b o, b ∉ fp → h.get? b = some o → h'.get? b = some o)
    (fr : ∃ f a, as[f]? = some a ∧ NsAt σ f) : HInv h₀ as σ h' := by
  have keepa : ∀ a ∈ as, ∀ o, h.get? a = some o → h'.get? a = some o := fun a ha o e => k a o (fun hm => (hf a hm).1 ha) e
  refine ⟨H.len, H.nd, fun b o e => k b o (fun hm => by have := (hf b hm).2; rw [e] at this; cases this) (H.base b o e), H.new, H.above, ?_, fun i a po e1 e2 => (H.rel i a po e1 e2).keep (keepa a (mem_of_get? e1))⟩
  obtain ⟨f, a, e1, n, l, e2⟩ := fr
  obtain ⟨o, e⟩ := H.there (mem_of_get? e1)
  have h1 := H.above f a n l e1 e2
  exact Nat.le_of_lt (Nat.lt_of_le_of_lt h1 (Heap.lt_size (keepa a (mem_of_get? e1) o e)))

section
variable {C : Cx} {k : Nat} {pe : PEnv} {σ : St} {PE : Value → St → Prop}

theorem At.aframe {as : List Addr} {A : Around} {s : Shared} {env : Env} (H : At C k pe as σ A s) (N : EnvRel as pe env) : ∃ f a, as[f]? = some a ∧ NsAt σ f := by
  obtain ⟨f, r, a, e1, e2, _⟩ := N.frame
  exact ⟨f, a, e2, H.frs f (e1 ▸ .head _)⟩

structure Fp (C : Cx) (fp as : List Addr) (s₀ : Shared) : Prop where
  off : ∀ b ∈ fp, b ∉ as ∧ C.h₀.get? b = none
  new : ∀ b ∈ fp, s₀.heap.get? b = none

theorem t_next_item {A : Around} {s : Shared} {env : Env} {as fp : List Addr} {I : Addr} {i : Nat} {j : PIt} {p : PV} {Q : Option Value → Shared → Prop} {E : Value → Shared → Prop}
    (H : At C k pe as σ A s) (N : EnvRel as pe env) (hh : A.handled = none) (hf : ∀ b ∈ fp, b ∉ as ∧ C.h₀.get? b = none) (hI : I ∈ fp) (it : ItIs C fp as s.heap I i j) (src : j.src σ) (hp : j.items[i]? = some p)
    (target : Expr) (ht : ∀ xs, j = .enum xs → ∃ es n pos, target = .Tuple es n pos)
    (hQ : ∀ v as' h' tk, VR as' (j.val σ i p) v → HInv C.h₀ as' (j.st σ i p) h' → as <+: as' → (∀ a ∈ as', a ∉ as → s.heap.get? a = none) → (∀ b ∈ fp, b ∉ as') → (∀ b o, b ∉ fp → s.heap.get? b = some o → h'.get? b = some o) →
      ItIs C fp as' h' I (i + 1) j ∨ (j.val σ i p = .obj σ.length ∧ ∃ xs, j = .enum xs ∧ True) →
      wpAny (model C.prog C.w) A (letOwnedTupleGo target (.ref I) v) (fun _ s'' => ∃ h'', s'' = { s with heap := h'', toks := tk } ∧ HInv C.h₀ as' (j.st σ i p) h'' ∧ (∀ b o, b ∉ fp → s.heap.get? b = some o → h''.get? b = some o) ∧ ItIs C fp as' h'' I (i + 1) j) E { s with heap := h', toks := tk } →
      Q (some v) { s with heap := h', toks := tk }) : wpAny (model C.prog C.w) A (pyNext (.ref I)) Q E s := by
  have pre := List.prefix_refl as
  have nn : ∀ a ∈ as, a ∉ as → s.heap.get? a = none := fun a h1 h2 => absurd h1 h2
  have offa : ∀ b ∈ fp, b ∉ as := fun b hb => (hf b hb).1
  have fr := H.aframe N
  cases j with
  | list l xs =>
    obtain ⟨hfI, a, h1, h2⟩ := it
    obtain ⟨vs, hl, rv⟩ := H.inv.atRef src h1
    obtain ⟨v, e1, e2⟩ := rv.get hp
    refine wpAny_pyNext_list_item h2 hl.isList (x := v) (by simpa using e1) fun h' hit' hs' => ?_
    have kk : ∀ b o, b ∉ fp → s.heap.get? b = some o → h'.get? b = some o := fun b o hb e => hs'.extBut b o (fun q => hb (q ▸ hI)) e
    have inv' := H.inv.off hf kk fr
    refine hQ v as h' s.toks e2 inv' pre nn offa kk (.inl ⟨hfI, a, h1, hit'⟩) ?_
    have fin : ∃ h'', ({ s with heap := h', toks := s.toks } : Shared) = { s with heap := h'', toks := s.toks } ∧ HInv C.h₀ as σ h'' ∧ (∀ b o, b ∉ fp → s.heap.get? b = some o → h''.get? b = some o) ∧ ItIs C fp as h'' I (i + 1) (.list l xs) := ⟨h', rfl, inv', kk, hfI, a, h1, hit'⟩
    obtain ⟨o, ho, hc, hd⟩ := hit'
    unfold letOwnedTupleGo
    split
    all_goals first
      | exact wpAny_pure fin
      | skip
    all_goals
      split
      · refine wpAny_bind (wpAny_load (by rename_i q; cases q; exact ho) ?_)
        rw [hc, hd]
        rename_i a' q
        show wpAny _ A (if (["enumerate", "zip", "dict_itemiterator", "dict_reverseitemiterator", "odict_iterator", "itertools.zip_longest", "itertools.pairwise"].contains "list_iterator" &&
            (#[.ref a, .int ((i + 1 : Nat) : Int) 0] : Array Value)[0]? == some (rawInt a')) = true then _ else _) _ E _
        rw [if_neg (by
          intro h
          rw [show (["enumerate", "zip", "dict_itemiterator", "dict_reverseitemiterator", "odict_iterator", "itertools.zip_longest", "itertools.pairwise"].contains "list_iterator") = false from by decide, Bool.false_and] at h
          cases h)]
        exact wpAny_pure fin
      · exact wpAny_pure fin
  | tuple l xs =>
    obtain ⟨hfI, a, h1, h2⟩ := it
    obtain ⟨vs, hl, rv⟩ := H.inv.atRef src h1
    obtain ⟨v, e1, e2⟩ := rv.get hp
    refine wpAny_pyNext_tuple_item h2 (x := v) hl (by simpa using e1) fun h' hit' hs' => ?_
    have kk : ∀ b o, b ∉ fp → s.heap.get? b = some o → h'.get? b = some o := fun b o hb e => hs'.extBut b o (fun q => hb (q ▸ hI)) e
    have inv' := H.inv.off hf kk fr
    refine hQ v as h' s.toks e2 inv' pre nn offa kk (.inl ⟨hfI, a, h1, hit'⟩) ?_
    have fin : ∃ h'', ({ s with heap := h', toks := s.toks } : Shared) = { s with heap := h'', toks := s.toks } ∧ HInv C.h₀ as σ h'' ∧ (∀ b o, b ∉ fp → s.heap.get? b = some o → h''.get? b = some o) ∧ ItIs C fp as h'' I (i + 1) (.tuple l xs) := ⟨h', rfl, inv', kk, hfI, a, h1, hit'⟩
    obtain ⟨o, ho, hc, hd⟩ := hit'
    unfold letOwnedTupleGo
    split
    all_goals first
      | exact wpAny_pure fin
      | skip
    all_goals
      split
      · refine wpAny_bind (wpAny_load (by rename_i q; cases q; exact ho) ?_)
        rw [hc, hd]
        rename_i a' q
        show wpAny _ A (if (["enumerate", "zip", "dict_itemiterator", "dict_reverseitemiterator", "odict_iterator", "itertools.zip_longest", "itertools.pairwise"].contains "tuple_iterator" &&
            (#[.ref a, .int ((i + 1 : Nat) : Int) 0] : Array Value)[0]? == some (rawInt a')) = true then _ else _) _ E _
        rw [if_neg (by
          intro h
          rw [show (["enumerate", "zip", "dict_itemiterator", "dict_reverseitemiterator", "odict_iterator", "itertools.zip_longest", "itertools.pairwise"].contains "tuple_iterator") = false from by decide, Bool.false_and] at h
          cases h)]
        exact wpAny_pure fin
      · exact wpAny_pure fin
  | own xs =>
    obtain ⟨wr, P, St, W, st, hv⟩ := it
    have hi : i < xs.length := (List.getElem?_eq_some_iff.mp hp).1
    refine (W A hh).item i s _ E hi st fun v h' tk hP st' hk => ?_
    obtain ⟨⟨q, e1, e2⟩, e3⟩ := hv.1 i v hP
    rw [show xs[i]? = some p from hp] at e1
    cases e1
    have kk : ∀ b o, b ∉ fp → s.heap.get? b = some o → h'.get? b = some o := fun b o hb e => hk b o (fun q => hb ((W A hh).sub b q)) e
    have inv' := H.inv.off hf kk fr
    refine hQ v as h' tk (e2 as) inv' pre nn offa kk (.inl ⟨wr, P, St, W, st', hv⟩) ?_
    have fin : ∃ h'', ({ s with heap := h', toks := tk } : Shared) = { s with heap := h'', toks := tk } ∧ HInv C.h₀ as σ h'' ∧ (∀ b o, b ∉ fp → s.heap.get? b = some o → h''.get? b = some o) ∧ ItIs C fp as h'' I (i + 1) (.own xs) := ⟨h', rfl, inv', kk, wr, P, St, W, st', hv⟩
    unfold letOwnedTupleGo
    split
    all_goals first
      | exact wpAny_pure fin
      | skip
    all_goals
      split
      · rename_i a' q
        cases q
        exact absurd rfl (e3 _)
      · exact wpAny_pure fin
  | enum xs =>
    obtain ⟨wr, P, St, Mid, W, st, hv, hal⟩ := it
    have hi : i < xs.length := (List.getElem?_eq_some_iff.mp hp).1
    refine (W A hh).item i s _ E hi st fun T vals h' tk hP hT ht' hM hk => ?_
    obtain ⟨t, v, q, rfl, e1, e2⟩ := hv i vals hP
    rw [show xs[i]? = some p from hp] at e1
    cases e1
    have kk : ∀ b o, b ∉ fp → s.heap.get? b = some o → h'.get? b = some o := fun b o hb e => hk b o (fun q => hb ((W A hh).sub b q)) e
    have inv' := H.inv.off hf kk fr
    have hTas : T ∉ as := fun hm => absurd (H.inv.lt hm) (Nat.not_lt.mpr hT)
    have htake : ∀ h'', h''.IsTuple T #[.int i t, v] → HInv C.h₀ as σ h'' → HInv C.h₀ (as ++ [T]) (σ ++ [.tuple [.int i, p]]) h'' := fun h'' ht'' iv => by
      refine iv.takes [T] [.tuple [.int i, p]] rfl (by simp) (fun a ha => ?_) (fun m a po e1 e2' => ?_)
      · simp at ha; subst ha
        exact ⟨hTas, Nat.le_trans H.inv.size hT⟩
      · cases m with
        | zero => simp at e1 e2'; subst e1; subst e2'; exact ⟨[.int i t, v], ht'', .cons (.int _ _) (.cons (e2 _) .nil)⟩
        | succ m => simp at e1
    have tfp : ∀ b ∈ fp, b ∉ as ++ [T] := fun b hb hm => by
      rcases List.mem_append.mp hm with hm | hm
      · exact offa b hb hm
      · simp at hm; subst hm
        obtain ⟨o, e⟩ := hal i _ st b hb
        exact absurd (Heap.lt_size e) (Nat.not_lt.mpr hT)
    refine hQ (.ref T) (as ++ [T]) h' tk (.obj _ _ (by rw [← H.inv.len]; simp)) (htake h' ht' inv') (List.prefix_append _ _) (fun a ha hn => ?_) tfp kk (.inr ⟨rfl, xs, rfl, trivial⟩) ?_
    · rcases List.mem_append.mp ha with ha | ha
      · exact absurd ha hn
      · simp at ha; subst ha; exact none_of_size hT
    · obtain ⟨es, n, pos, rfl⟩ := ht xs rfl
      refine (W A hh).go es n pos i T _ _ E hM fun h'' st'' hk'' => ?_
      have ap := (W A hh).apart i T h' hM
      have ht'' : h''.IsTuple T #[.int i t, v] := by obtain ⟨o, ho, r⟩ := ht'; exact ⟨o, hk'' T o ap ho, r⟩
      have kk'' : ∀ b o, b ∉ fp → s.heap.get? b = some o → h''.get? b = some o := fun b o hb e => hk'' b o (fun q => hb ((W A hh).sub b q)) (kk b o hb e)
      exact ⟨h'', rfl, htake h'' ht'' (H.inv.off hf kk'' fr), kk'', wr, P, St, Mid, W, st'', hv, hal⟩

theorem t_next_end {A : Around} {s : Shared} {env : Env} {as fp : List Addr} {I : Addr} {j : PIt} {Q : Option Value → Shared → Prop} {E : Value → Shared → Prop}
    (H : At C k pe as σ A s) (N : EnvRel as pe env) (hh : A.handled = none) (hf : ∀ b ∈ fp, b ∉ as ∧ C.h₀.get? b = none) (hI : I ∈ fp) (it : ItIs C fp as s.heap I j.items.length j) (src : j.src σ)
    (hQ : ∀ h' tk, HInv C.h₀ as σ h' → (∀ b o, b ∉ fp → s.heap.get? b = some o → h'.get? b = some o) → Q none { s with heap := h', toks := tk }) : wpAny (model C.prog C.w) A (pyNext (.ref I)) Q E s := by
  have fr := H.aframe N
  cases j with
  | list l xs =>
    obtain ⟨hfI, a, h1, h2⟩ := it
    obtain ⟨vs, hl, rv⟩ := H.inv.atRef src h1
    refine wpAny_pyNext_list_end hh h2 hl.isList (by simp [rv.length, PIt.items]) fun h' he' => ?_
    have kk : ∀ b o, b ∉ fp → s.heap.get? b = some o → h'.get? b = some o := fun b o hb e => he' b o (fun q => hb (q ▸ hI)) e
    exact hQ h' s.toks (H.inv.off hf kk fr) kk
  | tuple l xs =>
    obtain ⟨hfI, a, h1, h2⟩ := it
    obtain ⟨vs, hl, rv⟩ := H.inv.atRef src h1
    refine wpAny_pyNext_tuple_end hh h2 hl (by simp [rv.length, PIt.items]) fun h' he' => ?_
    have kk : ∀ b o, b ∉ fp → s.heap.get? b = some o → h'.get? b = some o := fun b o hb e => he' b o (fun q => hb (q ▸ hI)) e
    exact hQ h' s.toks (H.inv.off hf kk fr) kk
  | own xs =>
    obtain ⟨wr, P, St, W, st, hv⟩ := it
    refine (W A hh).done s _ E st fun h' tk hk => ?_
    have kk : ∀ b o, b ∉ fp → s.heap.get? b = some o → h'.get? b = some o := fun b o hb e => hk b o (fun q => hb ((W A hh).sub b q)) e
    exact hQ h' tk (H.inv.off hf kk fr) kk
  | enum xs =>
    obtain ⟨wr, P, St, Mid, W, st, hv, hal⟩ := it
    refine (W A hh).done s _ E st fun h' tk hk => ?_
    have kk : ∀ b o, b ∉ fp → s.heap.get? b = some o → h'.get? b = some o := fun b o hb e => hk b o (fun q => hb ((W A hh).sub b q)) e
    exact hQ h' tk (H.inv.off hf kk fr) kk

/-- an assignment to a target -/
def Ha (C : Cx) (k : Nat) (pe : PEnv) (target : Expr) (p : PV) (σ : St) (PQ : St → Prop) (PE : Value → St → Prop) : Prop :=
  ∀ (A : Around) (env : Env) (s : Shared) (as : List Addr) (Q : Unit → Shared → Prop) (E : Value → Shared → Prop) (v : Value),
    At C k pe as σ A s → EnvRel as pe env → VR as p v → Run C as σ s UR (fun _ σ' => PQ σ') Q → Exc C as σ s PE E → wpAny (model C.prog C.w) A (assign target env v) Q E s

/-- the rounds that are left -/
def LoopP (C : Cx) (k : Nat) (pe : PEnv) (target : Expr) (body orelse : List Stmt) (j : PIt) (n₀ : Nat) (PQ : PF → St → Prop) (PE : Value → St → Prop) : Nat → List PV → St → Prop
  | _, [], σ => j.src σ ∧ Hs C k pe orelse σ PQ PE
  | i, p :: ps, σ => j.src σ ∧ Ha C k pe target (j.val σ i p) (j.st σ i p) (fun σ₁ => Hs C k pe body σ₁ (fun f σ₂ => match f with
      | .next | .cont => ∃ σ₃, Shrink σ₂ σ₃ ∧ n₀ ≤ σ₃.length ∧ LoopP C k pe target body orelse j n₀ PQ PE (i + 1) ps σ₃
      | .brk => PQ .next σ₂
      | .ret v => PQ (.ret v) σ₂) PE) PE

/-- an iterable, and its iterator -/
def Hit (C : Cx) (k : Nat) (pe : PEnv) (e : Expr) (σ : St) (PQ : PIt → St → Prop) (PE : Value → St → Prop) : Prop :=
  ∀ (A : Around) (env : Env) (s : Shared) (as : List Addr) (Q : Value → Shared → Prop) (E : Value → Shared → Prop), At C k pe as σ A s → EnvRel as pe env →
    (∀ (I : Addr) (fp : List Addr) (j : PIt) (σ' : St) (as' : List Addr) (s' : Shared), PQ j σ' → j.src σ' → as <+: as' → Ext σ σ' → HInv C.h₀ as' σ' s'.heap → Go as s as' s' → (∀ b ∈ fp, (b ∉ as' ∧ C.h₀.get? b = none) ∧ s.heap.get? b = none) → I ∈ fp →
      ItIs C fp as' s'.heap I 0 j → Q (.ref I) s') → Exc C as σ s PE E →
    wpAny (model C.prog C.w) A (eval e env) (fun x s₁ => wpAny (model C.prog C.w) A (pyIter x) Q E s₁) E s

theorem Ext.shrink {σ₀ σ σ' : St} (x : Ext σ₀ σ) (S : Shrink σ σ') (h : σ₀.length ≤ σ'.length) : Ext σ₀ σ' :=
  ⟨h, fun i e => S.ns (by obtain ⟨n, l, q⟩ := e; exact Nat.lt_of_lt_of_le (List.getElem?_eq_some_iff.mp q).1 h) (x.2 i e)⟩

theorem hs_for {target iter : Expr} {body orelse : List Stmt} {pos : Pos} {PQ : PF → St → Prop} (hcl : pe.clean = true)
    (h : Hit C k pe iter σ (fun j σ₁ => ((∃ xs, j = .enum xs) → ∃ es n pos, target = .Tuple es n pos) ∧ LoopP C k pe target body orelse j σ₁.length PQ PE 0 j.items σ₁) PE)
    (hs : ∀ env x, foldedSetIterable iter env x = pure x := by intro _ _; rfl) : Hs1 C k pe (.For target iter body orelse pos) σ PQ PE := by
  intro A env s as Q E H N R X
  refine wpAny_For (h A env s as _ E H N (fun I fp j σ₁ as₁ s₁ h₁ src₁ a₁ x₁ i₁ w₁ hf₁ hI it₁ => ?_) X) (hs env)
  obtain ⟨htup, h₁⟩ := h₁
  have hn₀ : σ₁.length = as₁.length := i₁.len.symm
  have hσl : σ.length ≤ σ₁.length := x₁.1
  have hasl : as.length ≤ as₁.length := by rw [H.inv.len, i₁.len]; exact x₁.1
  have hh : A.handled = none := H.a.clean hcl
  refine codeAny_forLoop_any (fun n s' => ∃ i ps σ' as', n = ps.length ∧ j.items.drop i = ps ∧ i + ps.length = j.items.length ∧ LoopP C k pe target body orelse j σ₁.length PQ PE i ps σ' ∧ σ₁.length ≤ σ'.length ∧ as₁ <+: as' ∧ Ext σ σ' ∧ HInv C.h₀ as' σ' s'.heap ∧ Go as s as' s' ∧ (∀ b ∈ fp, b ∉ as') ∧ ItIs C fp as' s'.heap I i j)
    ?_ j.items.length ⟨0, j.items, σ₁, as₁, rfl, by simp, by simp, h₁, Nat.le_refl _, List.prefix_refl _, x₁, i₁, w₁, fun b hb => (hf₁ b hb).1.1, it₁⟩
  rintro n s' ⟨i, ps, σ', as', rfl, hdrop, hlen, hL, hle, p', x', i', w', hoff, it'⟩
  have p₀ := a₁.trans p'
  have H' : At C k pe as' σ' A s' := H.step p₀ x' i'
  have N' := N.mono p₀
  have hf' : ∀ b ∈ fp, b ∉ as' ∧ C.h₀.get? b = none := fun b hb => ⟨hoff b hb, (hf₁ b hb).1.2⟩
  have go' : ∀ (as'' : List Addr) (h' : Heap) (tk : Nat), (∀ a ∈ as'', a ∉ as' → s'.heap.get? a = none) → (∀ b o, b ∉ fp → s'.heap.get? b = some o → h'.get? b = some o) → Go as s as'' { s' with heap := h', toks := tk } := fun as'' h' tk hn hk => by
    refine ⟨w'.srel.trans (SRel.heap s' h' tk), fun b o hb e => ?_⟩
    obtain ⟨h1, _, h3⟩ := w'.kp b o hb e
    refine ⟨fun hm => ?_, by simp, hk b o (fun hm => ?_) h3⟩
    · have := hn b hm h1; rw [h3] at this; cases this
    · have := (hf₁ b hm).2; rw [e] at this; cases this
  -- how an exception goes on
  have exc : ∀ {σ'' : St} {as'' : List Addr} {s'' : Shared}, At C k pe as'' σ'' A s'' → as' <+: as'' → Ext σ σ'' → Go as s as'' s'' → Exc C as'' σ'' s'' PE (notedBy (model C.prog C.w) A env fun e s' => cameBackBy (model C.prog C.w) A env E e s') :=
    fun H'' p'' x'' w'' => (X.go (p₀.trans p'') x'' w'').noted H'' (N'.mono p'')
  cases ps with
  | nil =>
    obtain ⟨src, hE⟩ := hL
    have hi : i = j.items.length := by simpa using hlen
    subst hi
    refine t_next_end H' N' hh hf' hI it' src fun h' tk iv hk => ?_
    have w'' := go' as' h' tk (fun a h1 h2 => absurd h1 h2) hk
    have H'' : At C k pe as' σ' A { s' with heap := h', toks := tk } := ⟨H'.ok, H'.a, iv, H'.frs⟩
    refine hE A env _ as' _ _ H'' N' (fun f pf σ₃ as₃ s₃ h₃ a₃ x₃ r₃ i₃ w₃ => ?_) (exc H'' (List.prefix_refl _) x' w'')
    exact R f pf σ₃ as₃ s₃ h₃ (p₀.trans a₃) (x'.trans x₃) r₃ i₃ (w''.trans w₃)
  | cons p ps =>
    obtain ⟨src, hT⟩ := hL
    have hp : j.items[i]? = some p := by
      have := congrArg (fun l => l[0]?) hdrop
      simpa using this
    refine t_next_item H' N' hh hf' hI it' src hp target (fun xs e => htup ⟨xs, e⟩) fun v as'' h' tk rv iv pp hnew hoff'' hk _ hgo => ?_
    refine wpAny_mono hgo (fun _ s₂ h₂ => ?_) ?_
    · obtain ⟨h'', rfl, iv'', hk'', it''⟩ := h₂
      have ext'' : Ext σ' (j.st σ' i p) := by
        cases j <;> first | exact Ext.refl _ | exact Ext.append _ _
      have x'' := x'.trans ext''
      have w'' := go' as'' h'' tk hnew hk''
      have H'' : At C k pe as'' (j.st σ' i p) A { s' with heap := h'', toks := tk } := H'.step pp ext'' iv''
      refine hT A env _ as'' _ _ v H'' (N'.mono pp) rv (fun _ _ σ₃ as₃ s₃ h₃ a₃ x₃ _ i₃ w₃ => ?_) (exc H'' pp x'' w'')
      have H₃ := H''.step a₃ x₃ i₃
      have w₃' := w''.trans w₃
      refine h₃ A env s₃ as₃ _ _ H₃ ((N'.mono pp).mono a₃) (fun f pf σ₄ as₄ s₄ h₄ a₄ x₄ r₄ i₄ w₄ => ?_) (exc H₃ (pp.trans a₃) (x''.trans x₃) w₃')
      have w₄' := w₃'.trans w₄
      have cont : (∃ σ₅, Shrink σ₄ σ₅ ∧ σ₁.length ≤ σ₅.length ∧ LoopP C k pe target body orelse j σ₁.length PQ PE (i + 1) ps σ₅) → ∃ m, m < (p :: ps).length ∧ ∃ i ps σ' as', m = ps.length ∧ j.items.drop i = ps ∧ i + ps.length = j.items.length ∧ LoopP C k pe target body orelse j σ₁.length PQ PE i ps σ' ∧ σ₁.length ≤ σ'.length ∧ as₁ <+: as' ∧ Ext σ σ' ∧ HInv C.h₀ as' σ' s₄.heap ∧ Go as s as' s₄ ∧ (∀ b ∈ fp, b ∉ as') ∧ ItIs C fp as' s₄.heap I i j := by
        rintro ⟨σ₅, S, hle₅, hL₅⟩
        have kp4 : ∀ b ∈ fp, ∀ o, h''.get? b = some o → b ∉ as₄ ∧ s₄.heap.get? b = some o := fun b hb o e => by
          obtain ⟨g1, _, g3⟩ := (w₃.trans w₄).kp b o (hoff'' b hb) e
          exact ⟨g1, g3⟩
        have offs : ∀ b ∈ fp, b ∉ as₄.take σ₅.length := fun b hb hm => by
          obtain ⟨o, e⟩ := it''.alive b hb
          exact (kp4 b hb o e).1 (List.mem_of_mem_take hm)
        refine ⟨ps.length, by simp, i + 1, ps, σ₅, as₄.take σ₅.length, rfl, ?_, ?_, hL₅, hle₅, ?_, ?_, i₄.shrink S, ?_, offs, ?_⟩
        · rw [← List.drop_drop, hdrop]; rfl
        · simp at hlen; omega
        · exact take_pre ((p'.trans pp).trans (a₃.trans a₄)) (by omega)
        · exact ((x''.trans x₃).trans x₄).shrink S (by omega)
        · exact ⟨w₄'.srel, fun b o hb e => let ⟨g1, g2, g3⟩ := w₄'.kp b o hb e; ⟨fun hm => g1 (List.mem_of_mem_take hm), g2, g3⟩⟩
        · have hsrc₅ : j.src σ₅ := by cases ps <;> exact hL₅.1
          refine it''.keep hI (fun b hb o e => (kp4 b hb o e).2) hsrc₅ fun l a hl e => ?_
          rw [List.getElem?_take, if_pos hl]
          exact pre_get (a₃.trans a₄) e
      cases r₄ with
      | next => exact cont h₄
      | cont => exact cont h₄
      | brk => exact R _ _ σ₄ as₄ s₄ h₄ (p₀.trans (pp.trans (a₃.trans a₄))) ((x''.trans x₃).trans x₄) .next i₄ w₄'
      | ret r => exact R _ _ σ₄ as₄ s₄ h₄ (p₀.trans (pp.trans (a₃.trans a₄))) ((x''.trans x₃).trans x₄) (.ret r) i₄ w₄'
    · exact fun _ _ x => x
end
end Mine

set_option maxRecDepth 100000
set_option autoImplicit false
set_option linter.unusedVariables false
set_option linter.unusedSectionVars false
set_option linter.unusedSimpArgs false
namespace Mine
open PySem PySem.W PyProof.Rows PySem.Calls PySem.SeqAt

theorem pre_mem {as as' : List Addr} (p : as <+: as') {a : Addr} (h : a ∈ as) : a ∈ as' := by obtain ⟨t, rfl⟩ := p; exact List.mem_append_left _ h
section
variable {C : Cx} {k : Nat} {pe : PEnv} {σ : St} {PE : Value → St → Prop}

theorem ha_name {x : Str} {pos : Pos} {p : PV} {σ₂ : St} {PQ : St → Prop} (e : BindIs pe σ x p σ₂) (h : PQ σ₂) : Ha C k pe (.Name x pos) p σ PQ PE := by
  intro A env s as Q E v H N r R X
  exact wpAny_assign_Name (t_store (PQ := fun _ σ' => PQ σ') e h H N r R)

/-- targets in a row -/
def HaL (C : Cx) (k : Nat) (pe : PEnv) (PQ : St → Prop) (PE : Value → St → Prop) : List Expr → List PV → St → Prop
  | [], [], σ => PQ σ
  | e :: es, p :: ps, σ => (∀ env, assignEach (e :: es) env = (false, assign e env) :: assignEach es env) ∧ Ha C k pe e p σ (fun σ₁ => HaL C k pe PQ PE es ps σ₁) PE
  | _, _, _ => False

theorem wp_inOrder {PQ : St → Prop} : ∀ {es : List Expr} {ps : List PV} {σ : St}, HaL C k pe PQ PE es ps σ → ∀ {A : Around} {env : Env} {s : Shared} {as : List Addr} {Q : Unit → Shared → Prop} {E : Value → Shared → Prop} {vs : List Value},
    At C k pe as σ A s → EnvRel as pe env → VRs as ps vs → Run C as σ s UR (fun _ σ' => PQ σ') Q → Exc C as σ s PE E → wpAny (model C.prog C.w) A (assignInOrder ((assignEach es env).map (·.2)) vs) Q E s
  | [], [], σ, h, A, env, s, as, Q, E, vs, H, N, r, R, X => by
    cases r
    exact wpAny_pure (R.here H (b := ()) h trivial)
  | e :: es, p :: ps, σ, ⟨he, h⟩, A, env, s, as, Q, E, vs, H, N, r, R, X => by
    cases r with
    | cons r rs =>
      rw [he env]
      refine wpAny_bind (wpAny_holding (h A env s as _ E _ H N r (fun _ _ σ₁ as₁ s₁ h₁ a₁ x₁ _ i₁ w₁ => ?_) X))
      exact wp_inOrder h₁ (H.step a₁ x₁ i₁) (N.mono a₁) (rs.mono a₁) (R.go a₁ x₁ w₁) (X.go a₁ x₁ w₁)
  | [], _ :: _, _, h, _, _, _, _, _, _, _, _, _, _, _, _ => h.elim
  | _ :: _, [], _, h, _, _, _, _, _, _, _, _, _, _, _, _ => h.elim

theorem Run.after {α β : Type} {as as₁ : List Addr} {s : Shared} {h' : Heap} {rel : List Addr → β → α → Prop} {PQ : β → St → Prop} {Q : α → Shared → Prop} {tk : Nat}
    (R : Run C as σ s rel PQ Q) (w : Go as s as { s with heap := h', toks := tk }) : Run C as σ { s with heap := h', toks := tk } rel PQ Q := R.go (List.prefix_refl _) (Ext.refl _) w

theorem ha_tuple {es : List Expr} {n : Nat} {pos : Pos} {t : Nat} {ps : List PV} {PQ : St → Prop} (hcl : pe.clean = true) (g : σ[t]? = some (.tuple ps)) (h : HaL C k pe PQ PE es ps σ)
    (hn : ∀ env, (assignEach es env).length = ps.length := by intro _; rfl) (hst : ∀ env, (assignEach es env).findIdx? (·.1) = none := by intro _; rfl) : Ha C k pe (.Tuple es n pos) (.obj t) σ PQ PE := by
  intro A env s as Q E v H N r R X
  cases r with
  | obj _ a e =>
    obtain ⟨vs, ht, rv⟩ := H.inv.atRef g e
    refine wpAny_assign_Tuple (H.a.clean hcl) ht (by rw [hn env]; simp [rv.length]) (hst env) fun h' hx => ?_
    have kk : ∀ b o, s.heap.get? b = some o → h'.get? b = some o := fun b o e => hx b o (Nat.ne_of_lt (Heap.lt_size e)) e
    have w : Go as s as { s with heap := h', toks := s.toks } := Go.keeps kk trivial fun a h1 h2 => absurd h1 h2
    have inv' : HInv C.h₀ as σ h' := H.inv.off (fp := []) (by simp) (fun b o _ e => kk b o e) (H.aframe N)
    exact wp_inOrder (s := { s with heap := h', toks := s.toks }) h ⟨H.ok, H.a, inv', H.frs⟩ N (by simpa using rv) (R.go (List.prefix_refl _) (Ext.refl _) w) (X.go (List.prefix_refl _) (Ext.refl _) w)

/-- the iterable of a value -/
inductive IterOf (σ : St) : PV → PIt → Prop
  | list {l : Nat} {xs : List PV} : σ[l]? = some (.list xs) → IterOf σ (.obj l) (.list l xs)
  | tuple {l : Nat} {xs : List PV} : σ[l]? = some (.tuple xs) → IterOf σ (.obj l) (.tuple l xs)
  | str (x : Str) : IterOf σ (.str x) (.own (x.cps.toList.map fun c => .str ⟨#[c]⟩))
  | bytes (b : Array UInt8) : IterOf σ (.bytes b) (.own (b.toList.map fun c => .int (c.toNat : Int)))
  | range {r : Nat} {o : Obj} {a b : Int} : σ[r]? = some (.raw o) → (∃ t u v, o = { cls := .type "range", dict := none, data := .fields #[.int a t, .int b u, .int 1 v], slots := #[] }) → -(2 ^ 62) ≤ a → a < 2 ^ 62 → -(2 ^ 62) ≤ b → b < 2 ^ 62 →
      IterOf σ (.obj r) (.own ((List.range (b - a).toNat).map fun (i : Nat) => .int (a + (i : Int))))

theorem wp_pyIter {A : Around} {env : Env} {s : Shared} {as : List Addr} {Q : Value → Shared → Prop} {E : Value → Shared → Prop} {p : PV} {v : Value} {j : PIt}
    (H : At C k pe as σ A s) (N : EnvRel as pe env) (r : VR as p v) (hi : IterOf σ p j)
    (hQ : ∀ h' I, HInv C.h₀ as σ h' → (∀ b o, s.heap.get? b = some o → h'.get? b = some o) → s.heap.get? I = none → I ∉ as → C.h₀.get? I = none → (∀ as', (∀ (l : Nat) (a : Addr), as[l]? = some a → l < as'.length → as'[l]? = some a) → (∀ l xs, (j = .list l xs ∨ j = .tuple l xs) → l < as'.length) → ItIs C [I] as' h' I 0 j) → Q (.ref I) { s with heap := h', toks := s.toks }) :
    wpAny (model C.prog C.w) A (pyIter v) Q E s := by
  have hnew : ∀ o : Obj, (∀ b o', s.heap.get? b = some o' → (s.heap.push o).get? b = some o') := fun o b o' e => Heap.get?_push_of_some _ e
  have hI0 : s.heap.get? s.heap.objs.size = none := none_of_size (Nat.le_refl _)
  have hI1 : s.heap.objs.size ∉ as := fun hm => Nat.lt_irrefl _ (H.inv.lt hm)
  have hI2 : C.h₀.get? s.heap.objs.size = none := none_of_size H.inv.size
  cases hi with
  | @list l xs g =>
    cases r with
    | obj _ a e =>
      obtain ⟨vs, hl, rv⟩ := H.inv.atRef g e
      refine wpAny_pyIter_list hl.isList (hQ _ _ (H.inv.push _) (hnew _) hI0 hI1 hI2 fun as' hp hlt => ?_)
      exact ⟨fun b hb => by simpa using hb, a, hp _ _ e (hlt l xs (.inl rfl)), _, Heap.get?_push_size _ rfl, rfl, rfl⟩
  | @tuple l xs g =>
    cases r with
    | obj _ a e =>
      obtain ⟨vs, hl, rv⟩ := H.inv.atRef g e
      refine wpAny_pyIter_tuple hl (hQ _ _ (H.inv.push _) (hnew _) hI0 hI1 hI2 fun as' hp hlt => ?_)
      exact ⟨fun b hb => by simpa using hb, a, hp _ _ e (hlt l xs (.inr rfl)), _, Heap.get?_push_size _ rfl, rfl, rfl⟩
  | str x =>
    cases r with
    | str _ t =>
      have hsz : x.cps.size = (x.cps.toList.map fun c => PV.str ⟨#[c]⟩).length := by simp
      have sp : ∀ (j : Nat) (v : Value), SignAt x j v → (∃ p, (x.cps.toList.map fun c => PV.str ⟨#[c]⟩)[j]? = some p ∧ ∀ as, VR as p v) ∧ ∀ a, v ≠ .ref a := fun j v ⟨c, u, e1, e2⟩ => by
        subst e2
        refine ⟨⟨.str ⟨#[c]⟩, ?_, fun as => .str _ _⟩, fun a q => nomatch q⟩
        rw [List.getElem?_map, Array.getElem?_toList, e1]; rfl
      cases ha : x.cps.all (· < 128) with
      | true =>
        refine wpAny_pyIter_ascii ha (hQ _ _ (H.inv.push _) (hnew _) hI0 hI1 hI2 fun as' hp hlt => ?_)
        exact ⟨[s.heap.objs.size], SignAt x, _, fun A hA => hsz ▸ Walks.strAscii hA _ x t, ⟨_, Heap.get?_push_size _ rfl, rfl, rfl⟩, sp, fun i h ⟨o, ho, _⟩ b hb => ⟨o, by simp at hb; subst hb; exact ho⟩⟩
      | false =>
        refine wpAny_pyIter_wide ha (hQ _ _ (H.inv.push _) (hnew _) hI0 hI1 hI2 fun as' hp hlt => ?_)
        exact ⟨[s.heap.objs.size], SignAt x, _, fun A hA => hsz ▸ Walks.strWide hA _ x t, ⟨_, Heap.get?_push_size _ rfl, rfl, rfl⟩, sp, fun i h ⟨o, ho, _⟩ b hb => ⟨o, by simp at hb; subst hb; exact ho⟩⟩
  | bytes b =>
    cases r with
    | bytes _ t =>
      have hsz : b.size = (b.toList.map fun c => PV.int (c.toNat : Int)).length := by simp
      refine KBw.pyIter_bytes (hQ _ _ (H.inv.push _) (hnew _) hI0 hI1 hI2 fun as' hp hlt => ?_)
      refine ⟨[s.heap.objs.size], _, _, fun A hA => hsz ▸ KBw.walks hA _ b t, ⟨_, Heap.get?_push_size _ rfl, rfl, rfl⟩, fun j v ⟨c, u, e1, e2⟩ => ?_, fun i h ⟨o, ho, _⟩ b hb => ⟨o, by simp at hb; subst hb; exact ho⟩⟩
      subst e2
      refine ⟨⟨.int c.toNat, ?_, fun as => .int _ _⟩, fun a q => nomatch q⟩
      rw [List.getElem?_map, Array.getElem?_toList, e1]; rfl
  | @range r' o a b g ho h1 h2 h3 h4 =>
    cases r with
    | obj _ ra e =>
      have hr : s.heap.get? ra = some o := H.inv.atRef g e
      obtain ⟨t, u, v, rfl⟩ := ho
      have hsz : Builtin.Range.rangeSize a b 1 = ((b - a).toNat : Int) := by rw [rangeSize_one]; split <;> omega
      refine wpAny_pyIter_range hr (small_one h1 h2 h3 h4) (hQ _ _ (H.inv.push _) (hnew _) hI0 hI1 hI2 fun as' hp hlt => ?_)
      have hlen : (b - a).toNat = ((List.range (b - a).toNat).map fun (i : Nat) => PV.int (a + (i : Int))).length := by simp
      refine ⟨[s.heap.objs.size], fun i v => i < (b - a).toNat ∧ ∃ t, v = .int (a + (i : Nat) * 1) t, fun i h => IsRangeIter h s.heap.objs.size (a + (i : Nat) * 1) (((b - a).toNat : Int) - (i : Nat)) 1, fun A hA => by rw [← hlen]; exact (Walks.range hA _ a 1 (b - a).toNat).bound, ?_, fun j v ⟨hj, t, e1⟩ => ?_, fun i h ho b hb => ⟨_, by simp at hb; subst hb; exact ho⟩⟩
      · have e1 : (a + ((0 : Nat) : Int) * 1) = a := by simp
        have e2 : (((b - a).toNat : Int) - ((0 : Nat) : Int)) = Builtin.Range.rangeSize a b 1 := by rw [hsz]; simp
        show IsRangeIter _ _ (a + ((0 : Nat) : Int) * 1) (((b - a).toNat : Int) - ((0 : Nat) : Int)) 1
        rw [e1, e2]
        exact Heap.get?_push_size _ rfl
      · subst e1
        refine ⟨⟨.int (a + (j : Int)), ?_, fun as => by rw [Int.mul_one]; exact .int _ _⟩, fun a q => nomatch q⟩
        rw [List.getElem?_map, List.getElem?_range hj]; rfl

theorem hit_val {e : Expr} {PQ : PIt → St → Prop} (h : Hx C k pe e σ (fun p σ₁ => ∃ j σ₂, IterOf σ₁ p j ∧ ((Shrink σ₁ σ₂ ∧ σ.length ≤ σ₂.length) ∨ (σ₂ = σ ∧ σ <+: σ₁)) ∧ j.src σ₂ ∧ PQ j σ₂) PE) : Hit C k pe e σ PQ PE := by
  intro A env s as Q E H N R X
  refine h A env s as _ E H N (fun v p σ₁ as₁ s₁ h₁ a₁ x₁ r₁ i₁ w₁ => ?_) X
  obtain ⟨j, σ₂, hj, hd, src, hPQ⟩ := h₁
  have H₁ := H.step a₁ x₁ i₁
  refine wp_pyIter H₁ (N.mono a₁) r₁ hj fun h' I iv hk hI hIa hI₀ hit => ?_
  have key : ∃ as₂, as <+: as₂ ∧ Ext σ σ₂ ∧ HInv C.h₀ as₂ σ₂ h' ∧ (∀ a ∈ as₂, a ∈ as₁) ∧ ∀ (l : Nat) (a : Addr), as₁[l]? = some a → l < as₂.length → as₂[l]? = some a := by
    have gettake : ∀ (l n : Nat) (a : Addr), as₁[l]? = some a → l < (as₁.take n).length → (as₁.take n)[l]? = some a := fun l n a e hl => by
      rw [List.getElem?_take, if_pos (by simp at hl; omega)]; exact e
    rcases hd with ⟨S, hle⟩ | ⟨rfl, hp⟩
    · exact ⟨as₁.take σ₂.length, take_pre a₁ (by rw [H.inv.len]; exact hle), x₁.shrink S hle, iv.shrink S, fun a ha => List.mem_of_mem_take ha, fun l a e hl => gettake l _ a e hl⟩
    · obtain ⟨as'', p1, S1, S3, S4⟩ := sel_core (s' := { s₁ with heap := h' }) H.inv (SelOk.nil hp) a₁ iv
      rw [List.append_nil] at S4
      have : as'' = as := by
        obtain ⟨t, rfl⟩ := p1
        have h1 := S4.len
        rw [List.length_append, H.inv.len] at h1
        have : t = [] := List.length_eq_zero_iff.mp (by omega)
        rw [this, List.append_nil]
      subst this
      refine ⟨as'', List.prefix_refl _, Ext.refl _, S4, S3, fun l a e hl => ?_⟩
      obtain ⟨t, rfl⟩ := a₁
      rwa [List.getElem?_append_left hl] at e
  obtain ⟨as₂, p2, x2, i2, m2, g2⟩ := key
  refine R I [I] j σ₂ as₂ { s₁ with heap := h', toks := s₁.toks } hPQ src p2 x2 i2 ⟨w₁.srel.trans (SRel.heap s₁ h' s₁.toks), fun b o hb e => ?_⟩ (fun b hb => ?_) (by simp) (hit as₂ g2 fun l xs hl => ?_)
  · obtain ⟨f1, f2, f3⟩ := w₁.kp b o hb e
    exact ⟨fun hm => f1 (m2 b hm), f2, hk b o f3⟩
  · simp at hb; subst hb
    refine ⟨⟨fun hm => hIa (m2 b hm), hI₀⟩, ?_⟩
    cases q : s.heap.get? b with
    | none => rfl
    | some o =>
      by_cases hb : b ∈ as
      · exact absurd (pre_mem a₁ hb) hIa
      · have := (w₁.kp b o hb q).2.2
        rw [hI] at this; cases this
  · rcases hl with rfl | rfl
    · rw [i2.len]; exact (List.getElem?_eq_some_iff.mp src).1
    · rw [i2.len]; exact (List.getElem?_eq_some_iff.mp src).1

theorem tc_range1 {n : Int} {PQ : PV → St → Prop} (h : ∀ o : Obj, (∃ t u v, o = { cls := .type "range", dict := none, data := .fields #[.int 0 t, .int n u, .int 1 v], slots := #[] }) → PQ (.obj σ.length) (σ ++ [.raw o])) :
    TC C k pe (.lit (.type "range")) [.int n] [] σ PQ PE := by
  intro A env s as Q E f vs ks H N rf rs rk R X
  cases rf; cases rk
  cases rs with
  | cons r rs =>
    cases rs; cases r
    rename_i t
    refine call_range_1 ?_
    refine R _ _ (σ ++ [.raw { cls := .type "range", dict := none, data := .fields #[.int 0 s.toks, .int n t, .int 1 (s.toks + 1)], slots := #[] }]) (as ++ [s.heap.objs.size]) _ (h _ ⟨_, _, _, rfl⟩) (List.prefix_append _ _) (Ext.append _ _) (.obj _ _ (by rw [← H.inv.len]; simp)) (H.inv.alloc ?_) Go.push
    exact Heap.get?_push_size _ rfl
theorem tc_range2 {a b : Int} {PQ : PV → St → Prop} (h : ∀ o : Obj, (∃ t u v, o = { cls := .type "range", dict := none, data := .fields #[.int a t, .int b u, .int 1 v], slots := #[] }) → PQ (.obj σ.length) (σ ++ [.raw o])) :
    TC C k pe (.lit (.type "range")) [.int a, .int b] [] σ PQ PE := by
  intro A env s as Q E f vs ks H N rf rs rk R X
  cases rf; cases rk
  cases rs with
  | cons r rs =>
    cases rs with
    | cons r2 rs =>
      cases rs; cases r; cases r2
      rename_i t u
      refine call_range_2 ?_
      refine R _ _ (σ ++ [.raw { cls := .type "range", dict := none, data := .fields #[.int a t, .int b u, .int 1 s.toks], slots := #[] }]) (as ++ [s.heap.objs.size]) _ (h _ ⟨_, _, _, rfl⟩) (List.prefix_append _ _) (Ext.append _ _) (.obj _ _ (by rw [← H.inv.len]; simp)) (H.inv.alloc ?_) Go.push
      exact Heap.get?_push_size _ rfl

/-- the numbers from a to below b -/
def rangeP (a b : Int) : List PV := (List.range (b - a).toNat).map fun (i : Nat) => .int (a + (i : Int))

theorem hit_range1 {f e : Expr} {pos : Pos} {PQ : PIt → St → Prop}
    (hf : Hx C k pe f σ (fun pf σ₁ => pf = .lit (.type "range") ∧ σ₁ = σ) PE)
    (h : Hx C k pe e σ (fun p σ₁ => ∃ n : Int, p = .int n ∧ -(2 ^ 62) ≤ n ∧ n < 2 ^ 62 ∧ σ <+: σ₁ ∧ PQ (.own (rangeP 0 n)) σ) PE)
    (hse : ∀ env, starEach [e] env = [(false, eval e env)] := by intro _; rfl)
    (he : ∀ env, eval (.Call f [e] [] pos) env = (do callWith pos (← eval f env) [] (backTo pos (starEach [e] env)) (backToKw pos (keywordEach [] env))) := by intro _; rfl) : Hit C k pe (.Call f [e] [] pos) σ PQ PE := by
  refine hit_val (hx_call (Tr.mono hf (fun pf σ₁ hq => ?_) fun _ _ x => x) he (fun env => by rw [hse env]; rfl))
  obtain ⟨rfl, rfl⟩ := hq
  refine hl_cons (Tr.mono h (fun p σ₁ hq => ?_) fun _ _ x => x) (fun env => by rw [hse env]; rfl)
  obtain ⟨n, rfl, h1, h2, hp, hq⟩ := hq
  refine hl_nil (hk_nil ⟨keep_type, tc_range1 fun o ho => ?_⟩)
  refine ⟨_, _, IterOf.range (by simp) ho (by decide) (by decide) h1 h2, .inr ⟨rfl, hp.trans (List.prefix_append _ _)⟩, trivial, hq⟩
theorem hit_range2 {f e e' : Expr} {pos : Pos} {PQ : PIt → St → Prop}
    (hf : Hx C k pe f σ (fun pf σ₁ => pf = .lit (.type "range") ∧ σ₁ = σ) PE)
    (h : Hx C k pe e σ (fun p σ₁ => Hx C k pe e' σ₁ (fun p' σ₂ => ∃ a b : Int, p = .int a ∧ p' = .int b ∧ -(2 ^ 62) ≤ a ∧ a < 2 ^ 62 ∧ -(2 ^ 62) ≤ b ∧ b < 2 ^ 62 ∧ σ <+: σ₂ ∧ PQ (.own (rangeP a b)) σ) PE) PE)
    (hse : ∀ env, starEach [e, e'] env = [(false, eval e env), (false, eval e' env)] := by intro _; rfl) (hse' : ∀ env, starEach [e'] env = [(false, eval e' env)] := by intro _; rfl)
    (he : ∀ env, eval (.Call f [e, e'] [] pos) env = (do callWith pos (← eval f env) [] (backTo pos (starEach [e, e'] env)) (backToKw pos (keywordEach [] env))) := by intro _; rfl) : Hit C k pe (.Call f [e, e'] [] pos) σ PQ PE := by
  refine hit_val (hx_call (Tr.mono hf (fun pf σ₁ hq => ?_) fun _ _ x => x) he (fun env => by rw [hse env]; rfl))
  obtain ⟨rfl, rfl⟩ := hq
  refine hl_cons (Tr.mono h (fun p σ₁ hq => ?_) fun _ _ x => x) (fun env => by rw [hse env, hse' env])
  refine hl_cons (Tr.mono hq (fun p' σ₂ hq => ?_) fun _ _ x => x) (fun env => by rw [hse' env]; rfl)
  obtain ⟨a, b, rfl, rfl, h1, h2, h3, h4, hp, hq⟩ := hq
  refine hl_nil (hk_nil ⟨keep_type, tc_range2 fun o ho => ?_⟩)
  refine ⟨_, _, IterOf.range (by simp) ho h1 h2 h3 h4, .inr ⟨rfl, hp.trans (List.prefix_append _ _)⟩, trivial, hq⟩

theorem hs_while {test : Expr} {body orelse : List Stmt} {pos : Pos} {PQ : PF → St → Prop} (J : Nat → St → Prop) (n : Nat) (h0 : J n σ)
    (turn : ∀ n σ', J n σ' → σ.length ≤ σ'.length → Ht C k pe test σ' (fun b σ₁ => if b = true then Hs C k pe body σ₁ (fun f σ₂ => match f with
      | .next | .cont => ∃ m σ₃, m < n ∧ Shrink σ₂ σ₃ ∧ σ.length ≤ σ₃.length ∧ J m σ₃
      | .brk => PQ .next σ₂
      | .ret v => PQ (.ret v) σ₂) PE else Hs C k pe orelse σ₁ PQ PE) PE) : Hs1 C k pe (.While test body orelse pos) σ PQ PE := by
  intro A env s as Q E H N R X
  refine wpAny_While (codeAny_whileLoop (fun n s' => ∃ σ' as', J n σ' ∧ σ.length ≤ σ'.length ∧ as <+: as' ∧ Ext σ σ' ∧ HInv C.h₀ as' σ' s'.heap ∧ Go as s as' s') ?_ n ⟨σ, as, h0, Nat.le_refl _, List.prefix_refl _, Ext.refl _, H.inv, Go.refl _ _⟩)
  rintro n s' ⟨σ', as', hJ, hle, p₀, x', i', w'⟩
  have H' : At C k pe as' σ' A s' := H.step p₀ x' i'
  have N' := N.mono p₀
  have exc : ∀ {σ'' : St} {as'' : List Addr} {s'' : Shared}, At C k pe as'' σ'' A s'' → as' <+: as'' → Ext σ σ'' → Go as s as'' s'' → Exc C as'' σ'' s'' PE (notedBy (model C.prog C.w) A env fun e s' => cameBackBy (model C.prog C.w) A env E e s') :=
    fun H'' p'' x'' w'' => (X.go (p₀.trans p'') x'' w'').noted H'' (N'.mono p'')
  refine turn n σ' hJ hle A env s' as' _ _ H' N' (fun b pb σ₁ as₁ s₁ h₁ a₁ x₁ r₁ i₁ w₁ => ?_) (exc H' (List.prefix_refl _) x' w')
  obtain rfl : pb = b := r₁
  have H₁ := H'.step a₁ x₁ i₁
  have w₁' := w'.trans w₁
  have X₁ := exc H₁ a₁ (x'.trans x₁) w₁'
  cases pb with
  | false =>
    simp only [Bool.false_eq_true, if_false] at h₁ ⊢
    exact h₁ A env s₁ as₁ _ _ H₁ (N'.mono a₁) (fun f pf σ₂ as₂ s₂ h₂ a₂ x₂ r₂ i₂ w₂ => R f pf σ₂ as₂ s₂ h₂ (p₀.trans (a₁.trans a₂)) ((x'.trans x₁).trans x₂) r₂ i₂ (w₁'.trans w₂)) X₁
  | true =>
    simp only [if_true] at h₁ ⊢
    refine h₁ A env s₁ as₁ _ _ H₁ (N'.mono a₁) (fun f pf σ₂ as₂ s₂ h₂ a₂ x₂ r₂ i₂ w₂ => ?_) X₁
    have cont : (∃ m σ₃, m < n ∧ Shrink σ₂ σ₃ ∧ σ.length ≤ σ₃.length ∧ J m σ₃) → ∃ m, m < n ∧ ∃ σ' as', J m σ' ∧ σ.length ≤ σ'.length ∧ as <+: as' ∧ Ext σ σ' ∧ HInv C.h₀ as' σ' s₂.heap ∧ Go as s as' s₂ := by
      rintro ⟨m, σ₃, hm, S, hle₃, hJ₃⟩
      have w₂' := w₁'.trans w₂
      refine ⟨m, hm, σ₃, as₂.take σ₃.length, hJ₃, hle₃, take_pre (p₀.trans (a₁.trans a₂)) (by rw [H.inv.len]; exact hle₃), ((x'.trans x₁).trans x₂).shrink S hle₃, i₂.shrink S, w₂'.srel, fun b o hb e => ?_⟩
      obtain ⟨g1, g2, g3⟩ := w₂'.kp b o hb e
      exact ⟨fun hm => g1 (List.mem_of_mem_take hm), g2, g3⟩
    cases r₂ with
    | next => exact cont h₂
    | cont => exact cont h₂
    | brk => exact R _ _ σ₂ as₂ s₂ h₂ (p₀.trans (a₁.trans a₂)) ((x'.trans x₁).trans x₂) .next i₂ (w₁'.trans w₂)
    | ret r => exact R _ _ σ₂ as₂ s₂ h₂ (p₀.trans (a₁.trans a₂)) ((x'.trans x₁).trans x₂) (.ret r) i₂ (w₁'.trans w₂)
end
end Mine

set_option maxRecDepth 100000
set_option autoImplicit false
set_option linter.unusedVariables false
set_option linter.unusedSectionVars false
set_option linter.unusedSimpArgs false
namespace Mine
open PySem PySem.W PyProof.Rows PySem.Calls PySem.SeqAt

theorem compTurn_two0 (elt t0 i0 t1 i1 : Expr) (ifs0 ifs1 : List Expr) (scope : Scope) (pos : Pos) (it acc : Value) (env : Env) :
    compTurn (.ListComp elt [⟨t0, i0, ifs0, 0⟩, ⟨t1, i1, ifs1, 0⟩] scope pos) 0 it acc env = (do
      standAt i0.pos
      match ← pyNext it with
      | none => pure (.done .next)
      | some v =>
        letOwnedTupleGo t0 it v
        assign t0 env v
        let mut ok := true
        for c in ifs0 do
          if ok then ok ← isTrue c env (eval c env)
        if ok then
          let x ← eval i1 env
          standAt i1.pos
          let x ← foldedSetIterable i1 env x
          let _ ← runOwn (.compStart (.ListComp elt [⟨t0, i0, ifs0, 0⟩, ⟨t1, i1, ifs1, 0⟩] scope pos) 1 (← holding [x] (pyIter x)) acc env) env
        again (.compLoop (.ListComp elt [⟨t0, i0, ifs0, 0⟩, ⟨t1, i1, ifs1, 0⟩] scope pos) 0 it acc env)) := by rfl
theorem compTurn_two1 (elt t0 i0 t1 i1 : Expr) (ifs0 ifs1 : List Expr) (scope : Scope) (pos : Pos) (it acc : Value) (env : Env) :
    compTurn (.ListComp elt [⟨t0, i0, ifs0, 0⟩, ⟨t1, i1, ifs1, 0⟩] scope pos) 1 it acc env = (do
      standAt i1.pos
      match ← pyNext it with
      | none => pure (.done .next)
      | some v =>
        letOwnedTupleGo t1 it v
        assign t1 env v
        let mut ok := true
        for c in ifs1 do
          if ok then ok ← isTrue c env (eval c env)
        if ok then
          (do let _ ← call (.builtin "list.append") [acc, ← eval elt env])
        again (.compLoop (.ListComp elt [⟨t0, i0, ifs0, 0⟩, ⟨t1, i1, ifs1, 0⟩] scope pos) 1 it acc env)) := by rfl

section
variable {prog : Program} {w : World} {A : Around} {E : Value → Shared → Prop} {R : Result → Shared → Prop} {s : Shared}
theorem compStart_two1 {elt t0 i0 t1 i1 ifs0 ifs1 scope pos it acc env}
    (h0 : codeAny (model prog w) A (.compLoop (.ListComp elt [⟨t0, i0, ifs0, 0⟩, ⟨t1, i1, ifs1, 0⟩] scope pos) 1 it acc env) R s)
    (h : wpAny (model prog w) A (pyIter it) (fun it' s' => codeAny (model prog w) A (.compLoop (.ListComp elt [⟨t0, i0, ifs0, 0⟩, ⟨t1, i1, ifs1, 0⟩] scope pos) 1 it' acc env) R s')
      (notedBy (model prog w) A env fun x s' => R (.error x) s') s) :
    codeAny (model prog w) A (.compStart (.ListComp elt [⟨t0, i0, ifs0, 0⟩, ⟨t1, i1, ifs1, 0⟩] scope pos) 1 it acc env) R s := by
  refine codeAny_of_tree ?_
  show wpAny _ _ ((compStart (.ListComp elt [⟨t0, i0, ifs0, 0⟩, ⟨t1, i1, ifs1, 0⟩] scope pos) 1 it acc env).onRaise (fun x => do noteFrame x env; standAt theWindowsPlace)) _ _ s
  refine wpAny_notedAt ?_
  unfold compStart
  show wpAny _ _ (ask >>= _) _ _ s
  refine wpAny_bind (wpAny_askSetting (wpAny_ite ?_))
  split
  · first
      | exact wpAny_bind (wpAny_pure (wpAny_pure (And.intro rfl h0)))
      | exact wpAny_pure (And.intro rfl h0)
  · first
      | exact wpAny_bind (wpAny_rule (wpAny_bind (wpAny_standAt (wpAny_bind (wpAny_mono h (fun it' s' h' => wpAny_pure (And.intro rfl h')) fun _ _ x => x)))))
      | (refine wpAny_bind (wpAny_rule ?_); show wpAny _ _ (standAt i1.pos >>= _) _ _ s; exact wpAny_bind (wpAny_standAt (wpAny_bind (wpAny_mono h (fun it' s' h' => wpAny_pure (And.intro rfl h')) fun _ _ x => x))))
end

/-- no exception -/
def noE : Value → St → Prop := fun _ _ => False
theorem Exc.no {C : Cx} {as : List Addr} {σ : St} {s : Shared} {E : Value → Shared → Prop} : Exc C as σ s noE E := fun _ _ _ _ _ _ _ h => h.elim

section
variable {C : Cx} {k : Nat} {pe : PEnv} {σ : St} {PE : Value → St → Prop}

theorem wp_iterSelf {A : Around} {s : Shared} {as fp : List Addr} {I : Addr} {i : Nat} {j : PIt} {Q : Value → Shared → Prop} {E : Value → Shared → Prop} (hh : A.handled = none) (it : ItIs C fp as s.heap I i j) (h : Q (.ref I) s) : wpAny (model C.prog C.w) A (pyIter (.ref I)) Q E s := by
  cases j with
  | list l xs => obtain ⟨_, a, _, h2⟩ := it; exact wpAny_pyIter_listiter h2 h
  | tuple l xs => obtain ⟨_, a, _, h2⟩ := it; exact wpAny_pyIter_tupleiter h2 h
  | own xs => obtain ⟨wr, P, St, W, st, _⟩ := it; exact (W A hh).self _ _ _ _ st h
  | enum xs => obtain ⟨wr, P, St, Mid, W, st, _⟩ := it; exact (W A hh).self _ _ _ _ st h

def Hifs (C : Cx) (k : Nat) (pe : PEnv) (ifs : List Expr) (σ : St) (PQ : Bool → St → Prop) : Prop :=
  Tr C k pe (fun env => forIn ifs true fun c r => if r = true then do let ok ← isTrue c env (eval c env); pure (ForInStep.yield ok) else pure (ForInStep.yield r)) BR σ PQ noE
theorem hifs_nil {PQ : Bool → St → Prop} (h : PQ true σ) : Hifs C k pe [] σ PQ := fun A env s as Q E H N R X => wpAny_tests_nil (R.here H h rfl)
theorem hifs_one {c : Expr} {PQ : Bool → St → Prop} (h : Ht C k pe c σ PQ noE) : Hifs C k pe [c] σ PQ := fun A env s as Q E H N R X => wpAny_tests_one (h A env s as Q E H N R X)

structure EmitOk (C : Cx) (k : Nat) (pe : PEnv) (mk : Value → Env → Sem Fin → Sem Fin) (pacc : PV) (emit : St → (St → Prop) → Prop) : Prop where
  ok : ∀ (σ : St) (cont : St → Prop) (A : Around) (env : Env) (s : Shared) (as : List Addr) (Q : Fin → Shared → Prop) (E : Value → Shared → Prop) (acc : Value) (K : Sem Fin), emit σ cont → At C k pe as σ A s → EnvRel as pe env → VR as pacc acc →
    (∀ (σ' : St) (as' : List Addr) (s' : Shared), cont σ' → as <+: as' → Ext σ σ' → HInv C.h₀ as' σ' s'.heap → Go as s as' s' → wpAny (model C.prog C.w) A K Q E s') → wpAny (model C.prog C.w) A (mk acc env K) Q E s

def CompP (C : Cx) (k : Nat) (pe : PEnv) (target : Expr) (ifs : List Expr) (emit : St → (St → Prop) → Prop) (j : PIt) (n₀ : Nat) (PQ : St → Prop) : Nat → List PV → St → Prop
  | _, [], σ => j.src σ ∧ PQ σ
  | i, p :: ps, σ => j.src σ ∧ Ha C k pe target (j.val σ i p) (j.st σ i p) (fun σ₁ => Hifs C k pe ifs σ₁ fun b σ₂ =>
      if b = true then emit σ₂ fun σ₃ => ∃ σ₄, Shrink σ₃ σ₄ ∧ n₀ ≤ σ₄.length ∧ CompP C k pe target ifs emit j n₀ PQ (i + 1) ps σ₄
      else ∃ σ₄, Shrink σ₂ σ₄ ∧ n₀ ≤ σ₄.length ∧ CompP C k pe target ifs emit j n₀ PQ (i + 1) ps σ₄) noE

theorem comp_loop {elt target : Expr} {gens : List Comprehension} {scope : Scope} {pos p₀ : Pos} {depth : Nat} {ifs : List Expr} {mk : Value → Env → Sem Fin → Sem Fin} {emit : St → (St → Prop) → Prop} {pacc : PV} {PQ : St → Prop}
    (heq : ∀ it acc env, compTurn (.ListComp elt gens scope pos) depth it acc env = (do
      standAt p₀
      match ← pyNext it with
      | none => pure (.done .next)
      | some v =>
        letOwnedTupleGo target it v
        assign target env v
        let mut ok := true
        for c in ifs do
          if ok then ok ← isTrue c env (eval c env)
        if ok = true then mk acc env (again (.compLoop (.ListComp elt gens scope pos) depth it acc env))
        else again (.compLoop (.ListComp elt gens scope pos) depth it acc env)))
    (EO : EmitOk C k pe mk pacc emit) (hcl : pe.clean = true)
    {A : Around} {env : Env} {s₀ s : Shared} {as₀ as fp : List Addr} {I : Addr} {j : PIt} {acc : Value} {R : Result → Shared → Prop}
    (H : At C k pe as σ A s) (N : EnvRel as pe env) (racc : VR as pacc acc) (hf : ∀ b ∈ fp, (b ∉ as ∧ C.h₀.get? b = none) ∧ s₀.heap.get? b = none) (hI : I ∈ fp) (it : ItIs C fp as s.heap I 0 j) (w₀ : Go as₀ s₀ as s)
    (htup : (∃ xs, j = .enum xs) → ∃ es n pos, target = .Tuple es n pos) (hC : CompP C k pe target ifs emit j σ.length PQ 0 j.items σ)
    (hR : ∀ (σ' : St) (as' : List Addr) (s' : Shared), PQ σ' → as <+: as' → Ext σ σ' → HInv C.h₀ as' σ' s'.heap → Go as₀ s₀ as' s' → R (.ok .next) s') :
    codeAny (model C.prog C.w) A (.compLoop (.ListComp elt gens scope pos) depth (.ref I) acc env) R s := by
  have hh : A.handled = none := H.a.clean hcl
  refine codeAny_loop rfl (fun n s' => ∃ i ps σ' as', n = ps.length ∧ j.items.drop i = ps ∧ i + ps.length = j.items.length ∧ CompP C k pe target ifs emit j σ.length PQ i ps σ' ∧ σ.length ≤ σ'.length ∧ as <+: as' ∧ Ext σ σ' ∧ HInv C.h₀ as' σ' s'.heap ∧ Go as₀ s₀ as' s' ∧ (∀ b ∈ fp, b ∉ as') ∧ ItIs C fp as' s'.heap I i j)
    (fun n s' hJ => ?_) j.items.length ⟨0, j.items, σ, as, rfl, by simp, by simp, hC, Nat.le_refl _, List.prefix_refl _, Ext.refl _, H.inv, w₀, fun b hb => (hf b hb).1.1, it⟩
  show wpAny _ A ((compTurn (.ListComp elt gens scope pos) depth (.ref I) acc env).onRaise (fun x => do noteFrame x env; theTreesLotGoes x)) _ _ s'
  refine wpAny_noted ?_
  rw [heq]
  obtain ⟨i, ps, σ', as', rfl, hdrop, hlen, hL, hle, p', x', i', w', hoff, it'⟩ := hJ
  have H' : At C k pe as' σ' A s' := H.step p' x' i'
  have N' := N.mono p'
  have hf' : ∀ b ∈ fp, b ∉ as' ∧ C.h₀.get? b = none := fun b hb => ⟨hoff b hb, (hf b hb).1.2⟩
  have go' : ∀ (as'' : List Addr) (h' : Heap) (tk : Nat), (∀ a ∈ as'', a ∉ as' → s'.heap.get? a = none) → (∀ b o, b ∉ fp → s'.heap.get? b = some o → h'.get? b = some o) → Go as₀ s₀ as'' { s' with heap := h', toks := tk } := fun as'' h' tk hn hk => by
    refine ⟨w'.srel.trans (SRel.heap s' h' tk), fun b o hb e => ?_⟩
    obtain ⟨h1, _, h3⟩ := w'.kp b o hb e
    refine ⟨fun hm => ?_, by simp, hk b o (fun hm => ?_) h3⟩
    · have := hn b hm h1; rw [h3] at this; cases this
    · have := (hf b hm).2; rw [e] at this; cases this
  refine wpAny_bind (wpAny_standAt (wpAny_bind ?_))
  cases ps with
  | nil =>
    obtain ⟨src, hE⟩ := hL
    have hi : i = j.items.length := by simpa using hlen
    subst hi
    refine t_next_end H' N' hh hf' hI it' src fun h' tk iv hk => wpAny_pure ?_
    exact hR σ' as' _ hE p' x' iv (go' as' h' tk (fun a h1 h2 => absurd h1 h2) hk)
  | cons p ps =>
    obtain ⟨src, hT⟩ := hL
    have hp : j.items[i]? = some p := by
      have := congrArg (fun l => l[0]?) hdrop
      simpa using this
    refine t_next_item H' N' hh hf' hI it' src hp target (fun xs e => htup ⟨xs, e⟩) fun v as'' h' tk rv iv pp hnew hoff'' hk _ hgo => ?_
    refine wpAny_bind (wpAny_mono hgo (fun _ s₂ h₂ => ?_) fun _ _ x => x)
    obtain ⟨h'', rfl, iv'', hk'', it''⟩ := h₂
    have ext'' : Ext σ' (j.st σ' i p) := by
      cases j <;> first | exact Ext.refl _ | exact Ext.append _ _
    have x'' := x'.trans ext''
    have w'' := go' as'' h'' tk hnew hk''
    have H'' : At C k pe as'' (j.st σ' i p) A { s' with heap := h'', toks := tk } := H'.step pp ext'' iv''
    refine wpAny_bind (hT A env _ as'' _ _ v H'' (N'.mono pp) rv (fun _ _ σ₃ as₃ s₃ h₃ a₃ x₃ _ i₃ w₃ => ?_) Exc.no)
    have H₃ := H''.step a₃ x₃ i₃
    have N₃ := (N'.mono pp).mono a₃
    refine wpAny_bind (h₃ A env s₃ as₃ _ _ H₃ N₃ (fun ok pok σ₄ as₄ s₄ h₄ a₄ x₄ r₄ i₄ w₄ => ?_) Exc.no)
    obtain rfl : pok = ok := r₄
    have H₄ := H₃.step a₄ x₄ i₄
    have N₄ := N₃.mono a₄
    have fin : ∀ σ₅ as₅ s₅, as₄ <+: as₅ → Ext σ₄ σ₅ → HInv C.h₀ as₅ σ₅ s₅.heap → Go as₄ s₄ as₅ s₅ → (∃ σ₆, Shrink σ₅ σ₆ ∧ σ.length ≤ σ₆.length ∧ CompP C k pe target ifs emit j σ.length PQ (i + 1) ps σ₆) →
        ∃ m, m < (p :: ps).length ∧ ∃ i ps σ' as', m = ps.length ∧ j.items.drop i = ps ∧ i + ps.length = j.items.length ∧ CompP C k pe target ifs emit j σ.length PQ i ps σ' ∧ σ.length ≤ σ'.length ∧ as <+: as' ∧ Ext σ σ' ∧ HInv C.h₀ as' σ' s₅.heap ∧ Go as₀ s₀ as' s₅ ∧ (∀ b ∈ fp, b ∉ as') ∧ ItIs C fp as' s₅.heap I i j := by
      rintro σ₅ as₅ s₅ a₅ x₅ i₅ w₅ ⟨σ₆, S, hle₆, hL₆⟩
      have wt : Go as'' { s' with heap := h'', toks := tk } as₅ s₅ := (w₃.trans w₄).trans w₅
      have w₅' := w''.trans wt
      have kp5 : ∀ b ∈ fp, ∀ o, h''.get? b = some o → b ∉ as₅ ∧ s₅.heap.get? b = some o := fun b hb o e => by
        obtain ⟨g1, _, g3⟩ := wt.kp b o (hoff'' b hb) e
        exact ⟨g1, g3⟩
      have offs : ∀ b ∈ fp, b ∉ as₅.take σ₆.length := fun b hb hm => by
        obtain ⟨o, e⟩ := it''.alive b hb
        exact (kp5 b hb o e).1 (List.mem_of_mem_take hm)
      refine ⟨ps.length, by simp, i + 1, ps, σ₆, as₅.take σ₆.length, rfl, ?_, ?_, hL₆, hle₆, ?_, ?_, i₅.shrink S, ?_, offs, ?_⟩
      · rw [← List.drop_drop, hdrop]; rfl
      · simp at hlen; omega
      · exact take_pre ((p'.trans pp).trans ((a₃.trans a₄).trans a₅)) (by rw [H.inv.len]; exact hle₆)
      · exact ((x''.trans x₃).trans (x₄.trans x₅)).shrink S hle₆
      · exact ⟨w₅'.srel, fun b o hb e => let ⟨g1, g2, g3⟩ := w₅'.kp b o hb e; ⟨fun hm => g1 (List.mem_of_mem_take hm), g2, g3⟩⟩
      · have hsrc₆ : j.src σ₆ := by cases ps <;> exact hL₆.1
        refine it''.keep hI (fun b hb o e => (kp5 b hb o e).2) hsrc₆ fun l a hl e => ?_
        rw [List.getElem?_take, if_pos hl]
        exact pre_get ((a₃.trans a₄).trans a₅) e
    cases pok with
    | false =>
      simp only [Bool.false_eq_true, if_false] at h₄ ⊢
      exact wpAny_pure ⟨rfl, fin σ₄ as₄ s₄ (List.prefix_refl _) (Ext.refl _) i₄ (Go.refl _ _) h₄⟩
    | true =>
      simp only [if_true] at h₄ ⊢
      refine EO.ok σ₄ _ A env s₄ as₄ _ _ acc _ h₄ H₄ N₄ (racc.mono (p'.trans (pp.trans (a₃.trans a₄)))) fun σ₅ as₅ s₅ h₅ a₅ x₅ i₅ w₅ => ?_
      exact wpAny_pure ⟨rfl, fin σ₅ as₅ s₅ a₅ x₅ i₅ w₅ h₅⟩

theorem emit_last {elt : Expr} {D : Nat} :
    EmitOk C k pe (fun acc env K => (do let _ ← call (.builtin "list.append") [acc, ← eval elt env]) >>= fun _ => K) (.obj D)
      (fun σ cont => Hx C k pe elt σ (fun q σ' => ∃ xs, σ'[D]? = some (.list xs) ∧ xs.length ≤ sizeLine ∧ cont (σ'.set D (.list (xs ++ [q])))) noE) := by
  refine ⟨fun σ cont A env s as Q E acc K h H N r hK => ?_⟩
  cases r with
  | obj _ a e =>
    refine wpAny_bind (wpAny_bind (h A env s as _ _ H N (fun v q σ' as' s' h₁ a₁ x₁ r₁ i₁ w₁ => ?_) Exc.no))
    obtain ⟨xs, g, hz, hc⟩ := h₁
    have e' := pre_get a₁ e
    obtain ⟨vs, hl, rv⟩ := i₁.atRef g e'
    refine wpAny_bind (wpAny_list_append_plain hl (fun h' hl' hs' => wpAny_pure ?_) (by simpa [rv.length] using hz))
    refine hK _ as' { s' with heap := h', toks := s'.toks } hc a₁ (x₁.trans (Ext.set g fun n l q => nomatch q)) (i₁.put e' hs' ⟨vs ++ [v], by simpa using hl', rv.append (.cons r₁ .nil)⟩ (fun _ _ q => nomatch q)) (w₁.trans (Go.put (mem_of_get? e') hs'))

theorem emit_gen {elt t0 i0 t1 i1 : Expr} {ifs0 ifs1 : List Expr} {scope : Scope} {pos : Pos} {D : Nat} (hcl : pe.clean = true)
    (hs : ∀ env x, foldedSetIterable i1 env x = pure x) :
    EmitOk C k pe (fun acc env K => (do
          let x ← eval i1 env
          standAt i1.pos
          let x ← foldedSetIterable i1 env x
          let _ ← runOwn (.compStart (.ListComp elt [⟨t0, i0, ifs0, 0⟩, ⟨t1, i1, ifs1, 0⟩] scope pos) 1 (← holding [x] (pyIter x)) acc env) env
          K)) (.obj D)
      (fun σ cont => Hit C k pe i1 σ (fun j σ₁ => ((∃ xs, j = .enum xs) → ∃ es n pos, t1 = .Tuple es n pos) ∧
        CompP C k pe t1 ifs1 (fun σ cont => Hx C k pe elt σ (fun q σ' => ∃ xs, σ'[D]? = some (.list xs) ∧ xs.length ≤ sizeLine ∧ cont (σ'.set D (.list (xs ++ [q])))) noE) j σ₁.length cont 0 j.items σ₁) noE) := by
  refine ⟨fun σ cont A env s as Q E acc K h H N r hK => ?_⟩
  have hx := h A env s as (fun v s' => wpAny (model C.prog C.w) A (do
          let _ ← runOwn (.compStart (.ListComp elt [⟨t0, i0, ifs0, 0⟩, ⟨t1, i1, ifs1, 0⟩] scope pos) 1 v acc env) env
          K) Q E s') E H N (fun I fp j σ₁ as₁ s₁ h₁ src₁ a₁ x₁ i₁ w₁ hf₁ hI it₁ => ?_) Exc.no
  · refine wpAny_bind (wpAny_mono hx (fun x s₁ h₁ => wpAny_bind (wpAny_standAt (wpAny_bind (wpAny_of_eq (hs env x) (wpAny_bind (wpAny_holding (wpAny_mono h₁ (fun _ _ h₂ => h₂) fun _ _ e => e))))))) fun _ _ e => e)
  · obtain ⟨htup, hC⟩ := h₁
    have H₁ := H.step a₁ x₁ i₁
    have loop : codeAny (model C.prog C.w) A (.compLoop (.ListComp elt [⟨t0, i0, ifs0, 0⟩, ⟨t1, i1, ifs1, 0⟩] scope pos) 1 (.ref I) acc env) (fun r s' => match r with | .ok f => wpAny (model C.prog C.w) A K Q E s' | .error e => cameBackBy (model C.prog C.w) A env E e s') s₁ := by
      refine comp_loop (mk := fun acc env K => (do let _ ← call (.builtin "list.append") [acc, ← eval elt env]) >>= fun _ => K) (fun it acc env => compTurn_two1 elt t0 i0 t1 i1 ifs0 ifs1 scope pos it acc env) emit_last hcl H₁ (N.mono a₁) (r.mono a₁) hf₁ hI it₁ w₁ htup hC fun σ' as' s' hc p x i w => ?_
      exact hK σ' as' s' hc (a₁.trans p) (x₁.trans x) i w
    refine wpAny_bind (wpAny_runOwn (codeAny_mono (R := fun r s' => match r with | .ok f => wpAny (model C.prog C.w) A K Q E s' | .error e => cameBackBy (model C.prog C.w) A env E e s') (compStart_two1 loop (wp_iterSelf (H.a.clean hcl) it₁ loop)) fun r s' hr => ?_))
    cases r <;> exact hr

/-- the cells that a block closes over -/
def closP (pe : PEnv) (names : List (Str × NameKind)) (acc : List (Str × Nat)) : List (Str × Nat) := match names with
  | [] => acc
  | x :: r => closP pe r (if x.2 == .free then (x.1, (pe.cells.lookup x.1).getD 0) :: acc else acc)
def closOk (pe : PEnv) (names : List (Str × NameKind)) : Bool := names.all fun x => x.2 != .free || (pe.cells.lookup x.1).isSome

theorem closure_rel {as : List Addr} {env : Env} (N : EnvRel as pe env) : ∀ (names : List (Str × NameKind)) (acc : List (Str × Nat)) (cs : List (Str × Addr)), CRs as acc cs → closOk pe names = true →
    ∃ cl, (forIn names cs fun x r => if (x.2 == NameKind.free) = true then (do let c ← cellOf env x.1; pure (ForInStep.yield ((x.1, c) :: r))) else pure (ForInStep.yield r) : Sem (List (Str × Addr))) = pure cl ∧ CRs as (closP pe names acc) cl
  | [], acc, cs, h, _ => ⟨cs, by rw [List.forIn_nil], h⟩
  | (n, kd) :: r, acc, cs, h, hok => by
    unfold closOk at hok
    rw [List.all_cons, Bool.and_eq_true] at hok
    rw [List.forIn_cons]
    unfold closP
    by_cases hk : (kd == NameKind.free) = true
    · simp only [hk, if_true]
      have hsome : (pe.cells.lookup n).isSome = true := by
        have := hok.1
        have hk' : kd = .free := by simpa using hk
        subst hk'
        simpa using this
      obtain ⟨i, hi⟩ := Option.isSome_iff_exists.mp hsome
      obtain ⟨a, ha, hai⟩ := N.cells.lookup hi
      have hc : cellOf env n = pure a := by unfold cellOf; rw [ha]
      rw [hc, hi]
      obtain ⟨cl, e1, e2⟩ := closure_rel N r ((n, i) :: acc) ((n, a) :: cs) (.cons hai h) hok.2
      exact ⟨cl, by simpa using e1, e2⟩
    · simp only [hk]
      obtain ⟨cl, e1, e2⟩ := closure_rel N r acc cs h hok.2
      exact ⟨cl, by simpa using e1, e2⟩
theorem closureFor_rel {as : List Addr} {env : Env} (N : EnvRel as pe env) {scope : Scope} (h : closOk pe scope.names = true) : ∃ cl, closureFor scope env = pure cl ∧ CRs as (closP pe scope.names []) cl := by
  obtain ⟨cl, e1, e2⟩ := closure_rel N scope.names [] [] .nil h
  refine ⟨cl, ?_, e2⟩
  unfold closureFor
  simp only [bind_pure]
  exact e1

def relabelP (pe : PEnv) (scope : Scope) : Scope :=
  { scope with names := scope.names.map fun (n, k) => if (k == .free && pe.scope.names.lookup n == some .cell) then (n, .cell) else (n, k) }
theorem relabel_eq {as : List Addr} {env : Env} (N : EnvRel as pe env) (scope : Scope) : relabel scope env = relabelP pe scope := by
  unfold relabel relabelP
  have h1 : env.scope.kind = .function := N.fkind
  congr 1
  apply List.map_congr_left
  rintro ⟨n, kd⟩ _
  have h2 := N.kindOf n
  simp only [h1, h2]
  simp
theorem relabel_names (scope : Scope) : (relabelP pe scope).names.map (·.1) = scope.names.map (·.1) := by
  unfold relabelP
  simp only [List.map_map]
  apply List.map_congr_left
  rintro ⟨n, kd⟩ _
  simp only [Function.comp]
  split <;> rfl

/-- the block of a comprehension -/
def compPE (pe : PEnv) (scope : Scope) (n : Nat) : PEnv := ⟨relabelP pe scope, n + 1, closP pe scope.names [], pe.frs, pe.clean⟩
def compSt (pe : PEnv) (scope : Scope) (σ : St) : St := σ ++ [.list [], .ns (relabelP pe scope).names ((relabelP pe scope).names.map fun _ => none)]

/-- how a comprehension's state is left -/
def CompEnd (σ : St) (n : Nat) (PQ : PV → St → Prop) (σ' : St) : Prop :=
  ∃ sel news q, SelOk σ σ' sel news ∧ n + 1 ∉ sel ∧ PVr (List.range σ.length ++ sel) (.obj n) q ∧ PQ q (σ ++ news)

theorem comp_core {elt t0 i0 : Expr} {ifs0 : List Expr} {rest : List Comprehension} {scope : Scope} {pos p₀ : Pos} {mk : Value → Env → Sem Fin → Sem Fin} {emit : Nat → St → (St → Prop) → Prop} {PQ : PV → St → Prop} {use : Option (Value → Sem Unit)}
    {A : Around} {env : Env} {s : Shared} {as : List Addr} {Q : Value → Shared → Prop} {E : Value → Shared → Prop}
    (heq : ∀ it acc env, compTurn (.ListComp elt (⟨t0, i0, ifs0, 0⟩ :: rest) scope pos) 0 it acc env = (do
      standAt p₀
      match ← pyNext it with
      | none => pure (.done .next)
      | some v =>
        letOwnedTupleGo t0 it v
        assign t0 env v
        let mut ok := true
        for c in ifs0 do
          if ok then ok ← isTrue c env (eval c env)
        if ok = true then mk acc env (again (.compLoop (.ListComp elt (⟨t0, i0, ifs0, 0⟩ :: rest) scope pos) 0 it acc env))
        else again (.compLoop (.ListComp elt (⟨t0, i0, ifs0, 0⟩ :: rest) scope pos) 0 it acc env)))
    (EO : ∀ n, EmitOk C k (compPE pe scope n) mk (.obj n) (emit n)) (hcl : pe.clean = true)
    (hcell : ∀ y ∈ scope.names, y.2 ≠ .cell) (hkind : scope.kind = .function) (hnd : (scope.names.map (·.1)).Nodup) (hclos : closOk pe scope.names = true)
    (h : Hit C k pe i0 σ (fun j σ₁ => ((∃ xs, j = .enum xs) → ∃ es n pos, t0 = .Tuple es n pos) ∧ CompP C k (compPE pe scope σ₁.length) t0 ifs0 (emit σ₁.length) j (σ₁.length + 2) (CompEnd σ σ₁.length PQ) 0 j.items (compSt pe scope σ₁)) PE)
    (H : At C k pe as σ A s) (N : EnvRel as pe env) (X : Exc C as σ s PE E) (hs : ∀ env x, foldedSetIterable i0 env x = pure x)
    (hQ : ∀ (q : PV) (σ' : St) (as' : List Addr) (s' : Shared) (acc : Value) (cad : Addr) (m : Str → Option Value), PQ q σ' → as <+: as' → Ext σ σ' → VR as' q acc → HInv C.h₀ as' σ' s'.heap → Go as s as' s' → cad ∉ as' → C.h₀.get? cad = none → s.heap.get? cad = none → s'.heap.Ns cad m →
      match use with
      | none => ∀ h', Heap.SameBut cad s'.heap h' → Q acc { s' with heap := h' }
      | some u => wpAny (model C.prog C.w) A (u acc) (fun _ s'' => ∃ m, s''.heap.Ns cad m ∧ ∀ h', Heap.SameBut cad s''.heap h' → Q .none { s'' with heap := h' }) E s') :
    wpAny (model C.prog C.w) A (comprehension (.ListComp elt (⟨t0, i0, ifs0, 0⟩ :: rest) scope pos) scope env (firstIterPos (⟨t0, i0, ifs0, 0⟩ :: rest) pos) (newList []) false (firstIter (⟨t0, i0, ifs0, 0⟩ :: rest) env) use) Q E s := by
  obtain ⟨cl, hcl1, hcl2⟩ := closureFor_rel N hclos
  refine wpAny_comprehension_free (g := ⟨t0, i0, ifs0, 0⟩) (gs := rest) rfl (hs env) hcl1 hkind (fun x hx hl => ?_) ?_
  · have : ∀ (l : List (Str × NameKind)), (l.map (·.1)).Nodup → x ∈ l → l.lookup x.1 = some x.2 := by
      intro l
      induction l with
      | nil => intro _ h; cases h
      | cons y r ih =>
        intro hn hm
        rw [List.map_cons, List.nodup_cons] at hn
        rw [List.lookup_cons]
        rcases List.mem_cons.mp hm with rfl | hm
        · simp
        · have hne : (x.1 == y.1) = false := by
            simp only [beq_eq_false_iff_ne, ne_eq]
            intro q
            exact hn.1 (q ▸ List.mem_map_of_mem hm)
          rw [hne]; exact ih hn.2 hm
    rw [this _ hnd hx, hl]
  refine h A env s as _ E H N (fun I fp j σ₁ as₁ s₁ h₁ src₁ a₁ x₁ i₁ w₁ hf₁ hI it₁ => ?_) X
  obtain ⟨htup, hC⟩ := h₁
  refine wpAny_newObj_type (wpAny_newFunctionEnv hcell (by intro y hy; simp at hy) (fun h' hns hsb => ?_) hkind)
  dsimp only at hns hsb ⊢
  have hD : (s₁.heap.push { cls := .type "list", dict := none, data := .seq ([] : List Value).toArray }).objs.size = s₁.heap.objs.size + 1 := Heap.size_push ..
  rw [hD] at hns hsb ⊢
  -- the two new objects
  have keep : ∀ b o, s₁.heap.get? b = some o → h'.get? b = some o := fun b o e => by
    have hb := Heap.lt_size e
    exact hsb.extBut b o (Nat.ne_of_lt (Nat.lt_succ_of_lt hb)) (Heap.get?_push_of_some _ (Heap.get?_push_of_some _ e))
  have hacc : h'.PlainList s₁.heap.objs.size #[] := ⟨_, hsb.extBut _ _ (Nat.ne_of_lt (Nat.lt_succ_self _)) (Heap.get?_push_of_some _ (Heap.get?_push_size _ rfl))⟩
  have pre : as₁ <+: as₁ ++ [s₁.heap.objs.size, s₁.heap.objs.size + 1] := List.prefix_append _ _
  have hsz' : s₁.heap.objs.size + 1 < h'.objs.size := hns.lt
  have iv0 : HInv C.h₀ as₁ σ₁ h' := i₁.keeps keep (Nat.le_of_lt (Nat.lt_of_succ_lt hsz'))
  have iv : HInv C.h₀ (as₁ ++ [s₁.heap.objs.size, s₁.heap.objs.size + 1]) (compSt pe scope σ₁) h' := by
    refine iv0.takes [s₁.heap.objs.size, s₁.heap.objs.size + 1] [.list [], .ns (relabelP pe scope).names ((relabelP pe scope).names.map fun _ => none)] rfl (by simp) (fun a ha => ?_) (fun i a po e1 e2 => ?_)
    · have hz := i₁.size
      simp at ha
      rcases ha with rfl | rfl
      · exact ⟨fun hm => Nat.lt_irrefl _ (i₁.lt hm), hz⟩
      · exact ⟨fun hm => absurd (i₁.lt hm) (Nat.not_lt.mpr (Nat.le_succ _)), Nat.le_trans hz (Nat.le_succ _)⟩
    · match i, e1, e2 with
      | 0, e1, e2 => simp at e1 e2; subst e1; subst e2; exact ⟨[], hacc, .nil⟩
      | 1, e1, e2 =>
        simp at e1 e2; subst e1; subst e2
        refine ⟨by simp, _, hns, fun j x kd pv e3 e4 => ?_⟩
        rw [List.getElem?_map] at e4
        cases hq : (relabelP pe scope).names[j]? with
        | none => rw [hq] at e4; cases e4
        | some _ => rw [hq] at e4; cases e4
      | i + 2, e1, e2 => simp at e1
  have H₂ : At C k (compPE pe scope σ₁.length) (as₁ ++ [s₁.heap.objs.size, s₁.heap.objs.size + 1]) (compSt pe scope σ₁) A { s₁ with heap := h', toks := s₁.toks + ([] : List (Str × Value)).length } := by
    have H₁ := (H.step a₁ x₁ i₁).step pre (Ext.append σ₁ _) (s' := { s₁ with heap := h', toks := s₁.toks + ([] : List (Str × Value)).length }) iv
    exact ⟨H₁.ok, ⟨H₁.a.frames, H₁.a.clean, H₁.a.depth, H₁.a.units⟩, H₁.inv, H₁.frs⟩
  have N₂ : EnvRel (as₁ ++ [s₁.heap.objs.size, s₁.heap.objs.size + 1]) (compPE pe scope σ₁.length) (compEnvC scope cl (s₁.heap.objs.size + 1) env) := by
    have N₁ := (N.mono a₁).mono pre
    refine ⟨relabel_eq N scope, hkind, by show ((relabelP pe scope).names.map (·.1)).Nodup; rw [relabel_names]; exact hnd, ?_, (hcl2.mono a₁).mono pre, N.globals, N.builtins, N₁.frame⟩
    show (as₁ ++ [s₁.heap.objs.size, s₁.heap.objs.size + 1])[σ₁.length + 1]? = some (s₁.heap.objs.size + 1)
    rw [← i₁.len]; simp
  have w₂ : Go as s (as₁ ++ [s₁.heap.objs.size, s₁.heap.objs.size + 1]) { s₁ with heap := h', toks := s₁.toks + ([] : List (Str × Value)).length } := by
    refine w₁.trans (Go.keeps keep trivial fun a ha hn => none_of_size ?_)
    rcases List.mem_append.mp ha with ha | ha
    · exact absurd ha hn
    · simp at ha; rcases ha with rfl | rfl
      · exact Nat.le_refl _
      · exact Nat.le_succ _
  have racc : VR (as₁ ++ [s₁.heap.objs.size, s₁.heap.objs.size + 1]) (.obj σ₁.length) (.ref s₁.heap.objs.size) := .obj _ _ (by rw [← i₁.len]; simp)
  have hf₂ : ∀ b ∈ fp, (b ∉ as₁ ++ [s₁.heap.objs.size, s₁.heap.objs.size + 1] ∧ C.h₀.get? b = none) ∧ s.heap.get? b = none := fun b hb => by
    obtain ⟨o, e⟩ := it₁.alive b hb
    have hlt := Heap.lt_size e
    refine ⟨⟨fun hm => ?_, (hf₁ b hb).1.2⟩, (hf₁ b hb).2⟩
    rcases List.mem_append.mp hm with hm | hm
    · exact (hf₁ b hb).1.1 hm
    · simp at hm; rcases hm with rfl | rfl
      · exact Nat.lt_irrefl _ hlt
      · exact absurd hlt (Nat.not_lt.mpr (Nat.le_succ _))
  have it₂ : ItIs C fp (as₁ ++ [s₁.heap.objs.size, s₁.heap.objs.size + 1]) h' I 0 j := by
    refine it₁.keep hI (fun b _ o e => keep b o e) src₁ fun l a _ e => pre_get pre e
  have hlen2 : (compSt pe scope σ₁).length = σ₁.length + 2 := by simp [compSt]
  have loop : codeAny (model C.prog C.w) A (.compLoop (.ListComp elt (⟨t0, i0, ifs0, 0⟩ :: rest) scope pos) 0 (.ref I) (.ref s₁.heap.objs.size) (compEnvC scope cl (s₁.heap.objs.size + 1) env))
      (compPost (model C.prog C.w) A E use Q (.ref s₁.heap.objs.size) (s₁.heap.objs.size + 1)) { s₁ with heap := h', toks := s₁.toks + ([] : List (Str × Value)).length } := by
    refine comp_loop heq (EO σ₁.length) hcl H₂ N₂ racc hf₂ hI it₂ w₂ htup (by rw [hlen2]; exact hC) fun σ' as' s' hE p' x' i' w' => ?_
    obtain ⟨sel, news, q, S, hns', hq, hPQ⟩ := hE
    obtain ⟨as'', p1, S1, S3, S4⟩ := sel_core H.inv S (a₁.trans (pre.trans p')) i'
    have hC' : as'[σ₁.length + 1]? = some (s₁.heap.objs.size + 1) := pre_get p' (by rw [← i₁.len]; simp)
    have hnsAt : NsAt (compSt pe scope σ₁) (σ₁.length + 1) := ⟨(relabelP pe scope).names, (relabelP pe scope).names.map fun _ => none, by simp [compSt]⟩
    obtain ⟨nn, ll, hnn⟩ := x'.2 _ hnsAt
    obtain ⟨_, m, hNs, _⟩ := i'.rel _ _ _ hC' hnn
    have hcn : s₁.heap.objs.size + 1 ∉ as'' := fun hm => by
      obtain ⟨jj, hjj⟩ := List.getElem?_of_mem hm
      have hjl : jj < (List.range σ.length ++ sel).length := by
        have := (List.getElem?_eq_some_iff.mp hjj).1
        rw [S4.len] at this; simpa [S.len] using this
      obtain ⟨a, e1, e2⟩ := S1 jj _ (List.getElem?_eq_getElem hjl)
      rw [hjj] at e2; cases e2
      obtain ⟨l1, q1⟩ := List.getElem?_eq_some_iff.mp e1
      obtain ⟨l2, q2⟩ := List.getElem?_eq_some_iff.mp hC'
      have hij := (List.getElem_inj i'.nd).mp (q1.trans q2.symm)
      have hmem : σ₁.length + 1 ∈ List.range σ.length ++ sel := hij ▸ List.getElem_mem hjl
      rcases List.mem_append.mp hmem with hmem | hmem
      · have := List.mem_range.mp hmem; have := x₁.1; omega
      · exact hns' hmem
    have hcs : s.heap.get? (s₁.heap.objs.size + 1) = none := by
      cases q0 : s.heap.get? (s₁.heap.objs.size + 1) with
      | none => rfl
      | some o =>
        by_cases hb : s₁.heap.objs.size + 1 ∈ as
        · exact absurd (i₁.lt (pre_mem a₁ hb)) (Nat.not_lt.mpr (Nat.le_succ _))
        · exact absurd (Heap.lt_size (w₁.kp _ o hb q0).2.2) (Nat.not_lt.mpr (Nat.le_succ _))
    have go'' : Go as s as'' s' := ⟨w'.srel, fun b o hb e => let ⟨g1, g2, g3⟩ := w'.kp b o hb e; ⟨fun hm => g1 (S3 b hm), g2, g3⟩⟩
    have key := hQ q (σ ++ news) as'' s' (.ref s₁.heap.objs.size) (s₁.heap.objs.size + 1) m hPQ p1 (Ext.append _ _) (hq.vr S1 (racc.mono p')) S4 go'' hcn (none_of_size (Nat.le_trans i₁.size (Nat.le_succ _))) hcs hNs
    unfold compPost
    cases use with
    | none => exact ⟨m, hNs, key⟩
    | some u => exact key
  exact codeAny_compStart_list loop (wp_iterSelf (H.a.clean hcl) it₂ loop)

abbrev EmL (C : Cx) (k : Nat) (pe : PEnv) (elt : Expr) (D : Nat) : St → (St → Prop) → Prop :=
  fun σ cont => Hx C k pe elt σ (fun q σ' => ∃ xs, σ'[D]? = some (.list xs) ∧ xs.length ≤ sizeLine ∧ cont (σ'.set D (.list (xs ++ [q])))) noE
abbrev EmG (C : Cx) (k : Nat) (pe : PEnv) (elt t1 i1 : Expr) (ifs1 : List Expr) (D : Nat) : St → (St → Prop) → Prop :=
  fun σ cont => Hit C k pe i1 σ (fun j σ₁ => ((∃ xs, j = .enum xs) → ∃ es n pos, t1 = .Tuple es n pos) ∧ CompP C k pe t1 ifs1 (EmL C k pe elt D) j σ₁.length cont 0 j.items σ₁) noE

/-- the premises of a comprehension with one clause, with two -/
abbrev Comp1 (C : Cx) (k : Nat) (pe : PEnv) (elt t0 i0 : Expr) (ifs0 : List Expr) (scope : Scope) (σ : St) (PQ : PV → St → Prop) (PE : Value → St → Prop) : Prop :=
  Hit C k pe i0 σ (fun j σ₁ => ((∃ xs, j = .enum xs) → ∃ es n pos, t0 = .Tuple es n pos) ∧ CompP C k (compPE pe scope σ₁.length) t0 ifs0 (EmL C k (compPE pe scope σ₁.length) elt σ₁.length) j (σ₁.length + 2) (CompEnd σ σ₁.length PQ) 0 j.items (compSt pe scope σ₁)) PE
abbrev Comp2 (C : Cx) (k : Nat) (pe : PEnv) (elt t0 i0 : Expr) (ifs0 : List Expr) (t1 i1 : Expr) (ifs1 : List Expr) (scope : Scope) (σ : St) (PQ : PV → St → Prop) (PE : Value → St → Prop) : Prop :=
  Hit C k pe i0 σ (fun j σ₁ => ((∃ xs, j = .enum xs) → ∃ es n pos, t0 = .Tuple es n pos) ∧ CompP C k (compPE pe scope σ₁.length) t0 ifs0 (EmG C k (compPE pe scope σ₁.length) elt t1 i1 ifs1 σ₁.length) j (σ₁.length + 2) (CompEnd σ σ₁.length PQ) 0 j.items (compSt pe scope σ₁)) PE

theorem hx_comp1 {elt t0 i0 : Expr} {ifs0 : List Expr} {scope : Scope} {pos : Pos} {PQ : PV → St → Prop} (hcl : pe.clean = true)
    (h : Comp1 C k pe elt t0 i0 ifs0 scope σ PQ PE)
    (hcell : ∀ y ∈ scope.names, y.2 ≠ .cell := by decide +kernel) (hkind : scope.kind = .function := by rfl) (hnd : (scope.names.map (·.1)).Nodup := by decide +kernel) (hclos : closOk pe scope.names = true := by rfl)
    (hs : ∀ env x, foldedSetIterable i0 env x = pure x := by intro _ _; rfl) : Hx C k pe (.ListComp elt [⟨t0, i0, ifs0, 0⟩] scope pos) σ PQ PE := by
  intro A env s as Q E H N R X
  rw [eval_ListComp]
  refine comp_core (use := none) (mk := fun acc env K => (do let _ ← call (.builtin "list.append") [acc, ← eval elt env]) >>= fun _ => K) (fun it acc env => compTurn_list elt t0 i0 ifs0 scope pos it acc env) (fun n => emit_last) hcl hcell hkind hnd hclos h H N X hs
    fun q σ' as' s' acc cad m hPQ p x r i w hc hc0 hcs hNs h' hsb => ?_
  refine R _ _ σ' as' _ hPQ p x r (i.other hc hc0 hsb) ⟨w.srel.trans (SRel.heap s' h' s'.toks), fun b o hb e => ?_⟩
  obtain ⟨g1, g2, g3⟩ := w.kp b o hb e
  exact ⟨g1, g2, (hsb.2 b fun q => by rw [q, hcs] at e; cases e).trans g3⟩
theorem hx_comp2 {elt t0 i0 t1 i1 : Expr} {ifs0 ifs1 : List Expr} {scope : Scope} {pos : Pos} {PQ : PV → St → Prop} (hcl : pe.clean = true)
    (h : Comp2 C k pe elt t0 i0 ifs0 t1 i1 ifs1 scope σ PQ PE)
    (hcell : ∀ y ∈ scope.names, y.2 ≠ .cell := by decide +kernel) (hkind : scope.kind = .function := by rfl) (hnd : (scope.names.map (·.1)).Nodup := by decide +kernel) (hclos : closOk pe scope.names = true := by rfl)
    (hs : ∀ env x, foldedSetIterable i0 env x = pure x := by intro _ _; rfl) (hs1 : ∀ env x, foldedSetIterable i1 env x = pure x := by intro _ _; rfl) : Hx C k pe (.ListComp elt [⟨t0, i0, ifs0, 0⟩, ⟨t1, i1, ifs1, 0⟩] scope pos) σ PQ PE := by
  intro A env s as Q E H N R X
  rw [eval_ListComp]
  refine comp_core (use := none) (mk := _) (fun it acc env => compTurn_two0 elt t0 i0 t1 i1 ifs0 ifs1 scope pos it acc env) (fun n => emit_gen hcl hs1) hcl hcell hkind hnd hclos h H N X hs
    fun q σ' as' s' acc cad m hPQ p x r i w hc hc0 hcs hNs h' hsb => ?_
  refine R _ _ σ' as' _ hPQ p x r (i.other hc hc0 hsb) ⟨w.srel.trans (SRel.heap s' h' s'.toks), fun b o hb e => ?_⟩
  obtain ⟨g1, g2, g3⟩ := w.kp b o hb e
  exact ⟨g1, g2, (hsb.2 b fun q => by rw [q, hcs] at e; cases e).trans g3⟩

theorem use_core {x : Str} {px : Pos} {PQ : PF → St → Prop} {A : Around} {env : Env} {s : Shared} {as : List Addr} {Q : Flow → Shared → Prop} {E : Value → Shared → Prop} (H : At C k pe as σ A s) (N : EnvRel as pe env) (R : Run C as σ s FR PQ Q)
    (q : PV) (σ' : St) (as' : List Addr) (s' : Shared) (acc : Value) (cad : Addr) (m : Str → Option Value) (hPQ : ∃ σ₂, BindIs pe σ' x q σ₂ ∧ PQ .next σ₂) (p : as <+: as') (ext : Ext σ σ') (r : VR as' q acc) (i : HInv C.h₀ as' σ' s'.heap) (w : Go as s as' s')
    (hc : cad ∉ as') (hc0 : C.h₀.get? cad = none) (hcs : s.heap.get? cad = none) (hNs : s'.heap.Ns cad m) :
    wpAny (model C.prog C.w) A (assign (.Name x px) env acc) (fun _ s'' => ∃ m, s''.heap.Ns cad m ∧ ∀ h', Heap.SameBut cad s''.heap h' → Q .next { s'' with heap := h' }) E s' := by
  obtain ⟨σ₂, hb, h₂⟩ := hPQ
  refine wpAny_assign_Name (t_store (PQ := fun _ σ' => PQ .next σ') hb h₂ (H.step p ext i) (N.mono p) r (fun _ _ σ₃ as₃ s₃ h₃ a₃ x₃ _ i₃ w₃ => ?_))
  obtain ⟨o, es, ep, ho, hr⟩ := hNs
  obtain ⟨g1, _, g3⟩ := w₃.kp cad o hc ho
  refine ⟨m, ⟨o, es, ep, g3, hr⟩, fun h' hsb => ?_⟩
  have w₃' := w.trans w₃
  refine R _ _ σ₃ as₃ _ h₃ (p.trans a₃) (ext.trans x₃) .next (i₃.other g1 hc0 hsb) ⟨w₃'.srel.trans (SRel.heap s₃ h' s₃.toks), fun b o hb e => ?_⟩
  obtain ⟨f1, f2, f3⟩ := w₃'.kp b o hb e
  exact ⟨f1, f2, (hsb.2 b fun q => by rw [q, hcs] at e; cases e).trans f3⟩

theorem hs_assign_comp1 {x : Str} {elt t0 i0 : Expr} {ifs0 : List Expr} {scope : Scope} {pos pos' spos : Pos} {PQ : PF → St → Prop} (hcl : pe.clean = true)
    (hu : ∀ env, env.scope = pe.scope → swapsWith (.ListComp elt [⟨t0, i0, ifs0, 0⟩] scope pos) (some (.Name x pos')) spos.line env = pure true)
    (h : Comp1 C k pe elt t0 i0 ifs0 scope σ (fun q σ' => ∃ σ₂, BindIs pe σ' x q σ₂ ∧ PQ .next σ₂) PE)
    (hcell : ∀ y ∈ scope.names, y.2 ≠ .cell := by decide +kernel) (hkind : scope.kind = .function := by rfl) (hnd : (scope.names.map (·.1)).Nodup := by decide +kernel) (hclos : closOk pe scope.names = true := by rfl)
    (hs : ∀ env x, foldedSetIterable i0 env x = pure x := by intro _ _; rfl) : Hs1 C k pe (.Assign [.Name x pos'] (.ListComp elt [⟨t0, i0, ifs0, 0⟩] scope pos) spos) σ PQ PE := by
  intro A env s as Q E H N R X
  rw [exec_Assign_Name_used _ _ _ _ (hu env N.scope)]
  refine wpAny_bind (wpAny_standAt (wpAny_bind (wpAny_bind ?_)))
  refine comp_core (Q := fun _ s' => wpAny (model C.prog C.w) A (pure ()) (fun _ s => wpAny (model C.prog C.w) A (pure .next) Q E s) E s') (use := some (assign (.Name x pos') env)) (mk := fun acc env K => (do let _ ← call (.builtin "list.append") [acc, ← eval elt env]) >>= fun _ => K) (fun it acc env => compTurn_list elt t0 i0 ifs0 scope pos it acc env) (fun n => emit_last) hcl hcell hkind hnd hclos h H N X hs
    fun q σ' as' s' acc cad m hPQ p ext r i w hc hc0 hcs hNs => ?_
  exact wpAny_mono (use_core H N R q σ' as' s' acc cad m hPQ p ext r i w hc hc0 hcs hNs) (fun _ s'' ⟨m, hm, hq⟩ => ⟨m, hm, fun h' hsb => wpAny_pure (wpAny_pure (hq h' hsb))⟩) fun _ _ x => x
theorem hs_assign_comp2 {x : Str} {elt t0 i0 t1 i1 : Expr} {ifs0 ifs1 : List Expr} {scope : Scope} {pos pos' spos : Pos} {PQ : PF → St → Prop} (hcl : pe.clean = true)
    (hu : ∀ env, env.scope = pe.scope → swapsWith (.ListComp elt [⟨t0, i0, ifs0, 0⟩, ⟨t1, i1, ifs1, 0⟩] scope pos) (some (.Name x pos')) spos.line env = pure true)
    (h : Comp2 C k pe elt t0 i0 ifs0 t1 i1 ifs1 scope σ (fun q σ' => ∃ σ₂, BindIs pe σ' x q σ₂ ∧ PQ .next σ₂) PE)
    (hcell : ∀ y ∈ scope.names, y.2 ≠ .cell := by decide +kernel) (hkind : scope.kind = .function := by rfl) (hnd : (scope.names.map (·.1)).Nodup := by decide +kernel) (hclos : closOk pe scope.names = true := by rfl)
    (hs : ∀ env x, foldedSetIterable i0 env x = pure x := by intro _ _; rfl) (hs1 : ∀ env x, foldedSetIterable i1 env x = pure x := by intro _ _; rfl) : Hs1 C k pe (.Assign [.Name x pos'] (.ListComp elt [⟨t0, i0, ifs0, 0⟩, ⟨t1, i1, ifs1, 0⟩] scope pos) spos) σ PQ PE := by
  intro A env s as Q E H N R X
  rw [exec_Assign_Name_used _ _ _ _ (hu env N.scope)]
  refine wpAny_bind (wpAny_standAt (wpAny_bind (wpAny_bind ?_)))
  refine comp_core (Q := fun _ s' => wpAny (model C.prog C.w) A (pure ()) (fun _ s => wpAny (model C.prog C.w) A (pure .next) Q E s) E s') (use := some (assign (.Name x pos') env)) (mk := _) (fun it acc env => compTurn_two0 elt t0 i0 t1 i1 ifs0 ifs1 scope pos it acc env) (fun n => emit_gen hcl hs1) hcl hcell hkind hnd hclos h H N X hs
    fun q σ' as' s' acc cad m hPQ p ext r i w hc hc0 hcs hNs => ?_
  exact wpAny_mono (use_core H N R q σ' as' s' acc cad m hPQ p ext r i w hc hc0 hcs hNs) (fun _ s'' ⟨m, hm, hq⟩ => ⟨m, hm, fun h' hsb => wpAny_pure (wpAny_pure (hq h' hsb))⟩) fun _ _ x => x
end
end Mine

set_option maxRecDepth 100000
set_option autoImplicit false
set_option linter.unusedVariables false
set_option linter.unusedSectionVars false
set_option linter.unusedSimpArgs false
namespace Mine
open PySem PySem.W PyProof.Rows PySem.Calls PySem.SeqAt

section
variable {C : Cx} {k : Nat} {pe : PEnv} {σ : St} {PE : Value → St → Prop}

theorem hs_raise {cls newId initId : String} (F : ExcCallFacts cls newId initId) (G : ExcRaiseFacts cls) {x : Str} {np cpos pos : Pos} {e : Expr} {args : List Expr} {PQ : PF → St → Prop} (hcl : pe.clean = true)
    (h : Hx C k pe (.Name x np) σ (fun p σ₁ => p = .lit (.type cls) ∧ Hl C k pe cpos (e :: args) σ₁ (fun ps σ₂ => ps.length ≤ sizeLine ∧ PE (.type cls) σ₂) PE) PE)
    (hplain : ∀ env, (backTo cpos (starEach args env)).any (·.1) = false := by intro _; rfl) (he : ∀ env, starEach (e :: args) env = (false, eval e env) :: starEach args env := by intro _; rfl) :
    Hs1 C k pe (.Raise (some (.Call (.Name x np) (e :: args) [] cpos)) none pos) σ PQ PE := by
  intro A env s as Q E H N R X
  have hp : (backTo cpos (starEach (e :: args) env)).any (·.1) = false := by
    rw [he env]
    show (false || (backTo cpos (starEach args env)).any (·.1)) = false
    rw [hplain env]; rfl
  refine wpAny_Raise_call F G (H.a.clean hcl) hp (h A env s as _ E H N (fun v p σ₁ as₁ s₁ h₁ a₁ x₁ r₁ i₁ w₁ => ?_) X)
  obtain ⟨rfl, h₁⟩ := h₁
  cases r₁
  refine ⟨rfl, ?_⟩
  have key := h₁ A env s₁ as₁ (fun vs s₂ => vs.length ≤ sizeLine ∧ ∀ h' e, Heap.MadeExc s₂.heap h' e cls vs → E (.ref e) { s₂ with heap := h' }) E (H.step a₁ x₁ i₁) (N.mono a₁) (fun vs ps σ₂ as₂ s₂ h₂ a₂ x₂ r₂ i₂ w₂ => ?_) (X.go a₁ x₁ w₁)
  · change wpAny _ _ (spliced (backTo cpos (starEach (e :: args) env))) _ _ _ at key
    rw [he env] at key ⊢
    exact evalArgs_plain (wpAny_mono key (fun vs s₂ hq => ⟨rfl, hq.1, hq.2⟩) fun _ _ x => x)
  · refine ⟨by rw [r₂.length]; exact h₂.1, fun h' e hm => ?_⟩
    obtain ⟨t, ht, ht0, _⟩ := hm.there
    have N₂ := (N.mono a₁).mono a₂
    have H₂ := (H.step a₁ x₁ i₁).step a₂ x₂ i₂
    have hea : e ∉ as₂ := fun hmem => by
      obtain ⟨o, e1⟩ := i₂.there hmem
      rw [hm.new] at e1; cases e1
    have he0 : C.h₀.get? e = none := by
      cases q : C.h₀.get? e with
      | none => rfl
      | some o => have := i₂.base _ _ q; rw [hm.new] at this; cases this
    have w₁₂ := w₁.trans w₂
    refine X (.ref e) (.type cls) false [e] σ₂ as₂ _ h₂.2 (a₁.trans a₂) (x₁.trans x₂) ⟨fun a ha => by simp at ha; subst ha; exact ⟨hea, he0⟩, e, _, _, rfl, by simp, ht, rfl, rfl, by simp, rfl⟩
      (i₂.off (fp := []) (by simp) (fun b o _ q => hm.keeps b o q) (H₂.aframe N₂)) ⟨w₁₂.srel.trans (SRel.heap s₂ h' s₂.toks), fun b o hb q => ?_⟩
    obtain ⟨g1, _, g3⟩ := w₁₂.kp b o hb q
    refine ⟨g1, fun hmem => ?_, hm.keeps b o g3⟩
    simp at hmem; subst hmem
    rw [hm.new] at g3; cases g3

def unclean (pe : PEnv) : PEnv := { pe with clean := false }
theorem EnvRel.unclean {as : List Addr} {env : Env} (N : EnvRel as pe env) : EnvRel as (unclean pe) env := ⟨N.scope, N.kind, N.nd, N.loc, N.cells, N.globals, N.builtins, N.frame⟩
theorem At.marked {as : List Addr} {A : Around} {s : Shared} (H : At C k pe as σ A s) (e : Option Value) : At C k (Mine.unclean pe) as σ (A.mark e) s :=
  ⟨H.ok, ⟨H.a.frames, fun q => (nomatch q), H.a.depth, H.a.units⟩, H.inv, H.frs⟩

theorem hs_try {T : String} {body : List Stmt} {t : Expr} {b₀ : Stmt} {suite orelse : List Stmt} {hpos pos : Pos} {PQ : PF → St → Prop}
    (hexc : isSubtype (.type T) (.type "BaseException") = pure true) (hnt : isSubtype (.type ((Manifest.find? T).elim "type" fun x => x.metatype)) (.type "tuple") = pure false) (hsub : isSubtype (.type T) (.type T) = pure true)
    (h : Hs C k pe body σ (fun f σ₁ => match f with | .next => Hs C k pe orelse σ₁ PQ PE | f => PQ f σ₁)
      (fun cls σ₁ => cls = .type T ∧ Hx C k (unclean pe) t σ₁ (fun p σ₂ => p = .lit (.type T) ∧ σ₂ = σ₁ ∧ Hs C k (unclean pe) (b₀ :: suite) σ₁ PQ noE) noE)) :
    Hs1 C k pe (.Try body [.ExceptHandler (some t) none (b₀ :: suite) hpos] orelse [] pos) σ PQ PE := by
  intro A env s as Q E H N R X
  refine wpAny_Try_except (h A env s as _ _ H N (fun f pf σ₁ as₁ s₁ h₁ a₁ x₁ r₁ i₁ w₁ => ?_) (fun e cls tb xs σ₁ as₁ s₁ h₁ a₁ x₁ n₁ i₁ w₁ => ?_))
  · cases r₁ with
    | next => exact h₁ A env s₁ as₁ _ E (H.step a₁ x₁ i₁) (N.mono a₁) (R.go a₁ x₁ w₁) (X.go a₁ x₁ w₁)
    | brk => exact R _ _ σ₁ as₁ s₁ h₁ a₁ x₁ .brk i₁ w₁
    | cont => exact R _ _ σ₁ as₁ s₁ h₁ a₁ x₁ .cont i₁ w₁
    | ret v => exact R _ _ σ₁ as₁ s₁ h₁ a₁ x₁ (.ret v) i₁ w₁
  · obtain ⟨rfl, h₁⟩ := h₁
    have H₁ := H.step a₁ x₁ i₁
    refine t_note H₁ (N.mono a₁) n₁ fun h₂ xs₂ i₂ n₂ k₂ => ?_
    have H₂ : At C k pe as₁ σ₁ A { s₁ with heap := h₂ } := ⟨H₁.ok, H₁.a, i₂, H₁.frs⟩
    refine t_setFlight H₂ n₂ fun h₃ i₃ n₃ k₃ => ?_
    have H₃ : At C k pe as₁ σ₁ A { s₁ with heap := h₃ } := ⟨H₁.ok, H₁.a, i₃, H₁.frs⟩
    have g₃ : Go as s as₁ { s₁ with heap := h₃ } := by
      have := w₁.more (tk := s₁.toks) (k₂.trans k₃)
      exact ⟨this.srel, fun b o hb e => let ⟨g1, _, g3⟩ := this.kp b o hb e; ⟨g1, by simp, g3⟩⟩
    obtain ⟨hxs, x, oe, vs, rfl, hx, he, hc, hd, hz, ht⟩ := n₃
    have N₃ := (N.mono a₁).unclean
    have M₃ := H₃.marked (some (.ref x))
    refine wpAny_handleBy_builtin (X := T) (T := T) (b := true) hexc hnt hsub (h₁ _ env _ as₁ _ _ M₃ N₃ (fun c p σ₄ as₄ s₄ h₄ a₄ x₄ r₄ i₄ w₄ => ?_) Exc.no)
    obtain ⟨rfl, rfl, h₄⟩ := h₄
    cases r₄
    have M₄ := M₃.step a₄ x₄ i₄
    obtain ⟨g1, _, g3⟩ := w₄.kp x oe (hxs x hx).1 he
    refine ⟨rfl, ⟨oe, g3, hc⟩, ?_⟩
    rw [if_pos rfl]
    obtain ⟨T', oT, ts, ht1, hT, hTx, hoT, hdT, hzT⟩ := ht
    obtain ⟨gT1, _, gT3⟩ := w₄.kp T' oT (hxs T' hT).1 hoT
    have n₄ : Exn C.h₀ as₄ (.ref x) (.type T) true [x, T'] s₄.heap :=
      ⟨fun a ha => by
        simp at ha
        rcases ha with rfl | rfl
        · exact ⟨g1, (hxs _ hx).2⟩
        · exact ⟨gT1, (hxs _ hT).2⟩, x, oe, vs, rfl, by simp, g3, hc, hd, hz, T', oT, ts, ht1, by simp, hTx, gT3, hdT, hzT⟩
    refine t_setFlight M₄ n₄ fun h₅ i₅ n₅ k₅ => ?_
    have M₅ : At C k (unclean pe) as₄ σ₄ (A.mark (some (.ref x))) { s₄ with heap := h₅ } := ⟨M₄.ok, M₄.a, i₅, M₄.frs⟩
    have g₅ : Go as s as₄ { s₄ with heap := h₅ } := by
      have gg := g₃.trans w₄
      refine ⟨gg.srel.trans (SRel.heap s₄ h₅ s₄.toks), fun b o hb e => ?_⟩
      obtain ⟨f1, _, f3⟩ := g₃.kp b o hb e
      have fw := w₁.more (tk := s₁.toks) (k₂.trans k₃)
      obtain ⟨_, f2, _⟩ := fw.kp b o hb e
      obtain ⟨q1, _, q3⟩ := gg.kp b o hb e
      refine ⟨q1, by simp, (k₅ b o q1 (fun hm => ?_) q3).2⟩
      simp at hm
      rcases hm with rfl | rfl
      · exact f2 hx
      · exact f2 hT
    exact h₄ _ env _ as₄ _ _ M₅ (N₃.mono a₄) (R.go (a₁.trans a₄) (x₁.trans x₄) g₅) Exc.no
end
end Mine

set_option maxRecDepth 100000
set_option autoImplicit false
set_option linter.unusedVariables false
set_option linter.unusedSectionVars false
set_option linter.unusedSimpArgs false
namespace Mine
open PySem PySem.W PyProof.Rows PySem.Calls PySem.SeqAt

section
variable {C : Cx} {k : Nat} {pe : PEnv} {σ : St} {PE : Value → St → Prop}

theorem At.frame {as : List Addr} {A : Around} {s : Shared} {env : Env} (H : At C k pe as σ A s) (N : EnvRel as pe env) : ∃ a m, a ∈ as ∧ Fr C.h₀ a s.heap m := by
  obtain ⟨f, a, e1, n, l, e2⟩ := H.aframe N
  obtain ⟨_, m, hn, _⟩ := H.inv.rel f a _ e1 e2
  exact ⟨a, m, mem_of_get? e1, hn, H.inv.base, H.inv.above f a n l e1 e2⟩
theorem At.K {as : List Addr} {A : Around} {s : Shared} (H : At C k pe as σ A s) : C.K.In s.heap := H.ok.X.keeps H.inv.base

/-- a static method of a class -/
theorem tm_sm {Cl p : Addr} {name : Str} {f : Value} {rest : List Value} {mc : Value} {PQ : PV × List PV → St → Prop} (hg : specialIn C.K (.ref Cl) "__getattribute__" = some (some (.builtin "type.__getattribute__")))
    (hr : readsIn C.K Cl mc = true) (e : findCls C.K (.ref Cl) mc name = some (.get (.builtin "staticmethod.__get__") (.ref p) .none (.ref Cl))) (hp : recIn C.K p "staticmethod" = some (f :: rest)) (hv : handedIn f = true)
    (h : PQ (.lit f, []) σ) : TM C k pe name (.lit (.ref Cl)) σ PQ PE := by
  intro pl A env s as Q E v H N r R X
  cases r
  refine method_cls H.K hg ?_
  refine cls_bind H.K hr e (wpAny_call (sm_get (s := { s with toks := s.toks + 1 }) H.K hp (handed_on hv ?_)))
  exact R.toks H h (.mk (.lit _) .nil)

/-- a class method of a class: it is bound -/
theorem tm_cm {Cl p : Addr} {name : Str} {f : Value} {rest : List Value} {mc : Value} {PQ : PV × List PV → St → Prop} (hg : specialIn C.K (.ref Cl) "__getattribute__" = some (some (.builtin "type.__getattribute__")))
    (hr : readsIn C.K Cl mc = true) (e : findCls C.K (.ref Cl) mc name = some (.get (.builtin "classmethod.__get__") (.ref p) .none (.ref Cl))) (hp : recIn C.K p "classmethod" = some (f :: rest))
    (h : PQ (.obj σ.length, []) (σ ++ [.raw (methodObj f (.ref Cl))])) : TM C k pe name (.lit (.ref Cl)) σ PQ PE := by
  intro pl A env s as Q E v H N r R X
  cases r
  refine method_cls H.K hg ?_
  refine cls_bind H.K hr e (wpAny_call (cm_get (s := { s with toks := s.toks + 1 }) H.K hp (handed_on rfl ?_)))
  refine R _ (.obj σ.length, []) (σ ++ [.raw (methodObj f (.ref Cl))]) (as ++ [s.heap.objs.size]) _ h (List.prefix_append _ _) (Ext.append _ _) (.mk (.obj _ _ (by rw [← H.inv.len]; simp)) .nil) (H.inv.alloc ?_) Go.push
  exact Heap.get?_push_size _ rfl

theorem keep_meth {i f : Nat} {self : Value} (g : σ[i]? = some (.raw (methodObj (.ref f) self))) (hf : fnIn C.K f = true) : KeepOk C σ (.obj i) := by
  intro as h v O H r
  cases r with
  | obj _ a e => exact keeps_M hf h ⟨H.atRef g e, O.X.keeps H.base⟩

theorem code_of_call {A : Around} {s : Shared} {Q : Value → Shared → Prop} {E : Value → Shared → Prop} {f : Value} {vs : List Value} {ks : List (Str × Value)} {M : Model}
    (h : codeAny M A (.call f ⟨vs, ks⟩) (fun r s' => match r with | .ok (.ret v) => Q v s' | .ok _ => False | .error e => E e s') s) : wpAny M A (call f vs ks) Q E s := wpAny_call h

theorem tc_meth {i f : Nat} {self : Value} {ps : List PV} {kws : List (Str × PV)} {PQ : PV → St → Prop} (g : σ[i]? = some (.raw (methodObj (.ref f) self))) (h : TF C k pe.frs pe.clean f (.lit self :: ps) kws σ PQ PE) : TC C k pe (.obj i) ps kws σ PQ PE := by
  intro A env s as Q E f' vs ks H N rf rs rk R X
  cases rf with
  | obj _ a e =>
    exact wpAny_call (method_call (H.inv.atRef g e) (h A s as Q E (self :: vs) ks H.ok H.inv H.a.frames H.a.clean H.a.depth H.a.units H.frs (.cons (.lit _) rs) rk R X))
end
end Mine

set_option maxRecDepth 100000
set_option autoImplicit false
set_option linter.unusedVariables false
set_option linter.unusedSectionVars false
set_option linter.unusedSimpArgs false
namespace Mine
open PySem PySem.W PyProof.Rows PySem.Calls PySem.SeqAt

section
variable {C : Cx} {k : Nat} {pe : PEnv} {σ : St} {PE : Value → St → Prop} {PQ : PV → St → Prop}

theorem tc_of1 {f : Value} {p : PV} (h : T1 C k pe (fun v => call f [v]) VR p σ PQ PE) : TC C k pe (.lit f) [p] [] σ PQ PE := by
  intro A env s as Q E f' vs ks H N rf rs rk R X
  cases rf; cases rk
  cases rs with
  | cons r rs => cases rs; exact h A env s as Q E _ H N r R X
theorem tc_of2 {f : Value} {p q : PV} (h : T2 C k pe (fun v u => call f [v, u]) VR p q σ PQ PE) : TC C k pe (.lit f) [p, q] [] σ PQ PE := by
  intro A env s as Q E f' vs ks H N rf rs rk R X
  cases rf; cases rk
  cases rs with
  | cons r rs =>
    cases rs with
    | cons r2 rs => cases rs; exact h A env s as Q E _ _ H N r r2 R X
theorem tc_of3 {f : Value} {p q r : PV} (h : T3 C k pe (fun v u w => call f [v, u, w]) VR p q r σ PQ PE) : TC C k pe (.lit f) [p, q, r] [] σ PQ PE := by
  intro A env s as Q E f' vs ks H N rf rs rk R X
  cases rf; cases rk
  cases rs with
  | cons r rs =>
    cases rs with
    | cons r2 rs =>
      cases rs with
      | cons r3 rs => cases rs; exact h A env s as Q E _ _ _ H N r r2 r3 R X

/-- what a new object gives back -/
theorem Run.newObj {as : List Addr} {s : Shared} {A : Around} {Q : Value → Shared → Prop} {o : Obj} {po : PO} {tk : Nat} (R : Run C as σ s VR PQ Q) (H : At C k pe as σ A s)
    (h : PQ (.obj σ.length) (σ ++ [po])) (r : HR (as ++ [s.heap.objs.size]) (s.heap.push o) s.heap.objs.size po) : Q (.ref s.heap.objs.size) { s with heap := s.heap.push o, toks := tk } :=
  R _ (.obj σ.length) (σ ++ [po]) (as ++ [s.heap.objs.size]) _ h (List.prefix_append _ _) (Ext.append _ _) (.obj _ _ (by rw [← H.inv.len]; simp)) (H.inv.alloc r) Go.push
/-- the heap has grown beside the account -/
theorem Run.grown {α β : Type} {as : List Addr} {s : Shared} {A : Around} {env : Env} {rel : List Addr → β → α → Prop} {PR : β → St → Prop} {Q : α → Shared → Prop} {h' : Heap} {tk : Nat} {a : α} {b : β} (R : Run C as σ s rel PR Q) (H : At C k pe as σ A s) (N : EnvRel as pe env)
    (kk : ∀ b o, s.heap.get? b = some o → h'.get? b = some o) (h : PR b σ) (r : rel as b a) : Q a { s with heap := h', toks := tk } :=
  R a b σ as _ h (List.prefix_refl _) (Ext.refl _) r (H.inv.off (fp := []) (by simp) (fun b o _ e => kk b o e) (H.aframe N)) (Go.keeps kk trivial fun a h1 h2 => absurd h1 h2)

/-- len -/
theorem tc_len_bytes {b : Array UInt8} (hz : b.size ≤ 1099511627776) (h : PQ (.int b.size) σ) : TC C k pe (.lit (.builtin "len")) [.bytes b] [] σ PQ PE := tc_of1 fun A env s as Q E v H N r R X => by
  cases r; exact len_bytes hz (R.toks H h (.int _ _))
theorem tc_len_str {x : Str} (hz : x.length ≤ 1099511627776) (h : PQ (.int x.length) σ) : TC C k pe (.lit (.builtin "len")) [.str x] [] σ PQ PE := tc_of1 fun A env s as Q E v H N r R X => by
  cases r; exact PyProof.Rows.len_str (by omega) (R.toks H h (.int _ _))
theorem tc_len_list {l : Nat} {xs : List PV} (g : σ[l]? = some (.list xs)) (hz : xs.length ≤ 1099511627776) (h : PQ (.int xs.length) σ) : TC C k pe (.lit (.builtin "len")) [.obj l] [] σ PQ PE := tc_of1 fun A env s as Q E v H N r R X => by
  cases r with
  | obj _ a e =>
    obtain ⟨vs, hl, rv⟩ := H.inv.atRef g e
    refine call_len_list hl.isList (by simp [rv.length]; omega) ?_
    simp only [List.size_toArray, rv.length]
    exact R.toks H h (.int _ _)
theorem tc_len_tuple {l : Nat} {xs : List PV} (g : σ[l]? = some (.tuple xs)) (hz : xs.length ≤ 1099511627776) (h : PQ (.int xs.length) σ) : TC C k pe (.lit (.builtin "len")) [.obj l] [] σ PQ PE := tc_of1 fun A env s as Q E v H N r R X => by
  cases r with
  | obj _ a e =>
    obtain ⟨vs, hl, rv⟩ := H.inv.atRef g e
    refine len_tuple hl (by simp [rv.length]; omega) ?_
    simp only [List.size_toArray, rv.length]
    exact R.toks H h (.int _ _)

theorem tc_abs {a : Int} (h : PQ (.int (a.natAbs : Int)) σ) : TC C k pe (.lit (.builtin "abs")) [.int a] [] σ PQ PE := tc_of1 fun A env s as Q E v H N r R X => by
  cases r
  refine PyProof.Rows.call_abs_int fun u tk => ?_
  have : (if a < 0 then -a else a) = (a.natAbs : Int) := by split <;> omega
  rw [this]
  exact R.toks H h (.int _ _)

/-- octets -/
def fromB (b : Array UInt8) : Nat := b.toList.foldl (fun a c => a * 256 + c.toNat) 0
def toB (n k : Nat) : Array UInt8 := ((List.range k).map fun i => (n / 256 ^ (k - 1 - i) % 256).toUInt8).toArray

theorem grown_big {M : Model} {A : Around} {E : Value → Shared → Prop} {s : Shared} {n : Nat} {Q : Value → Shared → Prop} (hn : n.log2 < 2 ^ 27) (h : Q (.int (n : Int) s.toks) { s with toks := s.toks + 1 }) : wpAny M A (mkIntGrown (n : Int)) Q E s := by
  unfold mkIntGrown
  have hl : ¬ ((n : Int).natAbs.log2 ≥ bitsLine) := by
    rw [Int.natAbs_natCast]
    have hb : bitsLine = 134217728 := by first | rfl | decide
    rw [hb]; omega
  rw [if_neg hl]
  exact wpAny_mkInt h
theorem fromB_lt (b : Array UInt8) : fromB b < 256 ^ b.size := by
  have h1 := KFB.fold_lt b.toList 0
  rw [Nat.zero_add, Nat.one_mul, Array.length_toList] at h1
  exact h1
theorem fromB_log {b : Array UInt8} (hz : b.size ≤ 65536) : (fromB b).log2 < 2 ^ 27 := by
  by_cases h0 : fromB b = 0
  · rw [h0]; decide
  · rw [Nat.log2_lt h0]
    refine Nat.lt_of_lt_of_le (fromB_lt b) ?_
    have e2 : (256 : Nat) = 2 ^ 8 := by decide
    rw [e2, ← Nat.pow_mul]
    exact Nat.pow_le_pow_right (by decide) (by omega)

theorem fb_tree {M : Model} {A : Around} {E : Value → Shared → Prop} {s : Shared} {b : Array UInt8} {t u : Tok} {P : Fin → Shared → Prop} {args : Args} (hz : b.size ≤ 65536)
    (ha : args = ⟨[.type "int", .bytes b t, .str (PySem.Str.ofString "big") u], []⟩ ∨ args = ⟨[.type "int", .bytes b t], [("byteorder", .str (PySem.Str.ofString "big") u)]⟩)
    (h : P (.done (.ret (.int (fromB b) s.toks))) { s with toks := s.toks + 1 }) : wpAny M A (Builtin.«int.from_bytes» args) P E s := by
  have hv : (b.toList.foldl (fun (acc : Int) (b : UInt8) => acc * 256 + (b.toNat : Int)) ((0 : Nat) : Int)) = (fromB b : Int) := KFB.foldI_eq b.toList 0
  rcases ha with rfl | rfl
  · unfold Builtin.«int.from_bytes»
    refine wpAny_bind (wpAny_of_eq (a := true) KFB.type_int ?_)
    refine KFB.if_not rfl ?_
    refine wpAny_bind (wpAny_of_eq (a := true) F.conv_sub_int ?_)
    refine KFB.if_not rfl ?_
    refine wpAny_bind (wpAny_of_eq (a := [some (.bytes b t), some (.str (PySem.Str.ofString "big") u), none]) (by kernel_rfl) ?_)
    refine wpAny_bind (wpAny_of_eq (a := PySem.Str.ofString "big") (by kernel_rfl) ?_)
    refine wpAny_bind (wpAny_of_eq (a := false) rfl ?_)
    refine wpAny_bind (wpAny_of_eq (a := false) (by kernel_rfl) ?_)
    refine wpAny_bind (wpAny_of_eq (a := b) rfl ?_)
    show wpAny _ _ (mkIntGrown (b.toList.foldl (fun (acc : Int) (b : UInt8) => acc * 256 + (b.toNat : Int)) ((0 : Nat) : Int)) >>= fun v => _) _ _ _
    rw [hv]
    refine wpAny_bind (grown_big (fromB_log hz) ?_)
    refine KFB.if_so (by decide +kernel) ?_
    exact wpAny_bind (wpAny_pure (wpAny_pure h))
  · unfold Builtin.«int.from_bytes»
    refine wpAny_bind (wpAny_of_eq (a := true) KFB.type_int ?_)
    refine KFB.if_not rfl ?_
    refine wpAny_bind (wpAny_of_eq (a := true) F.conv_sub_int ?_)
    refine KFB.if_not rfl ?_
    refine wpAny_bind (wpAny_of_eq (a := [some (.bytes b t), some (.str (PySem.Str.ofString "big") u), none]) (by kernel_rfl) ?_)
    refine wpAny_bind (wpAny_of_eq (a := PySem.Str.ofString "big") (by kernel_rfl) ?_)
    refine wpAny_bind (wpAny_of_eq (a := false) rfl ?_)
    refine wpAny_bind (wpAny_of_eq (a := false) (by kernel_rfl) ?_)
    refine wpAny_bind (wpAny_of_eq (a := b) rfl ?_)
    show wpAny _ _ (mkIntGrown (b.toList.foldl (fun (acc : Int) (b : UInt8) => acc * 256 + (b.toNat : Int)) ((0 : Nat) : Int)) >>= fun v => _) _ _ _
    rw [hv]
    refine wpAny_bind (grown_big (fromB_log hz) ?_)
    refine KFB.if_so (by decide +kernel) ?_
    exact wpAny_bind (wpAny_pure (wpAny_pure h))

theorem fb_call {A : Around} {s : Shared} {E : Value → Shared → Prop} {prog : Program} {w : World} {x : Addr} {vs : List Value} {ks : List (Str × Value)} {b : Array UInt8} {t u : Tok} {Q : Value → Shared → Prop} (ho : KFB.StandsAt x s.heap) (hz : b.size ≤ 65536)
    (ha : (⟨.type "int" :: vs, ks⟩ : Args) = ⟨[.type "int", .bytes b t, .str (PySem.Str.ofString "big") u], []⟩ ∨ (⟨.type "int" :: vs, ks⟩ : Args) = ⟨[.type "int", .bytes b t], [("byteorder", .str (PySem.Str.ofString "big") u)]⟩)
    (hc : checkBoundCall "int.from_bytes" ⟨.type "int" :: vs, ks⟩ = pure ())
    (h : Q (.int (fromB b) s.toks) { s with toks := s.toks + 1 }) : wpAny (model prog w) A (call (.ref x) vs ks) Q E s := by
  refine wpAny_call (codeAny_of_tree ?_)
  show wpAny _ A.in1 (callAny (.ref x) ⟨vs, ks⟩) _ _ s
  simp only [callAny]
  refine wpAny_bind (wpAny_load ho ?_)
  simp only [KFB.bound, show (Value.type "builtin_function_or_method" == Value.type "method" || Value.type "builtin_function_or_method" == Value.type "builtin_function_or_method" || Value.type "builtin_function_or_method" == Value.type "method-wrapper") = true by decide, if_true]
  refine KFB.if_so (by decide) ?_
  refine wpAny_bind (wpAny_of_eq (a := ()) hc ?_)
  refine wpAny_bind (wpAny_pure (wpAny_pure ?_))
  exact ⟨KFB.quiet_fb, codeAny_builtin KFB.entry_fb (fb_tree hz ha h)⟩

/-- int.from_bytes, bound -/
theorem tm_from_bytes {PM : PV × List PV → St → Prop} (e : findCls C.K (.type "int") (.type "type") (PySem.Str.ofString "from_bytes") = some (.get (.builtin "classmethod_descriptor.__get__") (.builtin "int.from_bytes") .none (.type "int")))
    (h : PM (.obj σ.length, []) (σ ++ [.raw KFB.bound])) : TM C k pe "from_bytes" (.lit (.type "int")) σ PM PE := by
  intro pl A env s as Q E v H N r R X
  cases r
  have X := H.K
  have hstub : opaqueClassAbove (.type "int") = pure none := by unfold opaqueClassAbove; dsimp only; rw [show Manifest.isStub "int" = false by decide +kernel]; rfl
  have ht : typeOf (.type "int") = pure (.type "type") := by first | rfl | kernel_rfl
  have L0 : Looks (model C.prog C.w) s.heap (typeOf (.type "int")) (.type "type") := Looks.of_pure ht
  have hg : findIn C.K (.type "type") "__getattribute__" = some (some (.builtin "type.__getattribute__")) := type_tga
  show wpAny _ _ (getMethod (.type "int") (PySem.Str.ofString "from_bytes") pl) _ _ _
  unfold getMethod specialOf
  refine wpAny_bind (wpAny_bind (L0.here ((looks_findIn X hg).here ?_)))
  dsimp only
  rw [if_pos canon_tga]
  refine wpAny_bind (wpAny_mono (Q := fun v => Q (v, [])) (E := E) ?_ (fun _ _ z => wpAny_pure z) fun _ _ z => z)
  have LO : Looks (model C.prog C.w) s.heap (opaqueClassAbove (.type "int")) none := Looks.of_pure hstub
  refine cls_open X LO L0 hg (looks_hook X (r := none) (by rfl)) (by show subIn C.K _ _ = _; rfl) e ?_
  show wpAny _ _ (holding [.builtin "int.from_bytes"] (call (.builtin "classmethod_descriptor.__get__") [.builtin "int.from_bytes", .none, .type "int"]) >>= fun v => ret v) _ _ _
  refine wpAny_bind (wpAny_holding (wpAny_call_entry KFB.slot_get KFB.type_fb KFB.entry_get (KFB.run_get ⟨_, rfl, wpAny_pure (wpAny_pure ?_)⟩) (KFB.args_get _ _ _)))
  exact R _ (.obj σ.length, []) (σ ++ [.raw KFB.bound]) (as ++ [s.heap.objs.size]) _ h (List.prefix_append _ _) (Ext.append _ _) (.mk (.obj _ _ (by rw [← H.inv.len]; simp)) .nil) (H.inv.alloc (show HR _ _ _ (.raw KFB.bound) from Heap.get?_push_size (o := KFB.bound) _ rfl)) (Go.push (tk := s.toks + 1))
theorem keep_fb {i : Nat} (g : σ[i]? = some (.raw KFB.bound)) : KeepOk C σ (.obj i) := by
  intro as h v O H r
  cases r with
  | obj _ a e =>
    refine ⟨.machine, .inr (.inl rfl), ?_⟩
    have ho : h.get? a = some KFB.bound := H.atRef g e
    exact (Looks.ld (part := none) ho).andThen .now
theorem tc_from_bytes {i : Nat} {b : Array UInt8} (g : σ[i]? = some (.raw KFB.bound)) (hz : b.size ≤ 65536) (h : PQ (.int (fromB b)) σ) : TC C k pe (.obj i) [.bytes b, .str "big"] [] σ PQ PE := by
  intro A env s as Q E f vs ks H N rf rs rk R X
  cases rk
  cases rs with
  | cons r rs =>
    cases rs with
    | cons r2 rs =>
      cases rs; cases r; cases r2
      cases rf with
      | obj _ a e =>
        have ho : s.heap.get? a = some KFB.bound := H.inv.atRef g e
        exact fb_call ho hz (.inl rfl) (by first | kernel_rfl | rfl) (R.toks H h (.int _ _))
theorem tc_from_bytes_kw {i : Nat} {b : Array UInt8} (g : σ[i]? = some (.raw KFB.bound)) (hz : b.size ≤ 65536) (h : PQ (.int (fromB b)) σ) : TC C k pe (.obj i) [.bytes b] [("byteorder", .str "big")] σ PQ PE := by
  intro A env s as Q E f vs ks H N rf rs rk R X
  cases rs with
  | cons r rs =>
    cases rs; cases r
    cases rk with
    | cons r2 rk =>
      cases rk; cases r2
      cases rf with
      | obj _ a e =>
        have ho : s.heap.get? a = some KFB.bound := H.inv.atRef g e
        exact fb_call ho hz (.inr rfl) (by first | kernel_rfl | rfl) (R.toks H h (.int _ _))
end
end Mine

set_option maxRecDepth 100000
set_option autoImplicit false
set_option linter.unusedVariables false
set_option linter.unusedSectionVars false
set_option linter.unusedSimpArgs false
namespace Mine
open PySem PySem.W PyProof.Rows PySem.Calls PySem.SeqAt

theorem u8_toNat {n : Nat} : (n % 256).toUInt8.toNat = n % 256 := by
  show (UInt8.ofNat (n % 256)).toNat = n % 256
  rw [UInt8.toNat_ofNat']
  omega
theorem toB_size (n k : Nat) : (toB n k).size = k := by simp [toB]
theorem toB_low {n k : Nat} (h : n < 256 ^ k) : (KTBy.low (n : Int) k).reverse.toArray = toB n k := by
  unfold toB
  congr 1
  have h1 := KTBy.low_ints (x := (n : Int)) (n := k) (by omega) (by exact_mod_cast h)
  refine List.ext_getElem (by simp [KTBy.low_length]) fun i h2 h3 => ?_
  have hi : i < k := by simpa using h3
  have hl : (KTBy.low (n : Int) k).length = k := KTBy.low_length _ _
  rw [List.getElem_reverse, List.getElem_map, List.getElem_range]
  have hj : (KTBy.low (n : Int) k).length - 1 - i < (KTBy.low (n : Int) k).length := by omega
  have h4 := congrArg (fun l => l[(KTBy.low (n : Int) k).length - 1 - i]?) h1
  simp only [List.getElem?_map, List.getElem?_eq_getElem hj, hl, Option.map_some] at h4
  rw [List.getElem?_range (by omega)] at h4
  simp only [Option.map_some, Option.some.injEq] at h4
  apply UInt8.toNat_inj.mp
  rw [u8_toNat]
  have e : ((KTBy.low (n : Int) k)[(KTBy.low (n : Int) k).length - 1 - i]) = ((KTBy.low (n : Int) k)[k - 1 - i]) := by simp only [hl]
  rw [e]
  have hj' : k - 1 - i < (KTBy.low (n : Int) k).length := by omega
  rw [List.getElem?_eq_getElem hj', Option.map_some, Option.some.injEq] at h4
  have h5 : (((KTBy.low (n : Int) k)[k - 1 - i]).toNat : Int) = ((n / 256 ^ (k - 1 - i) % 256 : Nat) : Int) := by rw [h4]; push_cast; rfl
  exact_mod_cast h5

section
variable {C : Cx} {k : Nat} {pe : PEnv} {σ : St} {PE : Value → St → Prop} {PQ : PV → St → Prop}

theorem tm_to_bytes {x : Int} {PM : PV × List PV → St → Prop} (h : PM (.lit (.builtin "int.to_bytes"), [.int x]) σ) : TM C k pe "to_bytes" (.int x) σ PM PE := by
  intro pl A env s as Q E v H N r R X
  cases r
  exact KTBy.method (R.here H h (.mk (.lit _) (.cons (.int _ _) .nil)))
theorem tc_to_bytes {n m : Nat} (hm : m ≤ 65536) (hn : n < 256 ^ m) (h : PQ (.bytes (toB n m)) σ) : TC C k pe (.lit (.builtin "int.to_bytes")) [.int n, .int m, .str "big"] [] σ PQ PE := tc_of3 fun A env s as Q E v u w H N r1 r2 r3 R X => by
  cases r1; cases r2; cases r3
  rename_i t u v
  have hl : (KTBy.low (n : Int) m).reverse.length = m := by rw [List.length_reverse, KTBy.low_length]
  refine wpAny_call_entry KTBy.slot (typeIs_int s n t) KTBy.entry ?_ (KTBy.args _ _ _)
  have hb : Builtin.Int.intBits (n : Int) ≤ 8 * m := KTBy.bits_le (B := ((256 ^ m : Nat) : Int)) (KTBy.p256 m) (by omega) (by exact_mod_cast hn)
  show wpAny _ _ (Builtin.Int.intOfSelf (.int n t) >>= fun y => _) _ _ s
  refine wpAny_bind (wpAny_of_eq (a := (n : Int)) rfl ?_)
  show wpAny _ _ (Builtin.Int.intBindNamed "to_bytes" ["length", "byteorder", "signed"] 0 2 [.int (m : Int) u, .str (PySem.Str.ofString "big") v] [] >>= fun l => _) _ _ s
  refine wpAny_bind (wpAny_of_eq (a := [some (.int (m : Int) u), some (.str (PySem.Str.ofString "big") v), none]) (by kernel_rfl) ?_)
  show wpAny _ _ (Builtin.Int.intIndex "int.to_bytes" (.int (m : Int) u) >>= fun n => _) _ _ s
  refine wpAny_bind (wpAny_of_eq (a := (m : Int)) rfl ?_)
  refine KTBy.if_not (by show (decide ((m : Int) < -(2 ^ 63 : Int)) || decide ((m : Int) ≥ 2 ^ 63)) = false; rw [decide_eq_false (show ¬ ((m : Int) < -(2 ^ 63 : Int)) by omega), decide_eq_false (show ¬ ((m : Int) ≥ 2 ^ 63) by omega)]; rfl) ?_
  refine wpAny_bind (wpAny_of_eq (a := PySem.Str.ofString "big") (by kernel_rfl) ?_)
  refine wpAny_bind (wpAny_of_eq (a := false) rfl ?_)
  refine wpAny_bind (wpAny_of_eq (a := false) (by kernel_rfl) ?_)
  refine wpAny_ite_false (decide_eq_false (show ¬ ((m : Int) < 0) by omega)) ?_
  refine wpAny_ite_false (decide_eq_false (show ¬ ((m : Int) > 2 ^ 63 - 1 - 33) by omega)) ?_
  refine wpAny_ite_false (decide_eq_false (show ¬ ((m : Int) > (sizeLine : Int)) by rw [sizeLine_eq]; omega)) ?_
  refine KTBy.if_not (by show (decide ((n : Int) < 0) && !false) = false; rw [decide_eq_false (show ¬ (n : Int) < 0 by omega)]; rfl) ?_
  refine KTBy.if_not (by show (_ && decide ((Builtin.Int.intBits (n : Int) : Int) > 8 * (m : Int))) = false; rw [decide_eq_false (show ¬ ((Builtin.Int.intBits (n : Int) : Int) > 8 * (m : Int)) by omega), Bool.and_false]) ?_
  refine wpAny_bind (wpAny_mkBytes (wpAny_pure ⟨_, rfl, ?_⟩) (by show (List.reverse (KTBy.low (n : Int) (Int.toNat (m : Int)))).length ≤ sizeLine; rw [List.length_reverse, KTBy.low_length, Int.toNat_natCast, sizeLine_eq]; omega))
  rw [Int.toNat_natCast]
  show Q (.bytes (List.reverse (KTBy.low (n : Int) m)).toArray _) _
  rw [toB_low hn]
  exact R.toks H h (.bytes _ _)

theorem ints_of {as : List Addr} : ∀ {ns : List Int} {vs : List Value}, VRs as (ns.map .int) vs → IntsAre vs ns
  | [], _, .nil => .nil
  | n :: ns, _, .cons h r => by cases h; exact .cons _ _ (ints_of r)
/-- bytes of a list of numbers -/
theorem tc_bytes_list {l : Nat} {ns : List Int} (hcl : pe.clean = true) (g : σ[l]? = some (.list (ns.map .int))) (hr : ∀ n ∈ ns, 0 ≤ n ∧ n < 256) (hz : ns.length ≤ 16777216) (h : PQ (.bytes (byteArr ns)) σ) : TC C k pe (.lit (.type "bytes")) [.obj l] [] σ PQ PE := tc_of1 fun A env s as Q E v H N r R X => by
  cases r with
  | obj _ a e =>
    obtain ⟨vs, hl, rv⟩ := H.inv.atRef g e
    exact call_bytes_ints hl.isList (ints_of rv) hr (by have := rv.length; simp at this; rw [sizeLine_eq]; omega) (H.a.clean hcl) fun h' t k kk => R.grown H N kk h (.bytes _ _)

theorem t2_add_bytes {b c : Array UInt8} (hz : b.size + c.size ≤ 16777216) (h : PQ (.bytes (b ++ c)) σ) : T2 C k pe (binaryOp .Add) VR (.bytes b) (.bytes c) σ PQ PE := by
  intro A env s as Q E v u H N r1 r2 R X
  cases r1; cases r2
  exact KBy.add_bytes hz fun t' tk => R.toks H h (.bytes _ _)
end
end Mine

set_option maxRecDepth 100000
set_option autoImplicit false
set_option linter.unusedVariables false
set_option linter.unusedSectionVars false
set_option linter.unusedSimpArgs false
namespace Mine
open PySem PySem.W PyProof.Rows PySem.Calls PySem.SeqAt

/-- a slice -/
def cut {α : Type} (l : List α) (lo hi : Option Int) : List α := (l.drop (lo.elim 0 (clipAt l.length))).take (hi.elim l.length (clipAt l.length) - lo.elim 0 (clipAt l.length))
def cutS (x : Str) (lo hi : Option Int) : Str := ⟨(cut x.cps.toList lo hi).toArray⟩
def cutB (b : Array UInt8) (lo hi : Option Int) : Array UInt8 := (cut b.toList lo hi).toArray

theorem strIdx_plain (lo hi : Option Int) (n : Nat) : Builtin.Str.strSliceIndices lo hi 1 n = (List.range (hi.elim n (clipAt n) - lo.elim 0 (clipAt n))).map ((lo.elim 0 (clipAt n)) + ·) := by
  rw [← sliceRange_one]
  unfold Builtin.Str.strSliceIndices
  cases lo <;> cases hi <;> simp [clipAt_cast]
theorem Txt_slice_cut (x : Str) (lo hi : Option Int) : Txt.slice x lo hi = cutS x lo hi := by
  unfold Txt.slice cutS cut
  have hx : x.length = x.cps.toList.length := by rw [Array.length_toList]; rfl
  have h2 : (⟨((Builtin.Str.strSliceIndices lo hi 1 x.length).filterMap (x.cps[·]?)).toArray⟩ : Str) = ⟨((x.cps.toList.drop (lo.elim 0 (clipAt x.cps.toList.length))).take (hi.elim x.cps.toList.length (clipAt x.cps.toList.length) - lo.elim 0 (clipAt x.cps.toList.length))).toArray⟩ := by
    rw [strIdx_plain, pick_run, hx]
  split
  · rename_i hc
    rw [← h2]
    have hl : (Builtin.Str.strSliceIndices lo hi 1 x.length).length = x.length := by simpa using hc
    rw [strIdx_plain] at hl ⊢
    rw [pick_run]
    simp only [List.length_map, List.length_range] at hl
    have h0 : lo.elim 0 (clipAt x.length) = 0 := by
      have hle : hi.elim x.length (clipAt x.length) ≤ x.length := by
        cases hi with
        | none => exact Nat.le_refl _
        | some j => show clipAt x.length j ≤ x.length; have := clipAt_cast x.length j; omega
      by_cases hx0 : x.length = 0
      · cases lo with
        | none => rfl
        | some j => show clipAt x.length j = 0; have := clipAt_cast x.length j; omega
      · omega
    rw [hl, h0, List.drop_zero, List.take_of_length_le (by rw [← hx]; exact Nat.le_refl _)]
  · exact h2

section
variable {C : Cx} {k : Nat} {pe : PEnv} {σ : St} {PE : Value → St → Prop} {PQ : PV → St → Prop}

/-- the value's type has its own way of items -/
def GetOk (C : Cx) (σ : St) (p : PV) : Prop := ∀ (as : List Addr) (s : Shared) (v : Value), HInv C.h₀ as σ s.heap → VR as p v → ∃ T id, s.TypeIs v T ∧ typeLookup (.type T) "__getitem__" = pure (some (.builtin id))
theorem get_list {l : Nat} {xs : List PV} (g : σ[l]? = some (.list xs)) : GetOk C σ (.obj l) := fun as s v H r => by
  cases r with
  | obj _ a e => obtain ⟨vs, hl, _⟩ := H.atRef g e; exact ⟨_, _, hl.isList.typeIs, slot_list_getitem.lookup⟩
theorem get_tuple {l : Nat} {xs : List PV} (g : σ[l]? = some (.tuple xs)) : GetOk C σ (.obj l) := fun as s v H r => by
  cases r with
  | obj _ a e => obtain ⟨vs, ht, _⟩ := H.atRef g e; exact ⟨_, _, IsTup.typeIs ht, slot_tuple_getitem.lookup⟩
theorem get_str {x : Str} : GetOk C σ (.str x) := fun as s v H r => by
  cases r; exact ⟨_, _, typeIs_str _ _ _, PySem.F.slot_str_getitem.lookup⟩
theorem get_bytes {b : Array UInt8} : GetOk C σ (.bytes b) := fun as s v H r => by
  cases r; exact ⟨_, _, typeIs_bytes _ _ _, FB.slot_bytes_getitem.lookup⟩

theorem hx_index {value slice : Expr} {pos : Pos} (h : Hx C k pe value σ (fun p σ₁ => Hx C k pe slice σ₁ (fun q σ₂ => GetOk C σ₂ p ∧ T2 C k pe getItem VR p q σ₂ PQ PE) PE) PE)
    (hs : ∀ o i, subscripted slice false o i = operate [o, i] (getItem o i) := by intro _ _; rfl) : Hx C k pe (.Subscript value slice pos) σ PQ PE := by
  intro A env s as Q E H N R X
  refine Subscript_ (h A env s as _ E H N (fun v p σ₁ as₁ s₁ h₁ a₁ x₁ r₁ i₁ w₁ => ?_) X)
  have H₁ := H.step a₁ x₁ i₁
  refine h₁ A env s₁ as₁ _ E H₁ (N.mono a₁) (fun u q σ₂ as₂ s₂ h₂ a₂ x₂ r₂ i₂ w₂ => ?_) (X.go a₁ x₁ w₁)
  obtain ⟨hg, h₂⟩ := h₂
  obtain ⟨T, id, hT, hl⟩ := hg as₂ s₂ v i₂ (r₁.mono a₂)
  have key := h₂ A env s₂ as₂ Q E v u (H₁.step a₂ x₂ i₂) ((N.mono a₁).mono a₂) (r₁.mono a₂) r₂ ((R.go a₁ x₁ w₁).go a₂ x₂ w₂) ((X.go a₁ x₁ w₁).go a₂ x₂ w₂)
  unfold subscriptTail
  refine wpAny_bind ?_
  rw [getitemInPython_of_ne hT.not_modules]
  refine wpAny_bind (wpAny_specialOf hT hl ?_)
  have fin : wpAny (model C.prog C.w) A (subscripted slice false v u) (fun r s₃ => wpAny (model C.prog C.w) A (letTemporaryGo value v r >>= fun _ => pure r) Q E s₃) E s₂ := by
    rw [hs]
    exact wpAny_operating (wpAny_mono key (fun r s₃ h₃ => wpAny_bind (wpAny_letTemporaryGo (wpAny_pure h₃))) fun _ _ x => x)
  first
    | exact wpAny_pure (wpAny_bind fin)
    | exact wpAny_bind (wpAny_pure (wpAny_bind fin))
    | exact wpAny_bind fin

theorem seqIdx_nat {n i : Nat} (h : i < n) : seqIndex? (i : Int) n = some i := by
  unfold seqIndex?
  have h1 : ¬ ((i : Int) < 0) := by omega
  simp [h1, h]
theorem t2_get_list {l : Nat} {xs : List PV} {i : Int} {x : PV} (g : σ[l]? = some (.list xs)) (h0 : 0 ≤ i) (hi : i < 2 ^ 63) (hx : xs[i.toNat]? = some x) (h : PQ x σ) : T2 C k pe getItem VR (.obj l) (.int i) σ PQ PE := by
  intro A env s as Q E v u H N r1 r2 R X
  cases r2
  cases r1 with
  | obj _ a e =>
    obtain ⟨vs, hl, rv⟩ := H.inv.atRef g e
    obtain ⟨v, e1, e2⟩ := rv.get hx
    exact wpAny_getItem_list hl.isList h0 hi (x := v) (by simpa using e1) (R.here H h e2)
theorem t2_get_tuple {l : Nat} {xs : List PV} {i : Int} {x : PV} (g : σ[l]? = some (.tuple xs)) (h0 : 0 ≤ i) (hi : i < 2 ^ 63) (hx : xs[i.toNat]? = some x) (h : PQ x σ) : T2 C k pe getItem VR (.obj l) (.int i) σ PQ PE := by
  intro A env s as Q E v u H N r1 r2 R X
  cases r2
  cases r1 with
  | obj _ a e =>
    obtain ⟨vs, hl, rv⟩ := H.inv.atRef g e
    obtain ⟨v, e1, e2⟩ := rv.get hx
    have hlt : i.toNat < xs.length := (List.getElem?_eq_some_iff.mp hx).1
    have hj : seqIndex? i vs.toArray.size = some i.toNat := by
      have := seqIdx_nat (n := vs.toArray.size) (i := i.toNat) (by simpa [rv.length] using hlt)
      rwa [Int.toNat_of_nonneg h0] at this
    exact PyProof.Rows.getItem_tuple hl (by omega) hi hj (by simpa using e1) (R.here H h e2)
theorem t2_get_str {x : Str} {i : Int} {c : Nat} (h0 : 0 ≤ i) (hi : i < 2 ^ 63) (hc : x.cps[i.toNat]? = some c) (h : PQ (.str ⟨#[c]⟩) σ) : T2 C k pe getItem VR (.str x) (.int i) σ PQ PE := by
  intro A env s as Q E v u H N r1 r2 R X
  cases r1; cases r2
  refine PyProof.Rows.getItem_str (by simp; omega) (c := c) ?_ (R.toks H h (.str _ _))
  have hlt : i.toNat < x.length := (Array.getElem?_eq_some_iff.mp hc).1
  have := seqIdx_nat hlt
  rw [Int.toNat_of_nonneg h0] at this
  rw [this]; exact hc
theorem t2_get_bytes {b : Array UInt8} {i : Int} {c : UInt8} (hz : b.size ≤ 1099511627776) (h0 : 0 ≤ i) (hc : b[i.toNat]? = some c) (h : PQ (.int c.toNat) σ) : T2 C k pe getItem VR (.bytes b) (.int i) σ PQ PE := by
  intro A env s as Q E v u H N r1 r2 R X
  cases r1; cases r2
  have hlt : i.toNat < b.size := (Array.getElem?_eq_some_iff.mp hc).1
  have e : b = b.toList.toArray := by simp
  rw [e]
  refine getItem_bytes (by simpa using hz) h0 (by simp; omega) ?_
  have : b.toList.getD i.toNat 0 = c := by
    rw [List.getD_eq_getElem?_getD, Array.getElem?_toList, hc]; rfl
  rw [this]
  exact R.toks H h (.int _ _)

/-- a part of a slice -/
def PartR (_ : List Addr) (o : Option Int) (v : Value) : Prop := IsPart v o
def Hp (C : Cx) (k : Nat) (pe : PEnv) (e : Option Expr) (σ : St) (PP : Option Int → St → Prop) (PE : Value → St → Prop) : Prop := Tr C k pe (fun env => evalPart e env) PartR σ PP PE
theorem hp_none {PP : Option Int → St → Prop} (h : PP none σ) : Hp C k pe none σ PP PE := fun A env s as Q E H N R X => by
  show wpAny _ _ (evalPart none env) _ _ _
  rw [evalPart_none]; exact wpAny_pure (R.here H h .none)
theorem hp_some {e : Expr} {PP : Option Int → St → Prop} (h : Hx C k pe e σ (fun p σ₁ => ∃ i, p = .int i ∧ PP (some i) σ₁) PE) : Hp C k pe (some e) σ PP PE := fun A env s as Q E H N R X => by
  show wpAny _ _ (evalPart (some e) env) _ _ _
  rw [evalPart_some]
  refine h A env s as _ E H N (fun v p σ₁ as₁ s₁ h₁ a₁ x₁ r₁ i₁ w₁ => ?_) X
  obtain ⟨i, rfl, h₁⟩ := h₁
  cases r₁
  exact R _ _ σ₁ as₁ s₁ h₁ a₁ x₁ (.int _ _) i₁ w₁

/-- a slice of a value, by the slice object that is just made -/
def TSl (C : Cx) (k : Nat) (pe : PEnv) (p : PV) (lo hi : Option Int) (σ : St) (PQ : PV → St → Prop) (PE : Value → St → Prop) : Prop :=
  ∀ (A : Around) (env : Env) (s : Shared) (as : List Addr) (Q : Value → Shared → Prop) (E : Value → Shared → Prop) (v l u : Value), At C k pe as σ A s → EnvRel as pe env → VR as p v → IsPart l lo → IsPart u hi → Run C as σ s VR PQ Q → Exc C as σ s PE E →
    wpAny (model C.prog C.w) A (getItem v (.ref s.heap.objs.size)) Q E { s with heap := s.heap.push { cls := .type "slice", data := .fields #[l, u, .none] } }

theorem hx_slice {value : Expr} {lower upper : Option Expr} {spos pos : Pos} (h : Hx C k pe value σ (fun p σ₁ => Hp C k pe lower σ₁ (fun lo σ₂ => Hp C k pe upper σ₂ (fun hi σ₃ => GetOk C σ₃ p ∧ TSl C k pe p lo hi σ₃ PQ PE) PE) PE) PE) :
    Hx C k pe (.Subscript value (.Slice lower upper none spos) pos) σ PQ PE := by
  intro A env s as Q E H N R X
  refine Subscript_ (h A env s as _ E H N (fun v p σ₁ as₁ s₁ h₁ a₁ x₁ r₁ i₁ w₁ => ?_) X)
  have H₁ := H.step a₁ x₁ i₁
  have N₁ := N.mono a₁
  refine wpAny_Slice (h₁ A env s₁ as₁ _ E H₁ N₁ (fun l lo σ₂ as₂ s₂ h₂ a₂ x₂ r₂ i₂ w₂ => ?_) (X.go a₁ x₁ w₁))
  have H₂ := H₁.step a₂ x₂ i₂
  have N₂ := N₁.mono a₂
  refine h₂ A env s₂ as₂ _ E H₂ N₂ (fun u hi σ₃ as₃ s₃ h₃ a₃ x₃ r₃ i₃ w₃ => ?_) ((X.go a₁ x₁ w₁).go a₂ x₂ w₂)
  have H₃ := H₂.step a₃ x₃ i₃
  have N₃ := N₂.mono a₃
  rw [evalPart_none]
  refine wpAny_pure ?_
  obtain ⟨hg, h₃⟩ := h₃
  have rv := (r₁.mono a₂).mono a₃
  obtain ⟨T, id, hT, hl⟩ := hg as₃ { s₃ with heap := s₃.heap.push { cls := .type "slice", data := .fields #[l, u, .none] } } v (i₃.push _) rv
  have key := h₃ A env s₃ as₃ Q E v l u H₃ N₃ rv r₂ r₃ (((R.go a₁ x₁ w₁).go a₂ x₂ w₂).go a₃ x₃ w₃) (((X.go a₁ x₁ w₁).go a₂ x₂ w₂).go a₃ x₃ w₃)
  unfold subscriptTail
  refine wpAny_bind ?_
  rw [getitemInPython_of_ne hT.not_modules]
  refine wpAny_bind (wpAny_specialOf hT hl ?_)
  have fin : wpAny (model C.prog C.w) A (subscripted (.Slice lower upper none spos) false v (.ref s₃.heap.objs.size)) (fun r s₄ => wpAny (model C.prog C.w) A (letTemporaryGo value v r >>= fun _ => pure r) Q E s₄) E { s₃ with heap := s₃.heap.push { cls := .type "slice", data := .fields #[l, u, .none] } } := by
    show wpAny _ _ (operate [.ref s₃.heap.objs.size, v] (getItem v (.ref s₃.heap.objs.size))) _ _ _
    exact wpAny_operating (wpAny_mono key (fun r s₃ h₃ => wpAny_bind (wpAny_letTemporaryGo (wpAny_pure h₃))) fun _ _ x => x)
  first
    | exact wpAny_pure (wpAny_bind fin)
    | exact wpAny_bind (wpAny_pure (wpAny_bind fin))
    | exact wpAny_bind fin

theorem tsl_bytes {b : Array UInt8} {lo hi : Option Int} (hz : b.size ≤ 16777216) (h : PQ (.bytes (cutB b lo hi)) σ) : TSl C k pe (.bytes b) lo hi σ PQ PE := by
  intro A env s as Q E v l u H N r pl pu R X
  cases r
  have e : KBy.picked b lo hi = cutB b lo hi := by rw [KBc.picked_eq]; unfold cutB cut; simp
  refine getItem_meets (typeIs_bytes _ _ _) (by decide) FB.slot_bytes_getitem FB.entry_bytes_getitem (FB.args_bytes_getitem_2 _ _) (KBc.meets_slice2 b _ _ pl pu) ⟨Heap.IsSliceOf.new _ _ _ _, Nat.le_trans (KBc.size_picked_le b lo hi) (by rw [sizeLine_eq]; exact hz), fun t' k => ?_⟩
  rw [e]
  exact R.grown H N (fun b o q => Heap.get?_push_of_some _ q) h (.bytes _ _)
theorem tsl_str {x : Str} {lo hi : Option Int} (hz : x.length ≤ 16777216) (h : PQ (.str (cutS x lo hi)) σ) : TSl C k pe (.str x) lo hi σ PQ PE := by
  intro A env s as Q E v l u H N r pl pu R X
  cases r
  rename_i t
  have hz' : x.length ≤ sizeLine := by rw [sizeLine_eq]; exact hz
  have fin : ∀ t' k, Q (.str (Txt.slice x lo hi) t') { s with heap := s.heap.push { cls := .type "slice", data := .fields #[l, u, .none] }, toks := k } := fun t' k => by
    rw [Txt_slice_cut]
    exact R.grown H N (fun b o q => Heap.get?_push_of_some _ q) h (.str _ _)
  cases pl with
  | none =>
    cases pu with
    | none => exact wpAny_getItem_str_slice (l := none) (u := none) (st := none) ⟨_, Heap.get?_push_size _ rfl, rfl, rfl⟩ rfl (post_val_or_str ⟨Nat.le_trans (Txt.slice_le x _ _) hz', fin⟩)
    | int j uj => exact wpAny_getItem_str_slice (l := none) (u := some (j, uj)) (st := none) ⟨_, Heap.get?_push_size _ rfl, rfl, rfl⟩ rfl (post_val_or_str ⟨Nat.le_trans (Txt.slice_le x _ _) hz', fin⟩)
  | int i ui =>
    cases pu with
    | none => exact wpAny_getItem_str_slice (l := some (i, ui)) (u := none) (st := none) ⟨_, Heap.get?_push_size _ rfl, rfl, rfl⟩ rfl (post_val_or_str ⟨Nat.le_trans (Txt.slice_le x _ _) hz', fin⟩)
    | int j uj => exact wpAny_getItem_str_slice (l := some (i, ui)) (u := some (j, uj)) (st := none) ⟨_, Heap.get?_push_size _ rfl, rfl, rfl⟩ rfl (post_val_or_str ⟨Nat.le_trans (Txt.slice_le x _ _) hz', fin⟩)
theorem VRs.drop {as : List Addr} : ∀ {n : Nat} {ps : List PV} {vs : List Value}, VRs as ps vs → VRs as (ps.drop n) (vs.drop n)
  | 0, _, _, h => h
  | n + 1, _, _, .nil => .nil
  | n + 1, _, _, .cons _ h => h.drop
theorem VRs.take {as : List Addr} : ∀ {n : Nat} {ps : List PV} {vs : List Value}, VRs as ps vs → VRs as (ps.take n) (vs.take n)
  | 0, _, _, _ => .nil
  | n + 1, _, _, .nil => .nil
  | n + 1, _, _, .cons r h => .cons r h.take
theorem tsl_list {l : Nat} {xs : List PV} {lo hi : Option Int} (g : σ[l]? = some (.list xs)) (hz : xs.length ≤ 16777216) (h : PQ (.obj σ.length) (σ ++ [.list (cut xs lo hi)])) : TSl C k pe (.obj l) lo hi σ PQ PE := by
  intro A env s as Q E v l' u H N r pl pu R X
  cases r with
  | obj _ a e =>
    obtain ⟨vs, hl, rv⟩ := H.inv.atRef g e
    have kk : ∀ b o, s.heap.get? b = some o → (s.heap.push { cls := .type "slice", data := .fields #[l', u, .none] }).get? b = some o := fun b o q => Heap.get?_push_of_some _ q
    have H' : At C k pe as σ A { s with heap := s.heap.push { cls := .type "slice", data := .fields #[l', u, .none] } } := ⟨H.ok, H.a, H.inv.push _, H.frs⟩
    have w : Go as s as { s with heap := s.heap.push { cls := .type "slice", data := .fields #[l', u, .none] } } := Go.keeps (tk := s.toks) kk trivial fun a h1 h2 => absurd h1 h2
    have R' := R.go (List.prefix_refl _) (Ext.refl _) w
    refine wpAny_getItem_list_slice (hl.at fun o q => kk _ _ q).isList (Heap.IsSliceOf.new _ _ _ _) pl pu .none (by simp) ?_ (by rw [sizeLine_eq]; simpa [rv.length] using hz)
    refine R'.newObj (po := .list (cut xs lo hi)) (tk := s.toks) H' h ?_
    have e2 : slicePick vs.toArray lo hi none = (cut vs lo hi).toArray := by rw [slicePick_plain]; unfold cut; simp
    refine ⟨cut vs lo hi, ?_, ?_⟩
    · rw [← e2]
      exact ⟨_, Heap.get?_push_size _ rfl⟩
    · unfold cut
      rw [rv.length]
      exact VRs.take (VRs.drop (rv.mono (List.prefix_append _ _)))
end
end Mine

set_option maxRecDepth 100000
set_option autoImplicit false
set_option linter.unusedVariables false
set_option linter.unusedSectionVars false
set_option linter.unusedSimpArgs false
namespace Mine
open PySem PySem.W PyProof.Rows PySem.Calls PySem.SeqAt

theorem bmi_no_bytes : typeLookup (.type "int") "__bytes__" = pure none := by rw [typeLookup_type, builtinLookup_eq_fast]; kernel_rfl
theorem bytes_int_tree {i : Int} {t : Tok} (h0 : 0 ≤ i) (hn : i ≤ 16777216) {M : Model} {A : Around} {E : Value → Shared → Prop} {s : Shared} {P : Fin → Shared → Prop} (h : P (.done (.ret (.bytes (Array.replicate i.toNat 0) s.toks))) { s with toks := s.toks + 1 }) :
    wpAny M A (Builtin.«bytes.__new__» ⟨[.type "bytes", .int i t], []⟩) P E s := by
  unfold Builtin.«bytes.__new__»
  refine wpAny_bind (wpAny_of_eq (a := true) rfl ?_)
  refine bm_if_false rfl ?_
  refine wpAny_bind (wpAny_of_eq PySem.F.bm_sub ?_)
  refine bm_if_false rfl ?_
  refine wpAny_bind (wpAny_of_eq (PySem.F.bm_bind _) ?_)
  refine wpAny_bind (wpAny_of_eq (a := ()) rfl ?_)
  refine wpAny_bind (wpAny_of_eq (a := ()) rfl ?_)
  refine bm_if_false rfl ?_
  have hT : s.TypeIs (.int i t) "int" := typeIs_int s i t
  refine wpAny_bind (wpAny_specialOf hT bmi_no_bytes ?_)
  refine wpAny_bind (wpAny_of_eq (a := false) rfl ?_)
  refine bm_if_false rfl ?_
  refine wpAny_bind (wpAny_specialOf hT PySem.F.slot_int_index.lookup ?_)
  refine bm_if_false rfl ?_
  refine wpAny_bind (wpAny_attempt (wpAny_of_eq (a := i) rfl ?_))
  have h1 : Builtin.Bytes.fitsIndex i = true := by simp only [Builtin.Bytes.fitsIndex, Bool.and_eq_true, decide_eq_true_eq]; omega
  refine bm_if_false (by rw [h1]; rfl) ?_
  refine wpAny_ite_false (decide_eq_false (show ¬ (i < 0) by omega)) ?_
  refine wpAny_ite_false (decide_eq_false (show ¬ (i > 2 ^ 63 - 34) by omega)) ?_
  refine bm_if_false (by unfold Builtin.Bytes.tooLong; rw [sizeLine_eq]; exact decide_eq_false (by omega)) ?_
  refine wpAny_bind (wpAny_rule ?_)
  refine wpAny_bind ?_
  refine wpAny_mkBytes ?_ (by rw [sizeLine_eq, Array.size_replicate]; omega)
  show wpAny _ _ (if (Value.type "bytes" == Value.type "bytes") = true then _ else _) _ _ _
  refine bm_if_true (by decide) ?_
  first
    | exact wpAny_pure h
    | exact wpAny_bind (wpAny_pure (wpAny_pure h))
theorem bytes_int_meets {i : Int} {t : Tok} (h0 : 0 ≤ i) (hn : i ≤ 16777216) : Meets (Builtin.«bytes.__new__» ⟨[.type "bytes", .int i t], []⟩) (fun _ R s => R (.ok (.ret (.bytes (Array.replicate i.toNat 0) s.toks))) { s with toks := s.toks + 1 }) := by
  refine Meets.of_wp fun prog w A R s hS => ?_
  exact bytes_int_tree h0 hn ⟨_, rfl, hS⟩

section
variable {C : Cx} {k : Nat} {pe : PEnv} {σ : St} {PE : Value → St → Prop} {PQ : PV → St → Prop}

theorem tc_bytes_int {i : Int} (h0 : 0 ≤ i) (hz : i ≤ 16777216) (h : PQ (.bytes (Array.replicate i.toNat 0)) σ) : TC C k pe (.lit (.type "bytes")) [.int i] [] σ PQ PE := tc_of1 fun A env s as Q E v H N r R X => by
  cases r
  rename_i t
  have key := bytes_int_meets (i := i) (t := t) h0 hz
  have fin : Q (.bytes (Array.replicate i.toNat 0) s.toks) { s with toks := s.toks + 1 } := R.toks H h (.bytes _ _)
  generalize Array.replicate i.toNat (0 : UInt8) = z at key fin
  refine callType_new PySem.F.bm_called (by decide) (PySem.F.bm_typeCall _) (PySem.F.bm_newCall _) (fun obj => PySem.F.args_object_init_2 obj _) PySem.F.bm_entry key ?_
  exact ⟨PySem.W.typeIs_bytes _ _ _, fin⟩

theorem tc_divmod {a b : Int} (hb : 0 < b) (hbz : b.natAbs.log2 < 9000) (h : PQ (.obj σ.length) (σ ++ [.tuple [.int (a / b), .int (a % b)]])) : TC C k pe (.lit (.builtin "divmod")) [.int a, .int b] [] σ PQ PE := tc_of2 fun A env s as Q E v u H N r1 r2 R X => by
  cases r1; cases r2
  refine divmod_int (by omega) ?_ (.inl (PyProof.noPylong_of_log2 hbz))
  have e1 : a.fdiv b = a / b := Int.fdiv_eq_ediv_of_nonneg _ (by omega)
  have e2 : a.fmod b = a % b := Int.fmod_eq_emod_of_nonneg _ (by omega)
  rw [e1, e2]
  refine R.newObj (po := .tuple [.int (a / b), .int (a % b)]) H h ?_
  exact ⟨[.int (a / b) s.toks, .int (a % b) (s.toks + 1)], ⟨_, Heap.get?_push_size _ rfl, rfl, _, rfl⟩, .cons (.int _ _) (.cons (.int _ _) .nil)⟩
end
end Mine
namespace Mine
open PySem PySem.W PyProof.Rows PySem.Calls PySem.SeqAt
/-! reversed octets -/
theorem rv_slot_init : Slot "reversed" "__init__" "object.__init__" :=
  .of (owner := "object") (n := "__init__") (by rw [typeLookup_type, builtinLookup_eq_fast]; kernel_rfl) (by decide +kernel) (by decide +kernel) (by decide +kernel)
    (by first | exact .inl (by decide +kernel) | exact .inr (by decide +kernel)) (by rw [isSubtype_type]; kernel_rfl)
theorem rv_called : TypeCalled "reversed" "reversed.__new__" "object.__init__" :=
  ⟨by decide +kernel, by decide +kernel, ⟨_, _, PySem.F.mro_reversed⟩, PySem.F.made_reversed, by decide +kernel, PySem.F.sub_reversed_self, rv_slot_init⟩
theorem rv_no_reversed : typeLookup (.type "bytes") "__reversed__" = pure none := by rw [typeLookup_type, builtinLookup_eq_fast]; kernel_rfl
theorem rv_slot_next : Slot "reversed" "__next__" "reversed.__next__" :=
  .of (owner := "reversed") (n := "__next__") (by rw [typeLookup_type, builtinLookup_eq_fast]; kernel_rfl) (by decide +kernel) (by decide +kernel) (by decide +kernel)
    (by first | exact .inl (by decide +kernel) | exact .inr (by decide +kernel)) (by rw [isSubtype_type]; kernel_rfl)
theorem rv_slot_self : Slot "reversed" "__iter__" "reversed.__iter__" :=
  .of (owner := "reversed") (n := "__iter__") (by rw [typeLookup_type, builtinLookup_eq_fast]; kernel_rfl) (by decide +kernel) (by decide +kernel) (by decide +kernel)
    (by first | exact .inl (by decide +kernel) | exact .inr (by decide +kernel)) (by rw [isSubtype_type]; kernel_rfl)
theorem rv_entry_next : entryFor table "reversed.__next__" = some Builtin.«reversed.__next__» := entryFor_of_tree (by kernel_rfl)
theorem rv_entry_self : entryFor table "reversed.__iter__" = some Builtin.«dict_keyiterator.__iter__» := entryFor_alias (id' := "dict_keyiterator.__iter__") (by kernel_rfl) rfl (by decide +kernel) (by kernel_rfl)
theorem rv_args_next (a : Value) : argsOk "reversed.__next__" ⟨[a], []⟩ := by unfold argsOk; kernel_rfl
theorem rv_args_self (a : Value) : argsOk "reversed.__iter__" ⟨[a], []⟩ := by unfold argsOk; kernel_rfl
theorem rv_sub_dict : isSubtype (.type "bytes") (.type "dict") = pure false := by rw [isSubtype_type]; kernel_rfl
end Mine

set_option maxRecDepth 100000
set_option autoImplicit false
set_option linter.unusedVariables false
set_option linter.unusedSectionVars false
set_option linter.unusedSimpArgs false
namespace Mine
open PySem PySem.W PyProof.Rows PySem.Calls PySem.SeqAt

def rvObj (b : Array UInt8) (t : Tok) (i : Int) : Obj := { cls := .type "reversed", data := .fields #[.bytes b t, rawInt i] }
def IsRev (h : Heap) (a : Addr) (b : Array UInt8) (t : Tok) (i : Int) : Prop := ∃ o, h.get? a = some o ∧ o.cls = .type "reversed" ∧ o.data = .fields #[.bytes b t, rawInt i]
theorem IsRev.typeIs {s : Shared} {a : Addr} {b : Array UInt8} {t : Tok} {i : Int} (x : IsRev s.heap a b t i) : s.TypeIs (.ref a) "reversed" := let ⟨o, ho, hc, _⟩ := x; ⟨o, ho, hc⟩

section
variable {prog : Program} {w : World} {A : Around} {E : Value → Shared → Prop} {s : Shared}

theorem rv_code_new {b : Array UInt8} {t : Tok} {Q₁ : Value → Shared → Prop} (hz : b.size ≤ 1099511627776)
    (h : ∀ tk, Q₁ (.ref s.heap.objs.size) { s with heap := s.heap.push (rvObj b t ((b.size : Int) - 1)), toks := tk }) :
    codeAny (model prog w) A (.call (.builtin "reversed.__new__") ⟨[.type "reversed", .bytes b t], []⟩) (wants Q₁ E) s := by
  refine codeAny_of_tree ?_
  show wpAny _ A.in1 (do checkBuiltinCall "reversed.__new__" ⟨[.type "reversed", .bytes b t], []⟩; again (.builtin "reversed.__new__" ⟨[.type "reversed", .bytes b t], []⟩)) _ _ s
  refine wpAny_bind (wpAny_of_eq (PySem.F.newCall_reversed_1 _) (wpAny_pure ⟨plainId_quiet PySem.F.plain_reversed_new _, codeAny_builtin PySem.F.entry_reversed_new ?_⟩))
  rw [Around.under_plainId PySem.F.plain_reversed_new _]
  unfold Builtin.«reversed.__new__»
  refine wpAny_bind (wpAny_of_eq (newClass_reversed _) ?_)
  try dsimp only
  refine wpAny_bind (wpAny_of_eq (a := ()) (by first | rfl | kernel_rfl) ?_)
  refine wpAny_bind (wpAny_of_eq (a := ()) (by first | rfl | kernel_rfl) ?_)
  try dsimp only
  refine wpAny_bind (wpAny_specialOf (typeIs_bytes s b t) rv_no_reversed ?_)
  try dsimp only
  refine wpAny_bind ?_
  refine wpAny_bind (wpAny_isInstance (typeIs_bytes s b t) rv_sub_dict ?_)
  refine bm_if_false rfl ?_
  refine wpAny_bind (wpAny_specialOf (typeIs_bytes s b t) FB.slot_bytes_getitem.lookup ?_)
  refine bm_if_true (by decide +kernel) ?_
  refine wpAny_pure ?_
  refine bm_if_false rfl ?_
  refine wpAny_bind (len_bytes hz ?_)
  refine wpAny_bind (wpAny_of_eq (a := some (b.size : Int)) rfl ?_)
  refine wpAny_bind ?_
  show wpAny _ _ (newObj (.type "reversed") (.fields [.bytes b t, rawInt ((b.size : Int) - 1)].toArray)) _ _ _
  exact wpAny_newObj_type (wpAny_pure (h _))

theorem rv_call {b : Array UInt8} {t : Tok} {Q : Value → Shared → Prop} (hz : b.size ≤ 1099511627776)
    (h : ∀ tk, Q (.ref s.heap.objs.size) { s with heap := s.heap.push (rvObj b t ((b.size : Int) - 1)), toks := tk }) : wpAny (model prog w) A (call (.type "reversed") [.bytes b t]) Q E s := by
  refine callType_codes (Q₁ := fun obj s₁ => s₁.TypeIs obj "reversed" ∧ Q obj s₁) rv_called (PySem.F.typeCall_reversed_1 _) PySem.F.entry_object_init
    (rv_code_new hz fun tk => ⟨⟨_, Heap.get?_push_size _ rfl, rfl⟩, h tk⟩) fun obj s₁ h₁ => ?_
  exact ⟨h₁.1, PySem.F.args_object_init_2 obj _, object_init_meets rv_called.init.lookup rv_called.made (by decide) prog w A.in1 _ s₁ ⟨h₁.1, rfl, h₁.2⟩⟩

theorem rv_self {it : Addr} {b : Array UInt8} {t : Tok} {i : Int} {Q : Value → Shared → Prop} (hit : IsRev s.heap it b t i) (h : Q (.ref it) s) : wpAny (model prog w) A (pyIter (.ref it)) Q E s := by
  refine wpAny_pyIter_slot hit.typeIs rv_slot_self (wpAny_call_entry rv_slot_self hit.typeIs rv_entry_self ?_ (rv_args_self _))
  show wpAny _ _ (ret (.ref it)) _ _ s
  exact wpAny_pure ⟨_, rfl, "reversed", _, hit.typeIs, rv_slot_next.lookup, h⟩

theorem rv_next_item {it : Addr} {b : Array UInt8} {t : Tok} {i : Nat} {c : UInt8} {Q : Option Value → Shared → Prop} (hz : b.size ≤ 1099511627776) (hit : IsRev s.heap it b t (i : Int)) (hx : b[i]? = some c)
    (hQ : ∀ h' u tk, IsRev h' it b t ((i : Int) - 1) → Heap.SameBut it s.heap h' → Q (some (.int (c.toNat : Int) u)) { s with heap := h', toks := tk }) : wpAny (model prog w) A (pyNext (.ref it)) Q E s := by
  obtain ⟨o, ho, hc, hd⟩ := id hit
  unfold pyNext
  refine wpAny_bind (wpAny_attempt (wpAny_callSpecial?_slot (name := PySem.Str.ofString "__next__") hit.typeIs rv_slot_next
    (wpAny_call_entry rv_slot_next hit.typeIs rv_entry_next ?_ (rv_args_next _))))
  unfold Builtin.«reversed.__next__»
  refine wpAny_bind (wpAny_of_eq (a := (Value.ref it, [])) rfl ?_)
  try dsimp only
  refine wpAny_bind (wpAny_field ho hd (x := .bytes b t) rfl ?_)
  refine wpAny_bind (wpAny_field ho hd (x := rawInt (i : Int)) rfl ?_)
  show wpAny _ _ (if (i : Int) < 0 then _ else _) _ _ s
  rw [if_neg (by omega)]
  refine wpAny_bind (wpAny_specialOf (typeIs_bytes s b t) FB.slot_bytes_getitem.lookup ?_)
  refine bm_if_false rfl ?_
  refine wpAny_bind (wpAny_mkInt ?_)
  refine wpAny_bind (wpAny_attempt ?_)
  have hlt : i < b.size := (Array.getElem?_eq_some_iff.mp hx).1
  have e : b = b.toList.toArray := by simp
  have hd' : b.toList.getD (i : Int).toNat 0 = c := by
    rw [Int.toNat_natCast, List.getD_eq_getElem?_getD, Array.getElem?_toList, hx]; rfl
  have key : wpAny (model prog w) A.in1 (getItem (.bytes b t) (.int (i : Int) s.toks)) (fun v s' => v = .int (c.toNat : Int) (s.toks + 1) ∧ s' = { s with toks := s.toks + 1 + 1 }) (fun _ _ => False) { s with toks := s.toks + 1 } := by
    rw [e]
    refine getItem_bytes (s := { s with toks := s.toks + 1 }) (by simpa using hz) (by omega) (by simp; omega) ?_
    rw [hd']; exact ⟨rfl, rfl⟩
  refine wpAny_mono key (fun v s' hv => ?_) fun _ _ x => x.elim
  obtain ⟨rfl, rfl⟩ := hv
  dsimp only
  refine wpAny_bind (wpAny_field (s := { s with toks := s.toks + 1 + 1 }) ho hd (x := rawInt (i : Int)) rfl ?_)
  refine wpAny_bind (wpAny_setField (s := { s with toks := s.toks + 1 + 1 }) ho hd (by simp) (wpAny_pure ⟨_, rfl, wpAny_pure (hQ _ _ _ ?_ (Heap.SameBut.update ..))⟩))
  exact ⟨_, Heap.get?_update_self _ ho (Obj.isFreed_of_fields (Obj.data_mapFields hd _)), (Obj.cls_mapFields ..).trans hc, by
    rw [Obj.data_mapFields hd]; simp⟩

theorem rv_next_end {it : Addr} {b : Array UInt8} {t : Tok} {Q : Option Value → Shared → Prop} (hh : A.handled = none) (hit : IsRev s.heap it b t (-1))
    (hQ : ∀ h', Heap.ExtBut it s.heap h' → Q none { s with heap := h' }) : wpAny (model prog w) A (pyNext (.ref it)) Q E s := by
  obtain ⟨o, ho, hc, hd⟩ := id hit
  unfold pyNext
  refine wpAny_bind (wpAny_attempt (wpAny_callSpecial?_slot (name := PySem.Str.ofString "__next__") hit.typeIs rv_slot_next
    (wpAny_call_entry rv_slot_next hit.typeIs rv_entry_next ?_ (rv_args_next _))))
  unfold Builtin.«reversed.__next__»
  refine wpAny_bind (wpAny_of_eq (a := (Value.ref it, [])) rfl ?_)
  try dsimp only
  refine wpAny_bind (wpAny_field ho hd (x := .bytes b t) rfl ?_)
  refine wpAny_bind (wpAny_field ho hd (x := rawInt (-1)) rfl ?_)
  show wpAny _ _ (if (-1 : Int) < 0 then _ else _) _ _ s
  rw [if_pos (by decide)]
  refine wpAny_bind (wpAny_rule ?_)
  refine wpAny_bind ?_
  refine wpAny_bind (wpAny_setField ho hd (by simp) ?_)
  have hd1 := Obj.data_mapFields hd (·.setIfInBounds 1 (rawInt (-1)))
  have ho1 := Heap.get?_update_self (Obj.mapFields (·.setIfInBounds 1 (rawInt (-1)))) ho (Obj.isFreed_of_fields hd1)
  refine wpAny_setField (s := { s with heap := _ }) ho1 hd1 (by simp) ?_
  refine wpAny_bind ?_
  show wpAny _ _ (newExc (.type "StopIteration") [] >>= _) _ _ _
  refine wpAny_bind ?_
  simp only [newExc, newTuple]
  refine wpAny_bind (wpAny_newObj_type ?_ (by size_fits))
  refine wpAny_bind (m := firstArgMember _ _) (wpAny_of_eq (a := Value.none) (by first | rfl | (simp only [firstArgMember]; rfl)) ?_)
  refine wpAny_newObj_type ?_ (by size_fits)
  simp only [raiseNew]
  refine wpAny_bind (wpAny_handled ?_)
  first | rw [show A.in1.handled = none from hh] | rw [hh]
  refine wpAny_bind (wpAny_pure (wpAny_throw ?_))
  refine wpAny_bind (wpAny_isInstance (T := "StopIteration") (b := true) ⟨_, Heap.get?_push_size _ rfl, rfl⟩ isSubtype_stop ?_)
  exact wpAny_pure (hQ _ ((((Heap.SameBut.update ..).trans (Heap.SameBut.update ..)).extBut.push _).push _))
end

theorem rv_walks {prog : Program} {w : World} {A : Around} (hh : A.handled = none) (I : Addr) (b : Array UInt8) (t : Tok) (hz : b.size ≤ 1099511627776) :
    Walks prog w A I [I] [I] b.size (fun i v => ∃ c u, b.toList.reverse[i]? = some c ∧ v = .int (c.toNat : Int) u) (fun i h => i ≤ b.size ∧ IsRev h I b t ((b.size : Int) - 1 - (i : Int))) where
  sub := fun _ hb => hb
  frame := fun _ _ _ st hk => let ⟨hi, o, ho, r⟩ := st; ⟨hi, o, hk I (by simp) o ho, r⟩
  item := fun i s Q E hi st hQ => by
    have e : (b.size : Int) - 1 - (i : Int) = ((b.size - 1 - i : Nat) : Int) := by omega
    obtain ⟨_, hit⟩ := st
    rw [e] at hit
    have hlt : b.size - 1 - i < b.size := by omega
    have hc : b[b.size - 1 - i]? = some b[b.size - 1 - i] := Array.getElem?_eq_getElem hlt
    refine rv_next_item hz hit hc fun h' u tk hit' hs' => ?_
    have e2 : ((b.size - 1 - i : Nat) : Int) - 1 = (b.size : Int) - 1 - ((i + 1 : Nat) : Int) := by omega
    rw [e2] at hit'
    refine hQ _ h' tk ⟨b[b.size - 1 - i], u, ?_, rfl⟩ ⟨hi, hit'⟩ fun b o hb e => hs'.extBut b o (fun h => hb (by simp [h])) e
    rw [List.getElem?_reverse (by simpa using hi), Array.length_toList, Array.getElem?_toList, hc]
  done := fun s Q E st hQ => by
    obtain ⟨_, hit⟩ := st
    have e : (b.size : Int) - 1 - (b.size : Int) = -1 := by omega
    rw [e] at hit
    exact rv_next_end hh hit fun h' he' => hQ h' s.toks fun b o hb e => he' b o (fun h => hb (by simp [h])) e
  self := fun _ _ _ _ st hQ => rv_self st.2 hQ

section
variable {C : Cx} {k : Nat} {pe : PEnv} {σ : St} {PE : Value → St → Prop} {PQ : PV → St → Prop}

theorem iter_fresh {A : Around} {env : Env} {s s₁ : Shared} {as as₁ : List Addr} {σ₁ : St} {PI : PIt → St → Prop} {Q : Value → Shared → Prop} {j : PIt} {o : Obj} {tk : Nat} (H : At C k pe as σ A s) (N : EnvRel as pe env)
    (R : ∀ (I : Addr) (fp : List Addr) (j : PIt) (σ' : St) (as' : List Addr) (s' : Shared), PI j σ' → j.src σ' → as <+: as' → Ext σ σ' → HInv C.h₀ as' σ' s'.heap → Go as s as' s' → (∀ b ∈ fp, (b ∉ as' ∧ C.h₀.get? b = none) ∧ s.heap.get? b = none) → I ∈ fp → ItIs C fp as' s'.heap I 0 j → Q (.ref I) s')
    (a₁ : as <+: as₁) (i₁ : HInv C.h₀ as₁ σ₁ s₁.heap) (w₁ : Go as s as₁ s₁) (hp : σ <+: σ₁) (h : PI j σ) (src : j.src σ) (hit : ∀ as', ItIs C [s₁.heap.objs.size] as' (s₁.heap.push o) s₁.heap.objs.size 0 j) :
    Q (.ref s₁.heap.objs.size) { s₁ with heap := s₁.heap.push o, toks := tk } := by
  have fr := H.aframe N
  obtain ⟨as'', p1, S1, S3, S4⟩ := sel_core (s' := { s₁ with heap := s₁.heap.push o }) H.inv (SelOk.nil hp) a₁ (i₁.push o)
  rw [List.append_nil] at S4
  refine R s₁.heap.objs.size [s₁.heap.objs.size] j σ as'' { s₁ with heap := s₁.heap.push o, toks := tk } h src p1 (Ext.refl _) S4 ⟨w₁.srel.trans (SRel.heap s₁ _ tk), fun b o' hb e => ?_⟩ (fun b hb => ?_) (by simp) (hit as'')
  · obtain ⟨f1, f2, f3⟩ := w₁.kp b o' hb e
    exact ⟨fun hm => f1 (S3 b hm), f2, Heap.get?_push_of_some _ f3⟩
  · simp at hb; subst hb
    refine ⟨⟨fun hm => Nat.lt_irrefl _ (i₁.lt (S3 _ hm)), none_of_size i₁.size⟩, ?_⟩
    cases q : s.heap.get? s₁.heap.objs.size with
    | none => rfl
    | some o' =>
      by_cases hb : s₁.heap.objs.size ∈ as
      · exact absurd (i₁.lt (pre_mem a₁ hb)) (Nat.lt_irrefl _)
      · exact absurd (Heap.lt_size (w₁.kp _ o' hb q).2.2) (Nat.lt_irrefl _)

/-- for … in reversed(octets) -/
theorem hit_reversed {f e : Expr} {pos : Pos} {PI : PIt → St → Prop}
    (hf : Hx C k pe f σ (fun pf σ₁ => pf = .lit (.type "reversed") ∧ σ₁ = σ) PE)
    (h : Hx C k pe e σ (fun p σ₁ => ∃ b, p = .bytes b ∧ b.size ≤ 1099511627776 ∧ σ <+: σ₁ ∧ PI (.own (b.toList.reverse.map fun c => .int (c.toNat : Int))) σ) PE)
    (hse : ∀ env, starEach [e] env = [(false, eval e env)] := by intro _; rfl)
    (he : ∀ env, eval (.Call f [e] [] pos) env = (do callWith pos (← eval f env) [] (backTo pos (starEach [e] env)) (backToKw pos (keywordEach [] env))) := by intro _; rfl) : Hit C k pe (.Call f [e] [] pos) σ PI PE := by
  intro A env s as Q E H N R X
  rw [he env]
  refine wpAny_bind (hf A env s as _ E H N (fun v p σ₁ as₁ s₁ h₁ a₁ x₁ r₁ i₁ w₁ => ?_) X)
  obtain ⟨rfl, rfl⟩ := h₁
  cases r₁
  have H₁ := H.step a₁ x₁ i₁
  rw [hse env]
  refine PySem.callWith_type (hplain := rfl) (evalArgs_plain (spliced_cons (h A env s₁ as₁ _ E H₁ (N.mono a₁) (fun v p σ₂ as₂ s₂ h₂ a₂ x₂ r₂ i₂ w₂ => spliced_nil ?_) (X.go a₁ x₁ w₁))))
  obtain ⟨b, rfl, hz, hp, hPI⟩ := h₂
  cases r₂
  rename_i t
  show wpAny _ _ (call (.type "reversed") [.bytes b t]) _ _ _
  refine rv_call hz fun tk => ?_
  refine rv_self (b := b) (t := t) (i := (b.size : Int) - 1) ⟨_, Heap.get?_push_size _ rfl, rfl, rfl⟩ ?_
  refine iter_fresh (s₁ := s₂) (j := .own (b.toList.reverse.map fun c => .int (c.toNat : Int))) H N R (a₁.trans a₂) i₂ (w₁.trans w₂) hp hPI trivial fun as' => ?_
  have hlen : b.size = (b.toList.reverse.map fun c => PV.int (c.toNat : Int)).length := by simp
  refine ⟨[s₂.heap.objs.size], _, _, fun A hA => hlen ▸ rv_walks hA _ b t hz, ⟨Nat.zero_le _, _, Heap.get?_push_size _ rfl, rfl, by simp [rvObj]⟩, fun j v ⟨c, u, e1, e2⟩ => ?_, fun i h ⟨_, o, ho, _⟩ b hb => ⟨o, by simp at hb; subst hb; exact ho⟩⟩
  subst e2
  refine ⟨⟨.int c.toNat, ?_, fun as => .int _ _⟩, fun a q => nomatch q⟩
  rw [List.getElem?_map, e1]; rfl
end
end Mine

set_option maxRecDepth 100000
set_option autoImplicit false
set_option linter.unusedVariables false
set_option linter.unusedSectionVars false
set_option linter.unusedSimpArgs false
namespace Mine
open PySem PySem.W PyProof.Rows PySem.Calls PySem.SeqAt
section
variable {C : Cx} {k : Nat} {pe : PEnv} {σ : St} {PE : Value → St → Prop} {PQ : PV → St → Prop}

theorem t2_mul_bytes {b : Array UInt8} {n : Int} (hb : 0 < b.size) (hlo : 2 ≤ n) (hn : n ≤ 1048576) (hs : b.size * n.toNat ≤ 16777216) (h : PQ (.bytes ((List.replicate n.toNat b.toList).flatten).toArray) σ) : T2 C k pe (binaryOp .Mult) VR (.bytes b) (.int n) σ PQ PE := by
  intro A env s as Q E v u H N r1 r2 R X
  cases r1; cases r2
  have e : b = b.toList.toArray := by simp
  rw [e]
  have hb' : b.toList ≠ [] := by
    intro q
    have := congrArg List.length q
    simp at this
    rw [this] at hb
    exact absurd hb (by decide)
  exact bytes_mul_K hb' hlo hn (by simpa using hs) rfl fun t' tk => R.toks H h (.bytes _ _)
theorem t2_iadd_str {a b : Str} (hz : a.length + b.length ≤ 16777216) (h : PQ (.str (a ++ b)) σ) : T2 C k pe (inplaceOp .Add) VR (.str a) (.str b) σ PQ PE := by
  intro A env s as Q E v u H N r1 r2 R X
  cases r1; cases r2
  exact SB.iadd (fun t' tk => R.toks H h (.str _ _)) (by rw [sizeLine_eq]; exact hz)
theorem t2_in_str {a b : Str} (h : PQ (.bool (Txt.contains b a)) σ) : T2 C k pe (compareOp .In) VR (.str a) (.str b) σ PQ PE := by
  intro A env s as Q E v u H N r1 r2 R X
  cases r1; cases r2
  exact SB.contains (R.here H h (.bool _))
theorem t2_notin_str {a b : Str} (h : PQ (.bool (!Txt.contains b a)) σ) : T2 C k pe (compareOp .NotIn) VR (.str a) (.str b) σ PQ PE := by
  intro A env s as Q E v u H N r1 r2 R X
  cases r1; cases r2
  exact SB.notContains (R.here H h (.bool _))
theorem noI_bytes_add : typeLookup (.type "bytes") (dunderI "add") = pure none := by rw [typeLookup_type, builtinLookup_eq_fast]; kernel_rfl
theorem t2_iadd_bytes {b c : Array UInt8} (hz : b.size + c.size ≤ 16777216) (h : PQ (.bytes (b ++ c)) σ) : T2 C k pe (inplaceOp .Add) VR (.bytes b) (.bytes c) σ PQ PE := by
  intro A env s as Q E v u H N r1 r2 R X
  cases r1; cases r2
  rename_i t u
  have fin : ∀ t' k, Q (.bytes (b ++ c) t') { s with toks := k } := fun t' tk => R.toks H h (.bytes _ _)
  refine iconcat_gives (typeIs_bytes s b t) (typeIs_bytes s c u) noI_bytes_add KBy.noFill_bytes_add KBy.seq_bytes_add FB.slot_bytes_add FB.entry_bytes_add (FB.args_bytes_add_2 _ _) (KBy.gives_bytes_add (KBy.tooLong_not hz)) ?_
  by_cases hb : b.isEmpty = true
  · rw [if_pos hb]
    have e : b = #[] := Array.isEmpty_iff.1 hb
    have h' := fin u s.toks
    rw [e, Array.empty_append] at h'
    exact h'
  · rw [if_neg hb]
    by_cases hc : c.isEmpty = true
    · rw [if_pos hc]
      have e : c = #[] := Array.isEmpty_iff.1 hc
      have h' := fin t s.toks
      rw [e, Array.append_empty] at h'
      exact h'
    · rw [if_neg hc]
      exact ⟨by rw [Array.size_append, sizeLine_eq]; exact hz, fin s.toks (s.toks + 1)⟩
theorem tm_str {x name : Str} {id : String} {PM : PV × List PV → St → Prop} (slot : Slot "str" name id) (ty : typeOf (.builtin id) = pure (.type "method_descriptor")) (h : PM (.lit (.builtin id), [.str x]) σ) : TM C k pe name (.str x) σ PM PE := by
  intro pl A env s as Q E v H N r R X
  cases r
  rename_i t
  exact getMethod_builtin (typeIs_str _ _ _) PySem.F.plainAttrs_str slot ty (fun _ e => nomatch e) (R.here H h (.mk (.lit _) (.cons (.str _ _) .nil)))
theorem tc_find {x y : Str} (h : PQ (.int (Txt.find x y)) σ) : TC C k pe (.lit (.builtin "str.find")) [.str x, .str y] [] σ PQ PE := tc_of2 fun A env s as Q E v u H N r1 r2 R X => by
  cases r1; cases r2
  exact SC.find (R.toks H h (.int _ _))
end
end Mine

set_option maxRecDepth 100000
set_option autoImplicit false
set_option linter.unusedVariables false
set_option linter.unusedSectionVars false
set_option linter.unusedSimpArgs false
namespace Mine
open PySem PySem.W PyProof.Rows PySem.Calls PySem.SeqAt
section
variable {C : Cx} {k : Nat} {pe : PEnv} {σ : St} {PE : Value → St → Prop} {PQ : PF → St → Prop}

theorem hs_assign_tuple {es : List Expr} {n : Nat} {tpos pos : Pos} {value : Expr} (h : Hx C k pe value σ (fun p σ₁ => Ha C k pe (.Tuple es n tpos) p σ₁ (fun σ₂ => PQ .next σ₂) PE) PE)
    (hs : ∀ env, swapsWithSole [.Tuple es n tpos] value pos.line env = pure false) (hw : ∀ env, env.scope = pe.scope → swappedStores [.Tuple es n tpos] value env = pure none) : Hs1 C k pe (.Assign [.Tuple es n tpos] value pos) σ PQ PE := by
  intro A env s as Q E H N R X
  refine Assign_Tuple (h A env s as _ E H N (fun v p σ₁ as₁ s₁ h₁ a₁ x₁ r₁ i₁ w₁ => ?_) X) (hs env) (hw env N.scope)
  exact h₁ A env s₁ as₁ _ E v (H.step a₁ x₁ i₁) (N.mono a₁) r₁ (fun _ _ σ₂ as₂ s₂ h₂ a₂ x₂ _ i₂ w₂ => R _ _ σ₂ as₂ s₂ h₂ (a₁.trans a₂) (x₁.trans x₂) .next i₂ (w₁.trans w₂)) (X.go a₁ x₁ w₁)

def BindL (pe : PEnv) (PS : St → Prop) : List Str → List PV → St → Prop
  | [], [], σ => PS σ
  | x :: xs, p :: ps, σ => ∃ σ', BindIs pe σ x p σ' ∧ BindL pe PS xs ps σ'
  | _, _, _ => False
theorem wp_bindL {PS : St → Prop} : ∀ {xs : List Str} {ps : List PV} {σ : St}, BindL pe PS xs ps σ → ∀ {A : Around} {env : Env} {s : Shared} {as : List Addr} {Q : Unit → Shared → Prop} {E : Value → Shared → Prop} {vs : List Value},
    At C k pe as σ A s → EnvRel as pe env → VRs as ps vs → Run C as σ s UR (fun _ σ' => PS σ') Q → wpAny (model C.prog C.w) A (assignInOrder (xs.map fun n => bindName env n) vs) Q E s
  | [], [], σ, h, A, env, s, as, Q, E, vs, H, N, r, R => by
    cases r
    exact wpAny_pure (R.here H (b := ()) h trivial)
  | x :: xs, p :: ps, σ, ⟨σ', hb, h⟩, A, env, s, as, Q, E, vs, H, N, r, R => by
    cases r with
    | cons r rs =>
      refine wpAny_bind (wpAny_holding (wpAny_bindName (t_store (PQ := fun _ σ₁ => σ₁ = σ') hb rfl H N r (fun _ _ σ₁ as₁ s₁ h₁ a₁ x₁ _ i₁ w₁ => ?_))))
      subst h₁
      exact wp_bindL h (H.step a₁ x₁ i₁) (N.mono a₁) (rs.mono a₁) (R.go a₁ x₁ w₁)
  | [], _ :: _, _, h, _, _, _, _, _, _, _, _, _, _, _ => h.elim
  | _ :: _, [], _, h, _, _, _, _, _, _, _, _, _, _, _ => h.elim
theorem VRs.reverse {as : List Addr} {ps : List PV} {vs : List Value} (h : VRs as ps vs) : VRs as ps.reverse vs.reverse := by
  induction h with
  | nil => exact .nil
  | cons r _ ih => rw [List.reverse_cons, List.reverse_cons]; exact ih.append (.cons r .nil)

theorem hs_swapped {names : List Str} {es : List Expr} {n : Nat} {tpos pos : Pos} {value : Expr} (hcl : pe.clean = true)
    (h : Hx C k pe value σ (fun p σ₁ => ∃ t ps, p = .obj t ∧ σ₁[t]? = some (.tuple ps) ∧ names.length = ps.length ∧ BindL pe (fun σ₂ => PQ .next σ₂) names.reverse ps.reverse σ₁) PE)
    (hs : ∀ env, swapsWithSole [.Tuple es n tpos] value pos.line env = pure false) (hw : ∀ env, env.scope = pe.scope → swappedStores [.Tuple es n tpos] value env = pure (some names)) : Hs1 C k pe (.Assign [.Tuple es n tpos] value pos) σ PQ PE := by
  intro A env s as Q E H N R X
  refine Assign_Tuple_swapped (h A env s as _ E H N (fun v p σ₁ as₁ s₁ h₁ a₁ x₁ r₁ i₁ w₁ => ?_) X) (hs env) (hw env N.scope)
  obtain ⟨t, ps, rfl, g, hlen, hb⟩ := h₁
  have H₁ := H.step a₁ x₁ i₁
  have N₁ := N.mono a₁
  cases r₁ with
  | obj _ a e =>
    obtain ⟨vs, ht, rv⟩ := i₁.atRef g e
    have hl : names.length = vs.toArray.size := by simp [hlen, rv.length]
    rw [hl]
    refine wpAny_unpackItems_tuple (H.a.clean hcl) ht fun h' hx => ?_
    have kk : ∀ b o, s₁.heap.get? b = some o → h'.get? b = some o := fun b o e => hx b o (Nat.ne_of_lt (Heap.lt_size e)) e
    have w : Go as₁ s₁ as₁ { s₁ with heap := h', toks := s₁.toks } := Go.keeps kk trivial fun a h1 h2 => absurd h1 h2
    have inv' : HInv C.h₀ as₁ σ₁ h' := i₁.off (fp := []) (by simp) (fun b o _ e => kk b o e) (H₁.aframe N₁)
    refine wp_bindL (s := { s₁ with heap := h', toks := s₁.toks }) hb ⟨H₁.ok, H₁.a, inv', H₁.frs⟩ N₁ (by simpa using VRs.reverse rv) (fun _ _ σ₂ as₂ s₂ h₂ a₂ x₂ _ i₂ w₂ => ?_)
    exact R _ _ σ₂ as₂ s₂ h₂ (a₁.trans a₂) (x₁.trans x₂) .next i₂ (w₁.trans (w.trans w₂))

/-- a list's place is set -/
theorem setItem_plain {prog : Program} {w : World} {A : Around} {E : Value → Shared → Prop} {s : Shared} {l : Addr} {items : Array Value} {i : Int} {t : Tok} {v : Value} {Q : Unit → Shared → Prop} (hl : s.heap.PlainList l items)
    (h0 : 0 ≤ i) (hfit : i < 2 ^ 63) (hn : i < items.size)
    (hQ : ∀ h', h'.PlainList l (items.setIfInBounds i.toNat v) → Heap.SameBut l s.heap h' → Q () { s with heap := h' }) :
    wpAny (model prog w) A (setItem (.ref l) (.int i t) v) Q E s := by
  obtain ⟨n, ho⟩ := hl
  have hT : s.TypeIs (.ref l) "list" := ⟨_, ho, rfl⟩
  unfold setItem
  try with_reducible refine wpAny_holding ?_
  first | refine wpAny_bind (wpAny_pure ?_) | skip
  refine wpAny_bind (wpAny_sequenceKey hT (by decide) ?_)
  refine wpAny_bind (wpAny_callSpecial?_slot (name := Str.ofString "__setitem__") hT slot_list_setitem
    (wpAny_call_entry slot_list_setitem hT entry_list_setitem ?_ (args_list_setitem _ _ _)))
  show wpAny _ _ (Builtin.List.listSubscript? (.int i t) >>= _) _ _ s
  refine wpAny_bind (wpAny_listSubscript_int (fitsIndex_of h0 hfit) ?_)
  clear hfit
  obtain ⟨j, rfl⟩ := Int.eq_ofNat_of_zero_le h0
  have hj : j < items.size := by omega
  have hx' : items[j]? = some items[j] := Array.getElem?_eq_getElem hj
  show wpAny _ _ ((seqItemAt l j >>= fun r => pure (r.map (j, ·))) >>= _) _ _ s
  refine wpAny_bind (wpAny_bind (wpAny_seqItemAt ho rfl (wpAny_pure ?_)))
  rw [hx']
  show wpAny _ _ (setSeqItemAt l j v >>= _) _ _ s
  have hfin : (s.heap.update l (Obj.mapSeq (·.setIfInBounds j v))).PlainList l (items.setIfInBounds j v) := by
    obtain ⟨n', hd'⟩ := Obj.data_mapSeq (o := { cls := .type "list", data := .seq items n }) rfl (·.setIfInBounds j v)
    refine ⟨n', ?_⟩
    rw [Heap.get?_update_self _ ho (Obj.isFreed_of_seq hd')]
    congr 1
    simp only [Obj.mapSeq] at hd' ⊢
    simp_all
  refine wpAny_bind (wpAny_setSeqItemAt ho rfl ?_)
  first
    | exact wpAny_bind (wpAny_pure (wpAny_pure ⟨.none, rfl, wpAny_pure (hQ _ hfin (Heap.SameBut.update ..))⟩))
    | exact wpAny_pure ⟨.none, rfl, wpAny_pure (hQ _ hfin (Heap.SameBut.update ..))⟩
theorem VRs.set {as : List Addr} : ∀ {i : Nat} {ps : List PV} {vs : List Value} {p : PV} {v : Value}, VRs as ps vs → VR as p v → VRs as (ps.set i p) (vs.set i v)
  | 0, _, _, _, _, .nil, _ => .nil
  | _ + 1, _, _, _, _, .nil, _ => .nil
  | 0, _, _, _, _, .cons _ h, r => .cons r h
  | i + 1, _, _, _, _, .cons r0 h, r => .cons r0 (h.set r)
theorem hs_setitem {o i value : Expr} {pos' pos : Pos}
    (h : Hx C k pe value σ (fun p σ₁ => Hx C k pe o σ₁ (fun q σ₂ => Hx C k pe i σ₂ (fun r σ₃ => ∃ (l : Nat) (xs : List PV) (j : Int), q = .obj l ∧ r = .int j ∧ σ₃[l]? = some (.list xs) ∧ 0 ≤ j ∧ j < xs.length ∧ j < 2 ^ 63 ∧ PQ .next (σ₃.set l (.list (xs.set j.toNat p)))) PE) PE) PE)
    (hs : ∀ env, swapsWith value (some (.Subscript o i pos')) pos.line env = pure false := by intro _; rfl) : Hs1 C k pe (.Assign [.Subscript o i pos'] value pos) σ PQ PE := by
  intro A env s as Q E H N R X
  refine wpAny_Assign_Subscript (h A env s as _ E H N (fun v p σ₁ as₁ s₁ h₁ a₁ x₁ r₁ i₁ w₁ => ?_) X) (hs env)
  have H₁ := H.step a₁ x₁ i₁
  have N₁ := N.mono a₁
  refine h₁ A env s₁ as₁ _ E H₁ N₁ (fun ov q σ₂ as₂ s₂ h₂ a₂ x₂ r₂ i₂ w₂ => ?_) (X.go a₁ x₁ w₁)
  have H₂ := H₁.step a₂ x₂ i₂
  have N₂ := N₁.mono a₂
  refine h₂ A env s₂ as₂ _ E H₂ N₂ (fun iv r σ₃ as₃ s₃ h₃ a₃ x₃ r₃ i₃ w₃ => ?_) ((X.go a₁ x₁ w₁).go a₂ x₂ w₂)
  obtain ⟨l, xs, j, rfl, rfl, g, h0, hj, hjb, hq⟩ := h₃
  cases r₃
  have r₂' := r₂.mono a₃
  cases r₂' with
  | obj _ a e =>
    obtain ⟨vs, hl, rv⟩ := i₃.atRef g e
    refine setItem_plain hl h0 hjb (by simpa [rv.length] using hj) fun h' hl' hs' => ?_
    refine R _ _ (σ₃.set l (.list (xs.set j.toNat p))) as₃ _ hq (a₁.trans (a₂.trans a₃)) (((x₁.trans x₂).trans x₃).trans (Ext.set g fun _ _ z => nomatch z)) .next (i₃.put e hs' ⟨vs.set j.toNat v, by simpa using hl', VRs.set rv (r₁.mono (a₂.trans a₃))⟩ (fun _ _ z => nomatch z)) (((w₁.trans w₂).trans w₃).trans (Go.put (tk := s₃.toks) (mem_of_get? e) hs'))

theorem tc_to_bytes' {PQ : PV → St → Prop} {i m : Int} (h0 : 0 ≤ i) (hm0 : 0 ≤ m) (hm : m ≤ 65536) (hn : i < 256 ^ m.toNat) (h : PQ (.bytes (toB i.toNat m.toNat)) σ) : TC C k pe (.lit (.builtin "int.to_bytes")) [.int i, .int m, .str "big"] [] σ PQ PE := by
  obtain ⟨n, rfl⟩ := Int.eq_ofNat_of_zero_le h0
  obtain ⟨j, rfl⟩ := Int.eq_ofNat_of_zero_le hm0
  rw [Int.toNat_natCast] at h hn
  rw [Int.toNat_natCast] at h
  exact tc_to_bytes (by omega) (by exact_mod_cast hn) h
/-- an exact number of a value: all the bits -/
theorem mulOk {a b : Int} (ha : a.natAbs < 2 ^ (2 ^ 20)) (hb : b.natAbs < 2 ^ (2 ^ 20)) : IntMulOk a b := .of_bits (PySem.intBits_le_iff.mpr ha) (PySem.intBits_le_iff.mpr hb)

theorem mulOk' {a b : Int} {m n : Nat} (ha : a.natAbs < 2 ^ m) (hb : b.natAbs < 2 ^ n) (hm : m ≤ 1048576) (hn : n ≤ 1048576) : IntMulOk a b :=
  .of_bits (Nat.le_trans (PySem.intBits_le_iff.mpr ha) (by omega)) (Nat.le_trans (PySem.intBits_le_iff.mpr hb) (by omega))
theorem bnd_mono {a m n : Nat} (h : a < 2 ^ m) (hmn : m ≤ n) : a < 2 ^ n := Nat.lt_of_lt_of_le h (Nat.pow_le_pow_right (by decide) hmn)
theorem bnd_mul {a b : Int} {m n : Nat} (ha : a.natAbs < 2 ^ m) (hb : b.natAbs < 2 ^ n) : (a * b).natAbs < 2 ^ (m + n) := by
  rw [Int.natAbs_mul, Nat.pow_add]
  exact Nat.mul_lt_mul'' ha hb
theorem bnd_add {a b : Int} {m n : Nat} (ha : a.natAbs < 2 ^ m) (hb : b.natAbs < 2 ^ n) : (a + b).natAbs < 2 ^ (max m n + 1) := by
  have h1 := bnd_mono ha (Nat.le_max_left m n)
  have h2 := bnd_mono hb (Nat.le_max_right m n)
  have h3 := Int.natAbs_add_le a b
  rw [Nat.pow_succ]; omega
theorem bnd_fromB {b : Array UInt8} {m : Nat} (h : b.size ≤ m) : ((fromB b : Nat) : Int).natAbs < 2 ^ (8 * m) := by
  rw [Int.natAbs_natCast]
  refine Nat.lt_of_lt_of_le (fromB_lt b) ?_
  have e2 : (256 : Nat) = 2 ^ 8 := by decide
  rw [e2, ← Nat.pow_mul]
  exact Nat.pow_le_pow_right (by decide) (by omega)
theorem t2_mod_pos {PQ : PV → St → Prop} {a b : Int} (hb : 0 < b) (h : PQ (.int (a % b)) σ) : T2 C k pe (binaryOp .Mod) VR (.int a) (.int b) σ PQ PE := by
  refine t2_mod_int (by omega) ?_
  rw [Int.fmod_eq_emod_of_nonneg _ (by omega)]; exact h
theorem t2_div_pos {PQ : PV → St → Prop} {a b : Int} (hb : 0 < b) (hp : b.natAbs.log2 < 9000) (h : PQ (.int (a / b)) σ) : T2 C k pe (binaryOp .FloorDiv) VR (.int a) (.int b) σ PQ PE := by
  refine t2_div_int (by omega) hp ?_
  rw [Int.fdiv_eq_ediv_of_nonneg _ (by omega)]; exact h
theorem t2_shr_pos {PQ : PV → St → Prop} {a n : Int} (hn : 0 ≤ n) (h : PQ (.int (a / 2 ^ n.toNat)) σ) : T2 C k pe (binaryOp .RShift) VR (.int a) (.int n) σ PQ PE := by
  refine t2_shr_int hn ?_
  rw [Int.fdiv_eq_ediv_of_nonneg _ (Int.le_of_lt (Int.pow_pos (by decide)))]; exact h
end
end Mine

set_option maxRecDepth 100000
set_option autoImplicit false
set_option linter.unusedVariables false
namespace Mine
open PySem PySem.W PyProof.Rows PySem.Calls PySem.SeqAt
/-- a def of a text, by its name -/
structure DefT where
  params : Arguments
  body : List Stmt
  scope : Scope
def getDef (x : Str) : List Stmt → DefT
  | [] => ⟨⟨[], [], none, [], [], none, []⟩, [], { kind := .function, names := [], isGenerator := false, isCoroutine := false }⟩
  | .FunctionDef n args body _ _ _ scope _ _ _ :: r => if n == x then ⟨args, body, scope⟩ else getDef x r
  | _ :: r => getDef x r
def getCls (x : Str) : List Stmt → List Stmt
  | [] => []
  | .ClassDef n _ _ body _ _ _ _ _ _ _ :: r => if n == x then body else getCls x r
  | _ :: r => getCls x r
/-- what a global name holds -/
def gval (K : Frag) (x : Str) : Value := match nsIn K mainGlobals x with | some (some v) => v | _ => .none
def gaddr (K : Frag) (x : Str) : Addr := match gval K x with | .ref a => a | _ => 0

def fdAt (K : Frag) (a : Addr) : Option FuncData := match K.lookup a with
  | some ⟨_, _, .func fd, _⟩ => some fd
  | _ => none
def fdParts (fd : FuncData) : Arguments × FuncBody × Scope × Addr × List (Str × Addr) × Value × Addr := (fd.params, fd.body, fd.scope, fd.globals, fd.closure, fd.defaults, fd.builtins)
theorem funAt_fd {K : Frag} {h₀ : Heap} (X : K.In h₀) {f : Addr} {d : DefT} {dV : Value} (e : (fdAt K f).map fdParts = some (d.params, .stmts d.body, d.scope, mainGlobals, [], dV, builtinsNs)) (hc : (fdAt K f).map (fun fd => codeIn K fd.code fd.qualname) = some true) :
    FunAt h₀ f d.params d.body d.scope dV := by
  unfold fdAt at e hc
  split at e
  · rename_i oc od fd osl q
    rw [q] at hc
    simp only [Option.map_some, Option.some.injEq, fdParts, Prod.mk.injEq] at e hc
    obtain ⟨e1, e2, e3, e4, e5, e6, e7⟩ := e
    exact ⟨_, fd, X _ _ q, rfl, e1, e2, e3, e4, e5, e6, e7, codeRec_of X hc⟩
  · cases e

section
variable {C : Cx} {k : Nat} {pe : PEnv} {σ : St} {PE : Value → St → Prop}
theorem bindOk1 {params : Arguments} {dV : Value} {p : PV} {x : Str}
    (h : ∀ name qual body scope g cl kV doc pm an cdv ct bn v, bindArgs ⟨name, qual, params, body, scope, g, cl, dV, kV, doc, pm, an, cdv, ct, bn⟩ ⟨[v], []⟩ = pure [(x, v)]) : BindOk C σ params dV [p] [] [(x, p)] := by
  intro as s vs ks name qual body scope g cl kV doc pm an cdv ct bn O H rs rk
  cases rk
  cases rs with
  | cons r rs => cases rs; exact ⟨_, BindsTo.of_eq (h _ _ _ _ _ _ _ _ _ _ _ _ _ _), .cons r .nil⟩
theorem bindOk2 {params : Arguments} {dV : Value} {p q : PV} {x y : Str}
    (h : ∀ name qual body scope g cl kV doc pm an cdv ct bn v u, bindArgs ⟨name, qual, params, body, scope, g, cl, dV, kV, doc, pm, an, cdv, ct, bn⟩ ⟨[v, u], []⟩ = pure [(x, v), (y, u)]) : BindOk C σ params dV [p, q] [] [(x, p), (y, q)] := by
  intro as s vs ks name qual body scope g cl kV doc pm an cdv ct bn O H rs rk
  cases rk
  cases rs with
  | cons r rs =>
    cases rs with
    | cons r2 rs => cases rs; exact ⟨_, BindsTo.of_eq (h _ _ _ _ _ _ _ _ _ _ _ _ _ _ _), .cons r (.cons r2 .nil)⟩
theorem bindOk3 {params : Arguments} {dV : Value} {p q r : PV} {x y z : Str}
    (h : ∀ name qual body scope g cl kV doc pm an cdv ct bn v u w, bindArgs ⟨name, qual, params, body, scope, g, cl, dV, kV, doc, pm, an, cdv, ct, bn⟩ ⟨[v, u, w], []⟩ = pure [(x, v), (y, u), (z, w)]) : BindOk C σ params dV [p, q, r] [] [(x, p), (y, q), (z, r)] := by
  intro as s vs ks name qual body scope g cl kV doc pm an cdv ct bn O H rs rk
  cases rk
  cases rs with
  | cons r rs =>
    cases rs with
    | cons r2 rs =>
      cases rs with
      | cons r3 rs => cases rs; exact ⟨_, BindsTo.of_eq (h _ _ _ _ _ _ _ _ _ _ _ _ _ _ _ _), .cons r (.cons r2 (.cons r3 .nil))⟩

theorem bindOk4 {params : Arguments} {dV : Value} {p q r p' : PV} {x y z x' : Str}
    (h : ∀ name qual body scope g cl kV doc pm an cdv ct bn v u w v', bindArgs ⟨name, qual, params, body, scope, g, cl, dV, kV, doc, pm, an, cdv, ct, bn⟩ ⟨[v, u, w, v'], []⟩ = pure [(x, v), (y, u), (z, w), (x', v')]) : BindOk C σ params dV [p, q, r, p'] [] [(x, p), (y, q), (z, r), (x', p')] := by
  intro as s vs ks name qual body scope g cl kV doc pm an cdv ct bn O H rs rk
  cases rk
  cases rs with
  | cons r rs =>
    cases rs with
    | cons r2 rs =>
      cases rs with
      | cons r3 rs =>
        cases rs with
        | cons r4 rs => cases rs; exact ⟨_, BindsTo.of_eq (h _ _ _ _ _ _ _ _ _ _ _ _ _ _ _ _ _), .cons r (.cons r2 (.cons r3 (.cons r4 .nil)))⟩
/-- the last parameter by its default -/
theorem bindOk3d {params : Arguments} {p q r p' : PV} {x y z x' : Str} {T : Addr} {o : Obj} {items : Array Value} {n : Nat} {d : Value} (hT : C.K.lookup T = some o) (hs : o.data = .seq items n) (hd : ∀ as, VR as p' d)
    (h : ∀ name qual body scope g cl kV doc pm an cdv ct bn v u w, ∃ k, bindArgs ⟨name, qual, params, body, scope, g, cl, .ref T, kV, doc, pm, an, cdv, ct, bn⟩ ⟨[v, u, w], []⟩ = seqItems? (.ref T) >>= k ∧ k (some items) = pure [(x, v), (y, u), (z, w), (x', d)]) : BindOk C σ params (.ref T) [p, q, r] [] [(x, p), (y, q), (z, r), (x', p')] := by
  intro as s vs ks name qual body scope g cl kV doc pm an cdv ct bn O H rs rk
  cases rk
  cases rs with
  | cons r rs =>
    cases rs with
    | cons r2 rs =>
      cases rs with
      | cons r3 rs =>
        cases rs
        obtain ⟨k, h1, h2⟩ := h name qual body scope g cl kV doc pm an cdv ct bn _ _ _
        exact ⟨_, BindsTo.of_defaults rfl (H.base _ _ (O.X _ _ hT)) hs h1 h2, .cons r (.cons r2 (.cons r3 (.cons (hd _) .nil)))⟩

/-- the script's number at a place -/
def lawNum (xs : List Int) (i : Nat) : Int := if h : i < xs.length then xs[i] else i * 37 + 5
end
end Mine

set_option maxRecDepth 100000
set_option autoImplicit false
set_option linter.unusedVariables false
namespace Mine
open PySem PySem.W PyProof.Rows PySem.Calls PySem.SeqAt

theorem app_get0 {α : Type} {σ l : List α} {a : α} : (σ ++ a :: l)[σ.length]? = some a := by simp
theorem app_get {α : Type} {σ l : List α} {j : Nat} : (σ ++ l)[σ.length + j]? = l[j]? := by
  rw [List.getElem?_append_right (by omega)]; congr 1; omega
theorem app_set0 {α : Type} {σ l : List α} {a b : α} : (σ ++ a :: l).set σ.length b = σ ++ b :: l := by simp
theorem app_set {α : Type} {σ l : List α} {j : Nat} {b : α} : (σ ++ l).set (σ.length + j) b = σ ++ l.set j b := by
  rw [List.set_append_right _ _ (by omega)]; congr 2; omega
theorem get_pre {α : Type} {σ l : List α} {i : Nat} {x : α} (h : σ[i]? = some x) : (σ ++ l)[i]? = some x := by
  rw [List.getElem?_append_left (List.getElem?_eq_some_iff.mp h).1]; exact h
theorem pre_app {α : Type} {σ l : List α} : σ <+: σ ++ l := List.prefix_append _ _

section
variable {C : Cx} {k : Nat} {pe : PEnv} {PE : Value → St → Prop}
theorem Ha.mono {t : Expr} {p : PV} {σ : St} {PQ PQ' : St → Prop} (h : Ha C k pe t p σ PQ PE) (hq : ∀ σ', PQ σ' → PQ' σ') : Ha C k pe t p σ PQ' PE :=
  fun A env s as Q E v H N r R X => h A env s as Q E v H N r (fun a b σ' as' s' h1 => R a b σ' as' s' (hq _ h1)) X
/-- a loop by an invariant -/
theorem loop_ind {target : Expr} {body orelse : List Stmt} {j : PIt} {n₀ : Nat} {PQ : PF → St → Prop} (Inv : Nat → List PV → St → Prop)
    (hnil : ∀ i σ, Inv i [] σ → j.src σ ∧ Hs C k pe orelse σ PQ PE)
    (hcons : ∀ i p ps σ, Inv i (p :: ps) σ → j.src σ ∧ Ha C k pe target (j.val σ i p) (j.st σ i p) (fun σ₁ => Hs C k pe body σ₁ (fun f σ₂ => match f with
      | .next | .cont => ∃ σ₃, Shrink σ₂ σ₃ ∧ n₀ ≤ σ₃.length ∧ Inv (i + 1) ps σ₃
      | .brk => PQ .next σ₂
      | .ret v => PQ (.ret v) σ₂) PE) PE) : ∀ (ps : List PV) (i : Nat) (σ : St), Inv i ps σ → LoopP C k pe target body orelse j n₀ PQ PE i ps σ
  | [], i, σ, h => hnil i σ h
  | p :: ps, i, σ, h => by
    obtain ⟨h1, h2⟩ := hcons i p ps σ h
    refine ⟨h1, h2.mono fun σ₁ h3 => Tr.mono h3 (fun f σ₂ h4 => ?_) fun _ _ x => x⟩
    cases f with
    | next => obtain ⟨σ₃, a, b, c⟩ := h4; exact ⟨σ₃, a, b, loop_ind Inv hnil hcons ps (i + 1) σ₃ c⟩
    | cont => obtain ⟨σ₃, a, b, c⟩ := h4; exact ⟨σ₃, a, b, loop_ind Inv hnil hcons ps (i + 1) σ₃ c⟩
    | brk => exact h4
    | ret v => exact h4
end

theorem ex_int {x : Int} {P : Int → Prop} (h : P x) : ∃ i, PV.int x = PV.int i ∧ P i := ⟨x, rfl, h⟩
/-- no value names what lies beyond the state -/
def Cl (σ : St) : Prop := ∀ (j : Nat) (po : PO), σ[j]? = some po → ∀ n, σ.length ≤ n → POr (List.range n) po po
theorem HInv.cl {h₀ h : Heap} {as : List Addr} {σ : St} (H : HInv h₀ as σ h) : Cl σ := fun j po e n hn => by
  obtain ⟨a, ha, hr⟩ := H.at e
  exact POr.self (fun i hi => List.getElem?_range (by rw [H.len] at hi; omega)) hr
theorem tf_cl {C : Cx} {k : Nat} {frs : List Nat} {cl : Bool} {f : Addr} {ps : List PV} {kws : List (Str × PV)} {σ : St} {PQ : PV → St → Prop} {PE : Value → St → Prop} (h : Cl σ → TF C k frs cl f ps kws σ PQ PE) : TF C k frs cl f ps kws σ PQ PE :=
  fun A s as Q E vs ks ok inv afr acl adep aun hfrs rs rk R X => h inv.cl A s as Q E vs ks ok inv afr acl adep aun hfrs rs rk R X
inductive Sh (n : Nat) : List PO → List PO → Prop
  | nil {l} : Sh n l []
  | cons {po po' l l'} : POr (List.range n) po po' → Sh n l l' → Sh n (po :: l) (po' :: l')
theorem Sh.le {n : Nat} {l l' : List PO} (h : Sh n l l') : l'.length ≤ l.length := by
  induction h with
  | nil => exact Nat.zero_le _
  | cons _ _ ih => simp; exact ih
theorem Sh.get {n : Nat} {l l' : List PO} (h : Sh n l l') : ∀ {j : Nat} {po' : PO}, l'[j]? = some po' → ∃ po, l[j]? = some po ∧ POr (List.range n) po po' := by
  induction h with
  | nil => intro j po' e; simp at e
  | cons r _ ih =>
    intro j po' e
    cases j with
    | zero => simp at e; subst e; exact ⟨_, by simp, r⟩
    | succ j => simp at e; simpa using ih e
theorem Shrink.app {σ l l' : St} (c : Cl σ) (h : Sh (σ.length + l'.length) l l') : Shrink (σ ++ l) (σ ++ l') := by
  refine .inr ⟨by simp [h.le], fun j po' e => ?_⟩
  rw [List.length_append]
  by_cases hj : j < σ.length
  · rw [List.getElem?_append_left hj] at e ⊢
    exact ⟨po', e, c j po' e _ (by omega)⟩
  · have hj' : σ.length ≤ j := Nat.le_of_not_lt hj
    rw [List.getElem?_append_right hj'] at e ⊢
    exact h.get e
theorem PVsr.imms {is : List Nat} : ∀ {ps : List PV}, (∀ p ∈ ps, Imm p) → PVsr is ps ps
  | [], _ => .nil
  | p :: ps, h => .cons (h p (.head _)).pvr (PVsr.imms fun q hq => h q (.tail _ hq))
theorem PVsr.ints {is : List Nat} {ns : List Int} : PVsr is (ns.map .int) (ns.map .int) := .imms fun p hp => by obtain ⟨n, _, rfl⟩ := List.mem_map.mp hp; exact .int n
theorem PVsr.strs {is : List Nat} {ns : List Str} : PVsr is (ns.map .str) (ns.map .str) := .imms fun p hp => by obtain ⟨n, _, rfl⟩ := List.mem_map.mp hp; exact .str n
theorem PVsr.bools {is : List Nat} {ns : List Bool} : PVsr is (ns.map .bool) (ns.map .bool) := .imms fun p hp => by obtain ⟨n, _, rfl⟩ := List.mem_map.mp hp; exact .bool n

section
variable {C : Cx} {k : Nat} {pe : PEnv} {σ : St} {PE : Value → St → Prop} {PQ : PV → St → Prop}
theorem tc_fun {f : Addr} {ps : List PV} {v : PV} (h : TF C k pe.frs pe.clean f ps [] σ (fun p σ' => σ' = σ ∧ p = v) noE) (hq : PQ v σ) : TC C k pe (.lit (.ref f)) ps [] σ PQ PE :=
  tc_of (h.mono (fun p σ' ⟨h1, h2⟩ => by subst h1; subst h2; exact hq) fun _ _ h => h.elim)
end
theorem cutB_le (b : Array UInt8) (lo hi : Option Int) : (cutB b lo hi).size ≤ b.size := by
  unfold cutB cut
  rw [List.size_toArray, List.length_take, List.length_drop, Array.length_toList]
  omega

section
variable {C : Cx} {k : Nat} {pe : PEnv} {PE : Value → St → Prop}
/-- a comprehension's rounds by an invariant -/
theorem comp_ind {target : Expr} {ifs : List Expr} {emit : St → (St → Prop) → Prop} {j : PIt} {n₀ : Nat} {PQ : St → Prop} (hm : ∀ σ (P P' : St → Prop), (∀ σ', P σ' → P' σ') → emit σ P → emit σ P') (Inv : Nat → List PV → St → Prop)
    (hnil : ∀ i σ, Inv i [] σ → j.src σ ∧ PQ σ)
    (hcons : ∀ i p ps σ, Inv i (p :: ps) σ → j.src σ ∧ Ha C k pe target (j.val σ i p) (j.st σ i p) (fun σ₁ => Hifs C k pe ifs σ₁ fun b σ₂ =>
      if b = true then emit σ₂ fun σ₃ => ∃ σ₄, Shrink σ₃ σ₄ ∧ n₀ ≤ σ₄.length ∧ Inv (i + 1) ps σ₄
      else ∃ σ₄, Shrink σ₂ σ₄ ∧ n₀ ≤ σ₄.length ∧ Inv (i + 1) ps σ₄) noE) : ∀ (ps : List PV) (i : Nat) (σ : St), Inv i ps σ → CompP C k pe target ifs emit j n₀ PQ i ps σ
  | [], i, σ, h => hnil i σ h
  | p :: ps, i, σ, h => by
    obtain ⟨h1, h2⟩ := hcons i p ps σ h
    refine ⟨h1, h2.mono fun σ₁ h3 => Tr.mono h3 (fun b σ₂ h4 => ?_) fun _ _ x => x⟩
    cases b with
    | true =>
      simp only [if_true] at h4 ⊢
      exact hm _ _ _ (fun σ₃ ⟨σ₄, a, b, c⟩ => ⟨σ₄, a, b, comp_ind hm Inv hnil hcons ps (i + 1) σ₄ c⟩) h4
    | false =>
      simp only [Bool.false_eq_true, if_false] at h4 ⊢
      obtain ⟨σ₄, a, b, c⟩ := h4
      exact ⟨σ₄, a, b, comp_ind hm Inv hnil hcons ps (i + 1) σ₄ c⟩
theorem emL_mono {elt : Expr} {D : Nat} : ∀ σ (P P' : St → Prop), (∀ σ', P σ' → P' σ') → EmL C k pe elt D σ P → EmL C k pe elt D σ P' :=
  fun σ P P' h he => Tr.mono he (fun q σ' ⟨xs, a, b, c⟩ => ⟨xs, a, b, h _ c⟩) fun _ _ x => x
/-- the end of a comprehension whose values stand alone -/
theorem compEnd_imm {σ τ : St} {ys : List PV} {PQ : PV → St → Prop} (hy : ∀ y ∈ ys, Imm y) (h : PQ (.obj σ.length) (σ ++ [.list ys])) : CompEnd σ σ.length PQ (σ ++ .list ys :: τ) := by
  refine ⟨[σ.length], [.list ys], .obj σ.length, ⟨pre_app, by simp, by simp, rfl, fun j i e => ?_⟩, by simp, .obj (by simp), h⟩
  cases j with
  | zero =>
    simp at e; subst e
    exact ⟨_, _, app_get0, rfl, .list (PVsr.imms hy)⟩
  | succ j => simp at e
end
end Mine

set_option maxRecDepth 100000
set_option autoImplicit false
set_option linter.unusedVariables false
set_option linter.unusedSectionVars false
namespace Mine
open PySem PySem.W PyProof.Rows PySem.Calls PySem.SeqAt
section
variable {C : Cx} {k : Nat} {pe : PEnv} {σ : St} {PE : Value → St → Prop}
theorem hit_cl {e : Expr} {PQ : PIt → St → Prop} (h : Hit C k pe e σ (fun j σ₁ => Cl σ₁ → PQ j σ₁) PE) : Hit C k pe e σ PQ PE :=
  fun A env s as Q E H N R X => h A env s as Q E H N (fun I fp j σ' as' s' h1 src a x i => R I fp j σ' as' s' (h1 i.cl) src a x i) X
/-- the values that a comprehension keeps -/
def compRes (F : Nat → PV → Option PV) : Nat → List PV → List PV
  | _, [] => []
  | i, p :: ps => (F i p).toList ++ compRes F (i + 1) ps
theorem compEnd_imm' {σ σ₁ τ : St} {ys : List PV} {PQ : PV → St → Prop} (pre : σ <+: σ₁) (hy : ∀ y ∈ ys, Imm y) (h : PQ (.obj σ.length) (σ ++ [.list ys])) : CompEnd σ σ₁.length PQ (σ₁ ++ .list ys :: τ) := by
  refine ⟨[σ₁.length], [.list ys], .obj σ.length, ⟨pre.trans (List.prefix_append _ _), by simp, by have := pre.length_le; simpa using this, rfl, fun j i e => ?_⟩, by simp, .obj (by simp), h⟩
  cases j with
  | zero =>
    simp at e; subst e
    exact ⟨_, _, app_get0, rfl, .list (PVsr.imms hy)⟩
  | succ j => simp at e
theorem OVsr.nones {is : List Nat} : ∀ {N : List (Str × NameKind)} {xs : List (Option PV)}, xs.length = N.length → OVsr is xs (N.map fun _ => none)
  | [], [], _ => .nil
  | _ :: N, _ :: xs, h => .skip (OVsr.nones (by simpa using h))
  | [], _ :: _, h => by simp at h
  | _ :: _, [], h => by simp at h
/-- a comprehension of values that stand alone -/
theorem compP_imm {target elt : Expr} {ifs : List Expr} {j : PIt} {σ σ₁ : St} {N : List (Str × NameKind)} {PQ : PV → St → Prop} (F : Nat → PV → Option PV) (cl : Cl σ₁) (pre : σ <+: σ₁) (src : ∀ τ, j.src (σ₁ ++ τ)) (hz : j.items.length ≤ 16777216)
    (round : ∀ (i : Nat) (p : PV) (ys : List PV), j.items[i]? = some p → Ha C k pe target (j.val (σ₁ ++ [.list ys, .ns N (N.map fun _ => none)]) i p) (j.st (σ₁ ++ [.list ys, .ns N (N.map fun _ => none)]) i p) (fun σ₂ => Hifs C k pe ifs σ₂ fun b σ₃ =>
      if b = true then Hx C k pe elt σ₃ (fun q σ₄ => ∃ xs τ, σ₄ = σ₁ ++ .list ys :: .ns N xs :: τ ∧ xs.length = N.length ∧ Imm q ∧ F i p = some q) noE
      else ∃ xs τ, σ₃ = σ₁ ++ .list ys :: .ns N xs :: τ ∧ xs.length = N.length ∧ F i p = none) noE)
    (hq : PQ (.obj σ.length) (σ ++ [.list (compRes F 0 j.items)])) :
    CompP C k pe target ifs (EmL C k pe elt σ₁.length) j (σ₁.length + 2) (CompEnd σ σ₁.length PQ) 0 j.items (σ₁ ++ [.list [], .ns N (N.map fun _ => none)]) := by
  refine comp_ind emL_mono (fun i ps st => ∃ ys : List PV, (∀ y ∈ ys, Imm y) ∧ ys.length ≤ i ∧ i + ps.length = j.items.length ∧ j.items.drop i = ps ∧ ys ++ compRes F i ps = compRes F 0 j.items ∧ st = σ₁ ++ [.list ys, .ns N (N.map fun _ => none)]) ?_ ?_ _ _ _ ⟨[], by simp, by simp, by simp, by simp, by simp, rfl⟩
  · rintro i st ⟨ys, hy, hl, hn, hd, hr, rfl⟩
    refine ⟨src _, compEnd_imm' pre hy ?_⟩
    have : ys = compRes F 0 j.items := by simpa [compRes] using hr
    rw [this]; exact hq
  · rintro i p ps st ⟨ys, hy, hl, hn, hd, hr, rfl⟩
    have hp : j.items[i]? = some p := by
      have := congrArg (fun l => l[0]?) hd
      simpa using this
    have hd' : j.items.drop (i + 1) = ps := by rw [← List.drop_drop, hd]; rfl
    refine ⟨src _, (round i p ys hp).mono fun σ₂ h => Tr.mono h (fun b σ₃ h => ?_) fun _ _ x => x⟩
    cases b with
    | true =>
      simp only [if_true] at h ⊢
      refine Tr.mono h (fun q σ₄ h => ?_) fun _ _ x => x
      obtain ⟨xs, τ, rfl, hx, hi, hF⟩ := h
      refine ⟨ys, app_get0, by rw [sizeLine_eq]; simp only [List.length_cons] at hn; omega, ?_⟩
      rw [app_set0]
      have hy' : ∀ y ∈ ys ++ [q], Imm y := fun y h => by
        rcases List.mem_append.mp h with h | h
        · exact hy y h
        · simp at h; subst h; exact hi
      refine ⟨σ₁ ++ [.list (ys ++ [q]), .ns N (N.map fun _ => none)], Shrink.app cl (.cons (.list (PVsr.imms hy')) (.cons (.ns (OVsr.nones hx)) .nil)), by simp, ys ++ [q], hy', by simp; omega, by simp only [List.length_cons] at hn; omega, hd', ?_, rfl⟩
      rw [← hr]; simp [compRes, hF]
    | false =>
      simp only [Bool.false_eq_true, if_false] at h ⊢
      obtain ⟨xs, τ, rfl, hx, hF⟩ := h
      refine ⟨σ₁ ++ [.list ys, .ns N (N.map fun _ => none)], Shrink.app cl (.cons (.list (PVsr.imms hy)) (.cons (.ns (OVsr.nones hx)) .nil)), by simp, ys, hy, by omega, by simp only [List.length_cons] at hn; omega, hd', ?_, rfl⟩
      rw [← hr]; simp [compRes, hF]
theorem comp1_imm {target elt : Expr} {ifs : List Expr} {j : PIt} {σ σ₁ : St} {scope : Scope} {PQ : PV → St → Prop} (N : List (Str × NameKind)) (ci : List (Str × Nat)) (F : Nat → PV → Option PV)
    (hN : (relabelP pe scope).names = N) (hci : closP pe scope.names [] = ci) (cl : Cl σ₁) (pre : σ <+: σ₁) (src : ∀ τ, j.src (σ₁ ++ τ)) (hz : j.items.length ≤ 16777216)
    (round : ∀ (i : Nat) (p : PV) (ys : List PV), j.items[i]? = some p → Ha C k ⟨{ scope with names := N }, σ₁.length + 1, ci, pe.frs, pe.clean⟩ target (j.val (σ₁ ++ [.list ys, .ns N (N.map fun _ => none)]) i p) (j.st (σ₁ ++ [.list ys, .ns N (N.map fun _ => none)]) i p) (fun σ₂ => Hifs C k ⟨{ scope with names := N }, σ₁.length + 1, ci, pe.frs, pe.clean⟩ ifs σ₂ fun b σ₃ =>
      if b = true then Hx C k ⟨{ scope with names := N }, σ₁.length + 1, ci, pe.frs, pe.clean⟩ elt σ₃ (fun q σ₄ => ∃ xs τ, σ₄ = σ₁ ++ .list ys :: .ns N xs :: τ ∧ xs.length = N.length ∧ Imm q ∧ F i p = some q) noE
      else ∃ xs τ, σ₃ = σ₁ ++ .list ys :: .ns N xs :: τ ∧ xs.length = N.length ∧ F i p = none) noE)
    (hq : PQ (.obj σ.length) (σ ++ [.list (compRes F 0 j.items)])) :
    CompP C k (compPE pe scope σ₁.length) target ifs (EmL C k (compPE pe scope σ₁.length) elt σ₁.length) j (σ₁.length + 2) (CompEnd σ σ₁.length PQ) 0 j.items (compSt pe scope σ₁) := by
  have e1 : compPE pe scope σ₁.length = ⟨{ scope with names := N }, σ₁.length + 1, ci, pe.frs, pe.clean⟩ := by
    unfold compPE
    rw [hci, ← hN]
    rfl
  have e2 : compSt pe scope σ₁ = σ₁ ++ [.list [], .ns N (N.map fun _ => none)] := by unfold compSt; rw [hN]
  rw [e1, e2]
  exact compP_imm F cl pre src hz round hq
end
end Mine

set_option maxRecDepth 100000
set_option autoImplicit false
set_option linter.unusedVariables false
set_option linter.unusedSectionVars false
namespace Mine
open PySem PySem.W PyProof.Rows PySem.Calls PySem.SeqAt
section
variable {C : Cx} {k : Nat} {pe : PEnv} {σ : St} {PE : Value → St → Prop}
/-- a global name that holds a text -/
theorem hx_glob_str {tbl : List (Str × Value)} (G : Globs C tbl) {x y : Str} {t : Tok} {pos : Pos} {PQ : PV → St → Prop} {j : Nat} (hk : slotOf pe.scope.names x = some (j, .globalImplicit)) (e : tbl.lookup x = some (.str y t)) (h : PQ (.str y) σ)
    (hd : (x == ("__debug__" : Str)) = false := by decide +kernel) : Hx C k pe (.Name x pos) σ PQ PE := by
  intro A env s as Q E H N R X
  have hq : Q (.str y t) s := R.here H h (.str y t)
  have hkk : env.kindOf x = some .globalImplicit := (N.kindOf x).trans (slotOf_spec hk).2
  have T := H.ok.T
  rcases G x _ e with e1 | ⟨e1, e2, e3⟩
  · exact Name_function_global N.fkind hkk (loadGlobal_global (env := env) (by rw [N.globals]; exact T.g.keeps H.inv.base) (mg_of H.ok.X T.g e1) hq) hd
  · exact Name_function_global N.fkind hkk (loadGlobal_builtin (env := env) (by rw [N.globals]; exact T.g.keeps H.inv.base) (mg_none_of H.ok.X T.g e1) (by rw [N.builtins]; exact T.b.keeps H.inv.base) ((T.builtins x e3).trans e2) hq) hd
end
end Mine

set_option maxRecDepth 100000
set_option autoImplicit false
set_option linter.unusedVariables false
set_option linter.unusedSectionVars false
namespace Mine
open PySem PySem.W PyProof.Rows PySem.Calls PySem.SeqAt
section
variable {C : Cx} {k : Nat} {pe : PEnv} {σ : St} {PE : Value → St → Prop}
theorem IterOf.src_app {p : PV} {j : PIt} (h : IterOf σ p j) (τ : St) : j.src (σ ++ τ) := by
  cases h with
  | list g => exact get_pre g
  | tuple g => exact get_pre g
  | str => trivial
  | bytes => trivial
  | range => trivial
/-- the rounds of a comprehension whose values stand alone -/
abbrev RoundI (C : Cx) (k : Nat) (pe : PEnv) (target elt : Expr) (ifs : List Expr) (scope : Scope) (N : List (Str × NameKind)) (ci : List (Str × Nat)) (F : Nat → PV → Option PV) (j : PIt) (σ₁ : St) : Prop :=
  ∀ (i : Nat) (p : PV) (ys : List PV), j.items[i]? = some p → Ha C k ⟨{ scope with names := N }, σ₁.length + 1, ci, pe.frs, pe.clean⟩ target (j.val (σ₁ ++ [.list ys, .ns N (N.map fun _ => none)]) i p) (j.st (σ₁ ++ [.list ys, .ns N (N.map fun _ => none)]) i p) (fun σ₂ => Hifs C k ⟨{ scope with names := N }, σ₁.length + 1, ci, pe.frs, pe.clean⟩ ifs σ₂ fun b σ₃ =>
      if b = true then Hx C k ⟨{ scope with names := N }, σ₁.length + 1, ci, pe.frs, pe.clean⟩ elt σ₃ (fun q σ₄ => ∃ xs τ, σ₄ = σ₁ ++ .list ys :: .ns N xs :: τ ∧ xs.length = N.length ∧ Imm q ∧ F i p = some q) noE
      else ∃ xs τ, σ₃ = σ₁ ++ .list ys :: .ns N xs :: τ ∧ xs.length = N.length ∧ F i p = none) noE
/-- a comprehension over a value, its values stand alone -/
theorem hx_compV {elt t0 i0 : Expr} {ifs0 : List Expr} {scope : Scope} {pos : Pos} {PQ : PV → St → Prop} (N : List (Str × NameKind)) (ci : List (Str × Nat)) (hcl : pe.clean = true)
    (hN : (relabelP pe scope).names = N) (hci : closP pe scope.names [] = ci)
    (h : Hx C k pe i0 σ (fun p σ₁ => ∃ j F, IterOf σ₁ p j ∧ σ <+: σ₁ ∧ j.items.length ≤ 16777216 ∧ (Cl σ₁ → RoundI C k pe t0 elt ifs0 scope N ci F j σ₁) ∧ PQ (.obj σ.length) (σ ++ [.list (compRes F 0 j.items)])) PE)
    (hcell : ∀ y ∈ scope.names, y.2 ≠ .cell := by decide +kernel) (hkind : scope.kind = .function := by rfl) (hnd : (scope.names.map (·.1)).Nodup := by decide +kernel) (hclos : closOk pe scope.names = true := by rfl)
    (hs : ∀ env x, foldedSetIterable i0 env x = pure x := by intro _ _; rfl) : Hx C k pe (.ListComp elt [⟨t0, i0, ifs0, 0⟩] scope pos) σ PQ PE := by
  refine hx_comp1 hcl (hit_cl (hit_val (Tr.mono h (fun p σ₁ hq => ?_) fun _ _ x => x))) hcell hkind hnd hclos hs
  obtain ⟨j, F, h1, h3, h4, h5, h6⟩ := hq
  have h2 := h1.src_app
  have h7 : j.src σ₁ := by have := h2 []; rwa [List.append_nil] at this
  refine ⟨j, σ₁, h1, .inl ⟨Shrink.refl _, h3.length_le⟩, h7, fun cl => ⟨fun h => ?_, comp1_imm N ci F hN hci cl h3 h2 h4 (h5 cl) h6⟩⟩
  obtain ⟨xs, rfl⟩ := h
  cases h1
/-- a comprehension over a range, its values stand alone -/
theorem hx_compR {elt t0 f e : Expr} {ifs0 : List Expr} {scope : Scope} {pos pos' : Pos} {PQ : PV → St → Prop} (N : List (Str × NameKind)) (ci : List (Str × Nat)) (F : Nat → PV → Option PV) (hcl : pe.clean = true)
    (hN : (relabelP pe scope).names = N) (hci : closP pe scope.names [] = ci)
    (hf : Hx C k pe f σ (fun pf σ₁ => pf = .lit (.type "range") ∧ σ₁ = σ) PE)
    (h : Hx C k pe e σ (fun p σ₁ => ∃ n : Int, p = .int n ∧ n ≤ 16777216 ∧ -16777216 ≤ n ∧ σ <+: σ₁ ∧ (Cl σ → RoundI C k pe t0 elt ifs0 scope N ci F (.own (rangeP 0 n)) σ) ∧ PQ (.obj σ.length) (σ ++ [.list (compRes F 0 (rangeP 0 n))])) PE)
    (hse : ∀ env, starEach [e] env = [(false, eval e env)] := by intro _; rfl)
    (he : ∀ env, eval (.Call f [e] [] pos') env = (do callWith pos' (← eval f env) [] (backTo pos' (starEach [e] env)) (backToKw pos' (keywordEach [] env))) := by intro _; rfl)
    (hcell : ∀ y ∈ scope.names, y.2 ≠ .cell := by decide +kernel) (hkind : scope.kind = .function := by rfl) (hnd : (scope.names.map (·.1)).Nodup := by decide +kernel) (hclos : closOk pe scope.names = true := by rfl)
    (hs : ∀ env x, foldedSetIterable (.Call f [e] [] pos') env x = pure x := by intro _ _; rfl) : Hx C k pe (.ListComp elt [⟨t0, .Call f [e] [] pos', ifs0, 0⟩] scope pos) σ PQ PE := by
  refine hx_comp1 hcl (hit_cl (hit_range1 hf (Tr.mono h (fun p σ₁ hq => ?_) fun _ _ x => x) hse he)) hcell hkind hnd hclos hs
  obtain ⟨n, rfl, h1, h2, h3, h4, h5⟩ := hq
  refine ⟨n, rfl, by omega, by omega, h3, fun cl => ⟨(fun h => nomatch h), comp1_imm N ci F hN hci cl (List.prefix_refl _) (fun _ => trivial) ?_ (h4 cl) h5⟩⟩
  simp only [PIt.items, rangeP, List.length_map, List.length_range]
  omega
end
end Mine

set_option maxRecDepth 100000
set_option autoImplicit false
set_option linter.unusedVariables false
set_option linter.unusedSectionVars false
namespace Mine
open PySem PySem.W PyProof.Rows PySem.Calls PySem.SeqAt
section
variable {C : Cx} {k : Nat} {pe : PEnv} {σ : St} {PE : Value → St → Prop} {PQ : PV → St → Prop}
/-- the script: a list of ints of the base -/
def BL (C : Cx) (l : Addr) (xs : List Int) : Prop := ∃ vs, C.h₀.IsList l (List.toArray vs) ∧ IntsAre vs xs
theorem BL.len {xs : List Int} {vs : List Value} (h : IntsAre vs xs) : vs.length = xs.length := by
  induction h with
  | nil => rfl
  | cons _ _ _ ih => simp [ih]
theorem BL.get {xs : List Int} {vs : List Value} (h : IntsAre vs xs) : ∀ {i : Nat} {x : Int}, xs[i]? = some x → ∃ t, vs[i]? = some (.int x t) := by
  induction h with
  | nil => intro i x e; simp at e
  | cons _ _ _ ih =>
    intro i x e
    cases i with
    | zero => simp at e; subst e; exact ⟨_, rfl⟩
    | succ i => exact ih e
theorem BL.is {l : Addr} {xs : List Int} (B : BL C l xs) {as : List Addr} {h : Heap} (H : HInv C.h₀ as σ h) : ∃ vs, h.IsList l (List.toArray vs) ∧ IntsAre vs xs := by
  obtain ⟨vs, ⟨o, h1, h2⟩, hi⟩ := B
  exact ⟨vs, ⟨o, H.base _ _ h1, h2⟩, hi⟩
theorem tc_len_bl {l : Addr} {xs : List Int} (B : BL C l xs) (hz : xs.length ≤ 1099511627776) (h : PQ (.int xs.length) σ) : TC C k pe (.lit (.builtin "len")) [.lit (.ref l)] [] σ PQ PE := tc_of1 fun A env s as Q E v H N r R X => by
  cases r
  obtain ⟨vs, hl, hi⟩ := B.is H.inv
  have e := BL.len hi
  refine call_len_list hl (by simp; omega) ?_
  rw [List.size_toArray, e]
  exact R.toks H h (.int _ _)
theorem get_bl {l : Addr} {xs : List Int} (B : BL C l xs) : GetOk C σ (.lit (.ref l)) := fun as s v H r => by
  cases r
  obtain ⟨vs, hl, _⟩ := B.is H
  exact ⟨_, _, hl.typeIs, slot_list_getitem.lookup⟩
theorem t2_get_bl {l : Addr} {xs : List Int} {i : Int} {x : Int} (B : BL C l xs) (h0 : 0 ≤ i) (hi : i < 2 ^ 63) (hx : xs[i.toNat]? = some x) (h : PQ (.int x) σ) : T2 C k pe getItem VR (.lit (.ref l)) (.int i) σ PQ PE := by
  intro A env s as Q E v u H N r1 r2 R X
  cases r2
  cases r1
  obtain ⟨vs, hl, hv⟩ := B.is H.inv
  obtain ⟨t, e1⟩ := BL.get hv hx
  exact wpAny_getItem_list hl h0 hi (x := .int x t) (by simpa using e1) (R.here H h (.int _ _))
theorem law_entry {prog : Program} {w : World} {K : Frag} {p : Program} {loose : List Str} {mean : ExcName → Option Value} {mg mb : Str → Option Value} {s₁ : Shared} {fa l : Addr} {vs : List Value} {ns : List Int}
    {c : ClaimW} {cl : Str → Option Addr} {mean' : ExcName → Option Value} {args : List WData} {k : Nat} (KX : K.In s₁.heap) (T : Top p loose mean mg mb s₁.heap) (hl : s₁.heap.IsList l vs.toArray) (hi : IntsAre vs ns) (hg : s₁.gens = #[])
    (h : BL ⟨prog, w, K, p, loose, mg, mb, s₁.heap⟩ l ns → (K.In s₁.heap) → TF ⟨prog, w, K, p, loose, mg, mb, s₁.heap⟩ k [] true fa [.lit (.ref l)] [] [] (fun p σ' => p = .bool true) noE) (hk : k ≤ 12)
    (hr : ∀ cls, c.raises args cls = false) (hp : c.post args (.bool true) args = true) :
    wpAny (model prog w) callerA (call (.ref fa) [.ref l]) (fun v s' => GoodWG c cl mean' args s₁ (.ok (.ret v)) s') (fun e s' => GoodWG c cl mean' args s₁ (.error e) s') s₁ := by
  have B : BL ⟨prog, w, K, p, loose, mg, mb, s₁.heap⟩ l ns := ⟨vs, hl, hi⟩
  refine wpAny_call ?_
  refine h B KX callerA s₁ [] _ _ [.ref l] [] ⟨KX, topRead_of T⟩ ⟨rfl, .nil, fun _ _ e => e, fun _ h => (nomatch h), fun _ _ _ _ e => by simp at e, Nat.le_refl _, fun _ _ _ e => by simp at e⟩
    ⟨[], rfl, .nil⟩ (fun _ => rfl) ?_ ?_ (fun _ h => (nomatch h)) (.cons (.lit _) .nil) .nil (fun v b σ' as' s' hb _ _ r i g => ?_) (fun _ _ _ _ _ _ _ h => h.elim)
  · have : callerA.depth + 8 * 12 < recursionLimit := by decide
    omega
  · have : callerA.units + 40 * 12 < cLine := by decide
    omega
  · subst hb
    cases r
    exact ⟨.inl ⟨_, _, [], rfl, hr, ReadsW.bool true, hp, fun _ => ⟨List.nodup_nil, fun _ hm => (nomatch hm)⟩⟩, OldK.of_keep i.base, g.srel.1, g.srel.2 (hg ▸ AllBare.empty)⟩
end
end Mine

set_option maxRecDepth 100000
set_option autoImplicit false
namespace Mine
open PySem PySem.W PyProof.Rows PySem.Calls PySem.SeqAt
/-- where a class's own thing of a name lies -/
def descA (K : Frag) (m : Addr) (x : Str) : Addr := match findCls K (.ref m) (.type "type") x with | some (.get _ (.ref a) _ _) => a | _ => 0
def descF (K : Frag) (p : Addr) (T : String) : Addr := match recIn K p T with | some (.ref f :: _) => f | _ => 0
def descR (K : Frag) (p : Addr) (T : String) : List Value := match recIn K p T with | some (_ :: r) => r | _ => []
def dfltA (K : Frag) (f : Addr) : Addr := match fdAt K f with | some fd => (match fd.defaults with | .ref a => a | _ => 0) | none => 0
def seqIn (K : Frag) (a : Addr) : Option (Array Value) := match K.lookup a with | some ⟨_, _, .seq xs _, _⟩ => some xs | _ => none
theorem seqIn_of {K : Frag} {a : Addr} {xs : Array Value} (e : seqIn K a = some xs) : ∃ o n, K.lookup a = some o ∧ o.data = .seq xs n := by
  unfold seqIn at e
  split at e
  · rename_i q
    cases e
    exact ⟨_, _, q, rfl⟩
  · cases e
def gtok (K : Frag) (x : Str) : Tok := match gval K x with | .str _ t => t | _ => 0
theorem globs_of {C : Cx} {tbl : List (Str × Value)} (h : ∀ y ∈ tbl, nsIn C.K mainGlobals y.1 = some (some y.2) ∨ (nsIn C.K mainGlobals y.1 = some none ∧ bootBuiltins y.1 = some y.2 ∧ y.1 ≠ "__name__")) : Globs C tbl := by
  intro x v e
  have : (x, v) ∈ tbl := by
    induction tbl with
    | nil => cases e
    | cons y t ih =>
      rw [List.lookup_cons] at e
      cases hx : (x == y.1) with
      | true =>
        rw [hx] at e
        cases e
        rw [show x = y.1 from eq_of_beq hx]
        exact .head _
      | false =>
        rw [hx] at e
        exact .tail _ (ih (fun z hz => h z (.tail _ hz)) e)
  exact h _ this
def valB : Value → Value → Bool
  | .builtin a, .builtin b => a == b
  | .type a, .type b => a == b
  | .ref a, .ref b => a == b
  | .str a s, .str b t => a == b && s == t
  | .int a s, .int b t => a == b && s == t
  | _, _ => false
theorem valB_eq {u v : Value} (h : valB u v = true) : u = v := by
  unfold valB at h
  split at h
  · rw [eq_of_beq h]
  · rw [eq_of_beq h]
  · rw [eq_of_beq h]
  · rw [Bool.and_eq_true] at h; rw [eq_of_beq h.1, eq_of_beq h.2]
  · rw [Bool.and_eq_true] at h; rw [eq_of_beq h.1, eq_of_beq h.2]
  · cases h
def globB (K : Frag) (y : Str × Value) : Bool := match nsIn K mainGlobals y.1 with
  | some (some v) => valB v y.2
  | some none => (match bootBuiltins y.1 with | some v => valB v y.2 | none => false) && !(y.1 == ("__name__" : Str))
  | none => false
theorem globs_all {C : Cx} {tbl : List (Str × Value)} (h : tbl.all (globB C.K) = true) : Globs C tbl := by
  refine globs_of fun y hy => ?_
  have := List.all_eq_true.mp h y hy
  unfold globB at this
  split at this
  · rename_i q
    rw [valB_eq this] at q
    exact .inl q
  · rename_i q
    rw [Bool.and_eq_true] at this
    obtain ⟨h1, h2⟩ := this
    split at h1
    · rename_i v q2
      rw [valB_eq h1] at q2
      exact .inr ⟨q, q2, fun e => by rw [e] at h2; revert h2; decide⟩
    · cases h1
  · cases this
theorem law_at {K : Frag} {p : Program} {loose : List Str} {mean : ExcName → Option Value} {mg mb : Str → Option Value} {h : Heap} {fa a : Addr} {x : Str} (KX : K.In h) (T : Top p loose mean mg mb h) (hm : mg x = some (.ref fa)) (e : nsIn K mainGlobals x = some (some (.ref a))) : fa = a := by
  have := mg_of KX T.g e
  rw [hm] at this
  cases this
  rfl
end Mine

set_option maxRecDepth 100000
set_option autoImplicit false
set_option linter.unusedVariables false
set_option linter.unusedSectionVars false
namespace Mine
open PySem PySem.W PyProof.Rows PySem.Calls PySem.SeqAt
/-- a class of the text, plain -/
structure ClsOk (K : Frag) (Cl : Addr) : Prop where
  makes : makesIn K Cl = true
  sets : findIn K (.ref Cl) "__setattr__" = some (some (.builtin "object.__setattr__"))
  plain : plainOver K Cl = true
  hasD : hasDictIn K Cl = true
  gets : plainGet K Cl "x" = true
def putP (name : Str) (p : PV) : List (Str × PV) → List (Str × PV)
  | [] => [(name, p)]
  | (x, q) :: r => if x == name then (x, p) :: r else (x, q) :: putP name p r
def getP (name : Str) : List (Str × PV) → Option PV
  | [] => none
  | (x, q) :: r => if x == name then some q else getP name r
theorem ERs.noRef {as : List Addr} {l : List (Str × PV)} {es : List DictEntry} (h : ERs as l es) : es.any (·.refKey) = false := by
  induction h with
  | nil => rfl
  | cons _ _ ih => simp only [List.any_cons, ih]; rfl
theorem ERs.getL {as : List Addr} {l : List (Str × PV)} {es : List DictEntry} (h : ERs as l es) (name : Str) : match getP name l with | some p => ∃ v, PySem.W.getL name es = some (some v) ∧ VR as p v | none => PySem.W.getL name es = some none := by
  have key : match getP name l with | some p => ∃ e, es.find? (·.key.isStr name) = some e ∧ VR as p e.val | none => es.find? (·.key.isStr name) = none := by
    induction h with
    | nil => rfl
    | @cons x p hs t v ps es r _ ih =>
      unfold getP
      rw [List.find?_cons]
      have e : (Value.str x t).isStr name = (x == name) := rfl
      rw [e]
      cases hx : (x == name) with
      | true => simp only [if_true]; exact ⟨_, rfl, r⟩
      | false => simp only [Bool.false_eq_true, if_false]; exact ih
  unfold PySem.W.getL
  cases hg : getP name l with
  | some p =>
    rw [hg] at key
    obtain ⟨e, h1, h2⟩ := key
    exact ⟨e.val, by rw [h1], h2⟩
  | none =>
    rw [hg] at key
    simp only at key ⊢
    rw [key]
    simp [h.noRef]
theorem ERs.putL {as : List Addr} {l : List (Str × PV)} {es : List DictEntry} (h : ERs as l es) {name : Str} {p : PV} {v : Value} (r : VR as p v) (hs : Int) (t : Tok) : ERs as (putP name p l) (PySem.W.putL name hs (.str name t) v es) := by
  induction h with
  | nil => exact .cons r .nil
  | @cons x q hs' t' v' ps es r' h' ih =>
    unfold putP PySem.W.putL
    have e : (Value.str x t').isStr name = (x == name) := rfl
    simp only [e]
    cases hx : (x == name) with
    | true => simp only [if_true]; exact .cons r h'
    | false => simp only [Bool.false_eq_true, if_false]; exact .cons r' ih
theorem ERs.length {as : List Addr} {l : List (Str × PV)} {es : List DictEntry} (h : ERs as l es) : es.length = l.length := by
  induction h with
  | nil => rfl
  | cons _ _ ih => simp [ih]
theorem putP_len (name : Str) (p : PV) : ∀ l : List (Str × PV), (putP name p l).length ≤ l.length + 1
  | [] => Nat.le_refl _
  | (x, q) :: r => by
    unfold putP
    split
    · simp
    · simp only [List.length_cons]; have := putP_len name p r; omega
section
variable {C : Cx} {k : Nat} {pe : PEnv} {σ : St} {PE : Value → St → Prop}
theorem HInv.instAt {as : List Addr} {h : Heap} (H : HInv C.h₀ as σ h) {i d : Nat} {Cl a : Addr} {l : List (Str × PV)} (gi : σ[i]? = some (.inst Cl d)) (gd : σ[d]? = some (.dict l)) (ea : as[i]? = some a) :
    ∃ dx es n, as[d]? = some dx ∧ InstAt h a (instObj Cl dx) Cl (some (dictOf es n)) ∧ h.get? dx = some (dictOf es n) ∧ ERs as l es := by
  obtain ⟨dx, h1, h2⟩ := H.rel i a _ ea gi
  obtain ⟨es, n, h3, h4⟩ := H.rel d dx _ h1 gd
  exact ⟨dx, es, n, h1, ⟨h2, rfl, rfl, h3⟩, h3, h4⟩
theorem get_inj {as : List Addr} {h : Heap} (H : HInv C.h₀ as σ h) {i j : Nat} {a : Addr} (e1 : as[i]? = some a) (e2 : as[j]? = some a) : i = j := by
  obtain ⟨l1, g1⟩ := List.getElem?_eq_some_iff.mp e1
  obtain ⟨l2, g2⟩ := List.getElem?_eq_some_iff.mp e2
  exact (List.getElem_inj H.nd).mp (g1.trans g2.symm)
/-- a field of one of the class is laid -/
theorem t_setattr {A : Around} {env : Env} {s : Shared} {as : List Addr} {Q : Unit → Shared → Prop} {E : Value → Shared → Prop} {i d : Nat} {Cl a : Addr} {l : List (Str × PV)} {name : Str} {p : PV} {v : Value}
    (H : At C k pe as σ A s) (N : EnvRel as pe env) (O : ClsOk C.K Cl) (gi : σ[i]? = some (.inst Cl d)) (gd : σ[d]? = some (.dict l)) (hf : findIn C.K (.ref Cl) name = some none) (hz : l.length ≤ 900)
    (ea : as[i]? = some a) (r : VR as p v)
    (h : ∀ h' tk, HInv C.h₀ as (σ.set d (.dict (putP name p l))) h' → Go as s as { s with heap := h', toks := tk } → Q () { s with heap := h', toks := tk }) :
    wpAny (model C.prog C.w) A (setAttr (.ref a) name v) Q E s := by
  obtain ⟨f, af, e1, nn, lL, e2⟩ := H.aframe N
  obtain ⟨hL, m, hn, hm⟩ := H.inv.rel f af _ e1 e2
  have F : Fr C.h₀ af s.heap m := ⟨hn, H.inv.base, H.inv.above f af nn lL e1 e2⟩
  obtain ⟨dx, es, n, hdx, I, hd, er⟩ := H.inv.instAt gi gd ea
  have hfd : dx ≠ af := fun q => by
    subst q
    have := get_inj H.inv hdx e1
    subst this
    rw [e2] at gd; cases gd
  obtain ⟨rest, hrest1, hrest2⟩ : ∃ rest : List (Addr × Obj), (∀ q ∈ rest, q.1 ≠ dx ∧ q.1 ≠ af ∧ C.h₀.get? q.1 = none ∧ s.heap.get? q.1 = some q.2) ∧ ∀ b o, b ≠ dx → b ≠ af → C.h₀.get? b = none → s.heap.get? b = some o → (b, o) ∈ rest := by
    refine ⟨(List.range s.heap.objs.size).filterMap fun b => if b = dx ∨ b = af ∨ (C.h₀.get? b).isSome then none else (s.heap.get? b).map fun o => (b, o), ?_, ?_⟩
    · intro q hq
      obtain ⟨b, _, hb⟩ := List.mem_filterMap.mp hq
      split at hb
      · cases hb
      · rename_i hc
        rw [Option.map_eq_some_iff] at hb
        obtain ⟨o, ho, rfl⟩ := hb
        refine ⟨fun z => hc (.inl z), fun z => hc (.inr (.inl z)), ?_, ho⟩
        cases hz : C.h₀.get? b with
        | none => rfl
        | some _ => exact absurd (.inr (.inr (by rw [hz]; rfl))) hc
    · intro b o h1 h2 h3 h4
      refine List.mem_filterMap.mpr ⟨b, List.mem_range.mpr (Heap.lt_size h4), ?_⟩
      rw [if_neg (by rw [h3]; simp [h1, h2]), h4]
      rfl
  have NN : News C.h₀ af s.heap ((dx, dictOf es n) :: rest) := fun q hq => by
    rcases List.mem_cons.mp hq with rfl | hq
    · exact ⟨hd, hfd, H.inv.new _ (mem_of_get? hdx)⟩
    · obtain ⟨a1, a2, a3, a4⟩ := hrest1 q hq
      exact ⟨a4, a2, a3⟩
  have gl := er.getL name
  refine set_dict F H.ok.X NN I rfl O.sets O.plain (by unfold takerIn; rw [hf]; rfl) O.hasD (by cases hg : getP name l with | some p => rw [hg] at gl; obtain ⟨_, z, _⟩ := gl; rw [z]; rfl | none => rw [hg] at gl; simp only at gl; rw [gl]; rfl) rfl
    (.head fun q hq => (hrest1 q hq).1) ?_ fun h' F' N' => ?_
  · have e := (er.putL (name := name) r (PyData.keyHash C.w.params name) (s.toks + 1)).length
    have := putP_len name p l
    omega
  · have old : ∀ b o, b ≠ dx → b ≠ af → s.heap.get? b = some o → h'.get? b = some o := fun b o h1 h2 h3 => by
      cases hb : C.h₀.get? b with
      | none => exact (N' _ (.tail _ (hrest2 b o h1 h2 hb h3))).1
      | some o' =>
        have := H.inv.base b o' hb
        rw [h3] at this
        cases this
        exact F'.keep b _ hb
    refine h h' (s.toks + 2) ⟨by rw [List.length_set]; exact H.inv.len, H.inv.nd, F'.keep, H.inv.new, fun j x n' l' f1 f2 => ?_, ?_, fun j x po f1 f2 => ?_⟩ ⟨SRel.heap s h' (s.toks + 2), fun b o hb e => ⟨hb, by simp, ?_⟩⟩
    · by_cases hj : d = j
      · subst hj
        rw [List.getElem?_set_self (List.getElem?_eq_some_iff.mp gd).1] at f2
        cases f2
      · rw [List.getElem?_set_ne hj] at f2
        exact H.inv.above j x n' l' f1 f2
    · obtain ⟨o, _, _, ho, _⟩ := F'.ns
      exact Nat.le_of_lt (Nat.lt_of_le_of_lt F'.above (Heap.lt_size ho))
    · by_cases hj : d = j
      · subst hj
        rw [List.getElem?_set_self (List.getElem?_eq_some_iff.mp gd).1] at f2
        cases f2
        rw [hdx] at f1
        cases f1
        exact ⟨_, _, (N' _ (.head _)).1, er.putL r _ _⟩
      · rw [List.getElem?_set_ne hj] at f2
        by_cases hx : x = af
        · subst hx
          have := get_inj H.inv f1 e1
          subst this
          rw [e2] at f2
          cases f2
          exact ⟨hL, m, F'.ns, hm⟩
        · exact (H.inv.rel j x po f1 f2).keep fun o e => old x o (fun q => hj (by subst q; exact get_inj H.inv hdx f1)) hx e
    · exact old b o (fun q => hb (q ▸ mem_of_get? hdx)) (fun q => hb (q ▸ mem_of_get? e1)) e
/-- self.name = value -/
theorem hs_setattr {o value : Expr} {name : Str} {pos' pos : Pos} {PQ : PF → St → Prop}
    (h : Hx C k pe value σ (fun p σ₁ => Hx C k pe o σ₁ (fun q σ₂ => ∃ i d Cl l, q = .obj i ∧ ClsOk C.K Cl ∧ σ₂[i]? = some (.inst Cl d) ∧ σ₂[d]? = some (.dict l) ∧ findIn C.K (.ref Cl) name = some none ∧ l.length ≤ 900 ∧ PQ .next (σ₂.set d (.dict (putP name p l)))) PE) PE)
    (hs : ∀ env, swapsWith value (some (.Attribute o name pos')) pos.line env = pure false := by intro _; rfl) : Hs1 C k pe (.Assign [.Attribute o name pos'] value pos) σ PQ PE := by
  intro A env s as Q E H N R X
  refine plainObj_wpAny_Assign_Attribute (h A env s as _ E H N (fun v p σ₁ as₁ s₁ h₁ a₁ x₁ r₁ i₁ w₁ => ?_) X) (hs env)
  have H₁ := H.step a₁ x₁ i₁
  have N₁ := N.mono a₁
  refine h₁ A env s₁ as₁ _ E H₁ N₁ (fun ov q σ₂ as₂ s₂ h₂ a₂ x₂ r₂ i₂ w₂ => ?_) (X.go a₁ x₁ w₁)
  obtain ⟨i, d, Cl, l, rfl, O, gi, gd, hf, hz, hq⟩ := h₂
  cases r₂ with
  | obj _ a e =>
    refine t_setattr (H₁.step a₂ x₂ i₂) (N₁.mono a₂) O gi gd hf hz e (r₁.mono a₂) fun h' tk i₃ g₃ => ?_
    exact R _ _ _ as₂ _ hq (a₁.trans a₂) ((x₁.trans x₂).trans (Ext.set gd fun _ _ z => nomatch z)) .next i₃ ((w₁.trans w₂).trans g₃)
def handP : PV → Bool
  | .lit v => handedIn v
  | _ => true
theorem handP_of {as : List Addr} {p : PV} {v : Value} (r : VR as p v) (h : handP p = true) : handedIn v = true := by
  cases r <;> first | rfl | exact h
theorem t_own {A : Around} {env : Env} {s : Shared} {as : List Addr} {Q : Value → Shared → Prop} {E : Value → Shared → Prop} {i d : Nat} {Cl a : Addr} {l : List (Str × PV)} {name : Str} {p : PV} {b : Bool}
    (H : At C k pe as σ A s) (N : EnvRel as pe env) (O : ClsOk C.K Cl) (gi : σ[i]? = some (.inst Cl d)) (gd : σ[d]? = some (.dict l)) (hf : findIn C.K (.ref Cl) name = some none) (ea : as[i]? = some a)
    (hp : getP name l = some p) (hh : handP p = true) (h : ∀ v, VR as p v → Q v { s with toks := s.toks + 1 }) : wpAny (model C.prog C.w) A (getAttr (.ref a) name b) Q E s := by
  obtain ⟨_, _, _, F⟩ := H.frame N
  obtain ⟨dx, es, n, hdx, I, hd, er⟩ := H.inv.instAt gi gd ea
  have g := er.getL name
  rw [hp] at g
  obtain ⟨v, g1, g2⟩ := g
  exact get_own F H.ok.X I O.gets O.hasD hf rfl g1 (handP_of g2 hh) (h v g2)
/-- self.name -/
theorem hx_attr {o : Expr} {name : Str} {pos : Pos} {PQ : PV → St → Prop}
    (h : Hx C k pe o σ (fun q σ₁ => ∃ i d Cl l p, q = .obj i ∧ ClsOk C.K Cl ∧ σ₁[i]? = some (.inst Cl d) ∧ σ₁[d]? = some (.dict l) ∧ findIn C.K (.ref Cl) name = some none ∧ getP name l = some p ∧ handP p = true ∧ PQ p σ₁) PE)
    (he : ∀ env, eval (.Attribute o name pos) env = (do
      let o' ← eval o env
      standAt pos.atName
      let r ← holding [o'] (getAttr o' name true)
      letTemporaryGo o o' r
      pure r) := by intro _; rfl) : Hx C k pe (.Attribute o name pos) σ PQ PE := by
  intro A env s as Q E H N R X
  refine Attribute_any_ (h A env s as _ E H N (fun v q σ₁ as₁ s₁ h₁ a₁ x₁ r₁ i₁ w₁ => ?_) X) (he env)
  obtain ⟨i, d, Cl, l, p, rfl, O, gi, gd, hf, hp, hh, hq⟩ := h₁
  cases r₁ with
  | obj _ a e =>
    exact t_own (H.step a₁ x₁ i₁) (N.mono a₁) O gi gd hf e hp hh fun v rv => (R.go a₁ x₁ w₁).toks (H.step a₁ x₁ i₁) hq rv
/-- a method of one of the class -/
theorem tm_inst {i d : Nat} {Cl f : Addr} {l : List (Str × PV)} {name : Str} {PM : PV × List PV → St → Prop} (O : ClsOk C.K Cl) (gi : σ[i]? = some (.inst Cl d)) (gd : σ[d]? = some (.dict l))
    (hf : findIn C.K (.ref Cl) name = some (some (.ref f))) (ht : isFn C.K (.ref f) = true) (hl : getP name l = none) (h : PM (.lit (.ref f), [.obj i]) σ) : TM C k pe name (.obj i) σ PM PE := by
  intro pl A env s as Q E v H N r R X
  cases r with
  | obj _ a e =>
    obtain ⟨_, _, _, F⟩ := H.frame N
    obtain ⟨dx, es, n, hdx, I, hd, er⟩ := H.inv.instAt gi gd e
    have g := er.getL name
    rw [hl] at g
    exact method_inst F H.ok.X I O.gets hf ht g (R.here H h (.mk (.lit _) (.cons (.obj _ _ e) .nil)))
/-- what a field of one of the class holds, called -/
theorem tm_field {i d : Nat} {Cl : Addr} {l : List (Str × PV)} {name : Str} {p : PV} {PM : PV × List PV → St → Prop} (O : ClsOk C.K Cl) (gi : σ[i]? = some (.inst Cl d)) (gd : σ[d]? = some (.dict l))
    (hf : findIn C.K (.ref Cl) name = some none) (hl : getP name l = some p) (hh : handP p = true) (h : PM (p, []) σ) : TM C k pe name (.obj i) σ PM PE := by
  intro pl A env s as Q E v H N r R X
  cases r with
  | obj _ a e =>
    obtain ⟨dx, es, n, hdx, I, hd, er⟩ := H.inv.instAt gi gd e
    exact method_usual H.K I (plainGet_of O.gets).1 (plainGet_of O.gets).2 hf rfl (t_own H N O gi gd hf e hl hh fun v rv => R.toks H h (.mk rv .nil))
/-- one of the class is made -/
theorem tc_cls {Cl fI : Addr} {ps : List PV} {kws : List (Str × PV)} {PQ : PV → St → Prop} (O : ClsOk C.K Cl) (hi : findIn C.K (.ref Cl) "__init__" = some (some (.ref fI))) (hf : typeIn C.K (.ref fI) = some (.type "function"))
    (h : TF C k pe.frs pe.clean fI (.obj (σ.length + 1) :: ps) kws (σ ++ [.dict [], .inst Cl σ.length]) (fun p σ' => p = .none ∧ PQ (.obj (σ.length + 1)) σ') PE) : TC C (k + 1) pe (.lit (.ref Cl)) ps kws σ PQ PE := by
  intro A env s as Q E f' vs ks H N rf rs rk R X
  cases rf
  refine wpAny_call ?_
  obtain ⟨hh, g, d, t, os⟩ := s
  refine make_core (makes_of H.K O.makes) (looks_findIn H.K hi) (fun self => bind_fn H.K self hf) (.inl rfl) ?_
  have i1 := (H.inv.alloc (o := emptyDict) (po := .dict []) ⟨[], 0, Heap.get?_push_size _ rfl, .nil⟩)
  have i2 := i1.alloc (o := instObj Cl hh.objs.size) (po := .inst Cl σ.length) ⟨hh.objs.size, by rw [← H.inv.len]; simp, Heap.get?_push_size _ rfl⟩
  rw [List.append_assoc, List.append_assoc] at i2
  have hp : as <+: as ++ ([hh.objs.size] ++ [(hh.push emptyDict).objs.size]) := List.prefix_append _ _
  have go1 := Go.push (as := as) (s := ⟨hh, g, d, t, os⟩) (o := emptyDict) (tk := t)
  have go2 := Go.push (as := as ++ [hh.objs.size]) (s := ⟨hh.push emptyDict, g, d, t, os⟩) (o := instObj Cl hh.objs.size) (tk := t)
  have go := go1.trans go2
  rw [List.append_assoc] at go
  have ez : (hh.push emptyDict).objs.size = hh.objs.size + 1 := Heap.size_push _ _
  have ex : (as ++ ([hh.objs.size] ++ [(hh.push emptyDict).objs.size]))[σ.length + 1]? = some (hh.objs.size + 1) := by rw [← H.inv.len, ez]; simp
  have ef : (A.under (.builtin "type.__call__" ⟨.ref Cl :: vs, ks⟩)).frames = A.frames := by
    show pushEnvs [] A.frames = A.frames
    cases A.frames <;> rfl
  have hd1 := H.a.depth
  have hu1 := H.a.units
  refine codeAny_mono (h (A.under (.builtin "type.__call__" ⟨.ref Cl :: vs, ks⟩)) _ (as ++ ([hh.objs.size] ++ [(hh.push emptyDict).objs.size])) (fun v s' => v = .none ∧ Q (.ref (hh.objs.size + 1)) s') E _ _ H.ok i2 (let ⟨e, h1, h2⟩ := H.a.frames; ⟨e, ef.trans h1, h2.mono hp⟩) H.a.clean (by show A.depth + 1 + 8 * k < _; omega) (by show A.units + 1 + 40 * k < _; omega)
    (fun i hi => (Ext.append _ _).2 i (H.frs i hi)) (.cons (.obj _ _ ex) (rs.mono hp)) (rk.mono hp) (fun v p σ' as' s' hq a₁ x₁ r₁ i₁ w₁ => ?_) (X.go hp (Ext.append _ _) go)) fun r s' z => ?_
  · obtain ⟨rfl, hq⟩ := hq
    cases r₁
    exact ⟨rfl, R _ _ _ _ _ hq (hp.trans a₁) ((Ext.append _ _).trans x₁) (.obj _ _ (pre_get a₁ ex)) i₁ (go.trans w₁)⟩
  · cases r with
    | error e => exact z
    | ok f => cases f <;> first | exact z | exact z.elim
end
end Mine

set_option maxRecDepth 100000
set_option autoImplicit false
set_option linter.unusedVariables false
set_option linter.unusedSectionVars false
namespace Mine
open PySem PySem.W PyProof.Rows PySem.Calls PySem.SeqAt PySem.NumText
/-- the number of a row of noughts and ones -/
def val2 (l : List Nat) : Nat := l.foldl (fun a c => a * 2 + (c - 48)) 0
def Bits (l : List Nat) : Prop := ∀ c ∈ l, c = 48 ∨ c = 49
theorem bits_blank {l : List Nat} (h : Bits l) : l.dropWhile blank = l := by
  cases l with
  | nil => rfl
  | cons c l =>
    have : blank c = false := by rcases h c (.head _) with rfl | rfl <;> decide
    rw [List.dropWhile_cons, this]
    rfl
theorem bits_sign {l : List Nat} (h : Bits l) : sign l = (false, l) := by
  cases l with
  | nil => rfl
  | cons c l => rcases h c (.head _) with rfl | rfl <;> rfl
theorem bits_based {l : List Nat} (h : Bits l) : based 2 l = (2, false, l) := by
  have : prefix? l = none := by
    match l, h with
    | [], _ => rfl
    | [c], h => rcases h c (.head _) with rfl | rfl <;> rfl
    | c :: d :: l, h =>
      rcases h c (.head _) with rfl | rfl <;> rcases h d (.tail _ (.head _)) with rfl | rfl <;> rfl
  unfold based
  rw [this]
  rfl
theorem bits_step {l : List Nat} : ∀ (p : Array Nat × Bool), Bits l → l.foldlM (step 2) p = some ((p.1 ++ (l.map (· - 48)).toArray), if l.isEmpty then p.2 else true) := by
  induction l with
  | nil => intro p _; simp
  | cons c l ih =>
    intro p h
    have hs : step 2 p c = some (p.1.push (c - 48), true) := by
      rcases h c (.head _) with rfl | rfl <;> rfl
    rw [List.foldlM_cons, hs]
    show l.foldlM (step 2) (p.1.push (c - 48), true) = _
    rw [ih _ fun c hc => h c (.tail _ hc)]
    simp
theorem judge_two (ds : Array Nat) : judge 0 false 2 false (some ds) = (int_private% "Numeral.value") ((ds.foldl (fun acc d => acc * 2 + d) 0 : Nat) : Int) := rfl
theorem readNumeral_two {l : List Nat} (h : Bits l) (hne : l ≠ []) : (int_private% "readNumeral") 0 2 l = (int_private% "Numeral.value") ((val2 l : Nat) : Int) := by
  refine (readNumeral_eq 0 2 l).trans ?_
  rw [bits_blank h, bits_sign h, bits_based h]
  have hr : Bits l.reverse := fun c hc => h c (List.mem_reverse.mp hc)
  have e : digits? 2 l = some (l.map (· - 48)).toArray := by
    unfold digits?
    rw [bits_step _ h]
    have : l.isEmpty = false := by cases l with | nil => exact absurd rfl hne | cons _ _ => rfl
    simp [this]
  simp only [bits_blank hr, List.reverse_reverse, e]
  have e2 : (l.map (· - 48)).toArray.foldl (fun acc d => acc * 2 + d) 0 = val2 l := by
    unfold val2
    rw [List.foldl_toArray, List.foldl_map]
  show judge 0 false 2 false (some (l.map (· - 48)).toArray) = _
  rw [judge_two, e2]
theorem wp_text2 {M : Model} {A : Around} {E : Value → Shared → Prop} {s : Shared} {Q : Value → Shared → Prop} {v : Value} {text : List Nat} {n : Int}
    (hs : (text.takeWhile (· != 0)).length ≤ 640) (hr : (int_private% "readNumeral") 0 2 (text.takeWhile (· != 0)) = (int_private% "Numeral.value") n)
    (ha : ((text.takeWhile (· != 0)).length == text.length) = true) (h : Q (.int n s.toks) { s with toks := s.toks + 1 }) :
    wpAny M A ((int_private% "intFromText") v text 2) Q E s := by
  obtain ⟨hp, g, d, tk, os⟩ := s
  repeat (any_goals (first
    | assumption
    | (with_reducible refine wpAny_ite_true (decide_eq_true hs) ?_)
    | (with_reducible refine wpAny_ite_true (decide_eq_true ha) ?_)
    | wp_step))
  all_goals (try rw [hr])
  all_goals (try dsimp only)
  repeat (any_goals (first
    | assumption
    | (with_reducible refine wpAny_ite_true (decide_eq_true hs) ?_)
    | (with_reducible refine wpAny_ite_true (decide_eq_true ha) ?_)
    | wp_step))
structure Kept (p : Prop) : Prop where
  out : p
theorem all_ascii {x : Str} (h : Bits x.cps.toList) : (x.cps.all (· < 128)) = true := by
  rw [← Array.all_toList, List.all_eq_true]
  intro c hc
  rcases h c hc with rfl | rfl <;> decide
theorem bits_take {l : List Nat} (h : Bits l) : l.takeWhile (· != 0) = l := by
  induction l with
  | nil => rfl
  | cons c l ih =>
    have : (c != 0) = true := by rcases h c (.head _) with rfl | rfl <;> decide
    rw [List.takeWhile_cons, this, ih fun c hc => h c (.tail _ hc)]
    rfl
set_option maxHeartbeats 4000000 in
theorem gives_bits {x : Str} {u v : Tok} (hl : x.length ≤ 640) (hb : Bits x.cps.toList) (hne : x.cps.toList ≠ []) :
    Gives (Builtin.«int.__new__» ⟨[.type "int", .str x u, .int 2 v], []⟩) (.int ((val2 x.cps.toList : Nat) : Int)) :=
  .of_wp fun M A E s Q h => by
    obtain ⟨hp, g, d, tk, os⟩ := s
    have f1 := F.conv_sub_int
    have f2 := F.madeHere_int
    have ft : typeOf (.str x u) = pure (.type "str") := rfl
    have e := bits_take hb
    have hk := Kept.mk (And.intro (show (x.cps.toList.takeWhile (· != 0)).length ≤ 640 by rw [e]; simpa [Str.length] using hl)
      (And.intro (show (int_private% "readNumeral") 0 2 (x.cps.toList.takeWhile (· != 0)) = (int_private% "Numeral.value") ((val2 x.cps.toList : Nat) : Int) by rw [e]; exact readNumeral_two hb hne)
        (And.intro (show ((x.cps.toList.takeWhile (· != 0)).length == x.cps.toList.length) = true by rw [e]; simp) (all_ascii hb))))
    clear hl hb hne e
    repeat (any_goals (first
      | assumption
      | ((with_reducible show wpAny _ _ ((int_private% "intFromText") _ _ _) _ _ _); refine wp_text2 hk.out.1 hk.out.2.1 hk.out.2.2.1 ?_)
      | wp_step))
    all_goals simp only [hk.out.2.2.2, if_true]
    all_goals rw [if_pos hk.out.1]
    all_goals refine wpAny_bind (wpAny_pure ?_)

    all_goals rw [show Int.toNat 2 = 2 from rfl, hk.out.2.1]
    repeat (any_goals (first
      | assumption
      | (with_reducible refine wpAny_ite_true (decide_eq_true hk.out.2.2.1) ?_)
      | wp_step))
    all_goals exact ⟨_, rfl, h⟩
theorem int2_type (a b : Value) : checkTypeCall "int" ⟨[a, b], []⟩ = pure () := by kernel_rfl
theorem int2_new (a b : Value) : checkBuiltinCall "int.__new__" ⟨[.type "int", a, b], []⟩ = pure () := by kernel_rfl
theorem int2_init (obj a b : Value) : argsOk "object.__init__" ⟨[obj, a, b], []⟩ := by unfold argsOk; kernel_rfl
section
variable {C : Cx} {k : Nat} {pe : PEnv} {σ : St} {PE : Value → St → Prop} {PQ : PV → St → Prop}
/-- int(text, 2) -/
theorem tc_int2 {x : Str} (hl : x.length ≤ 640) (hb : Bits x.cps.toList) (hne : x.cps.toList ≠ []) (h : PQ (.int ((val2 x.cps.toList : Nat) : Int)) σ) : TC C k pe (.lit (.type "int")) [.str x, .int 2] [] σ PQ PE := tc_of2 fun A env s as Q E v u H N r1 r2 R X => by
  cases r1; cases r2
  exact callType_new F.called_int F.newNe_int (int2_type _ _) (int2_new _ _) (fun obj => int2_init obj _ _) F.entry_int_new (gives_bits hl hb hne).meets (show (Made.int _).post _ s from ⟨rfl, R.toks H h (.int _ _)⟩)
end
end Mine

set_option maxRecDepth 100000
set_option autoImplicit false
set_option linter.unusedVariables false
set_option linter.unusedSectionVars false
namespace Mine
open PySem PySem.W PyProof.Rows PySem.Calls PySem.SeqAt
section
variable {C : Cx} {k : Nat} {pe : PEnv} {σ : St} {PE : Value → St → Prop} {PQ : PV → St → Prop}
/-- a step of the library that makes one object: everything else is in its account -/
theorem via_news {A : Around} {env : Env} {s : Shared} {as : List Addr} (H : At C k pe as σ A s) (N : EnvRel as pe env) :
    ∃ (af : Addr) (m : Str → Option Value) (news : List (Addr × Obj)), Fr C.h₀ af s.heap m ∧ News C.h₀ af s.heap news ∧
      ∀ (h' : Heap) (o : Obj) (po : PO) (tk : Nat), Fr C.h₀ af h' m → News C.h₀ af h' ((s.heap.objs.size, o) :: news) → HR (as ++ [s.heap.objs.size]) h' s.heap.objs.size po → C.h₀.objs.size ≤ s.heap.objs.size →
        HInv C.h₀ (as ++ [s.heap.objs.size]) (σ ++ [po]) h' ∧ Go as s (as ++ [s.heap.objs.size]) { s with heap := h', toks := tk } := by
  obtain ⟨f, af, e1, nn, lL, e2⟩ := H.aframe N
  obtain ⟨hL, m, hn, hm⟩ := H.inv.rel f af _ e1 e2
  have F : Fr C.h₀ af s.heap m := ⟨hn, H.inv.base, H.inv.above f af nn lL e1 e2⟩
  obtain ⟨rest, hrest1, hrest2⟩ : ∃ rest : List (Addr × Obj), (∀ q ∈ rest, q.1 ≠ af ∧ C.h₀.get? q.1 = none ∧ s.heap.get? q.1 = some q.2) ∧ ∀ b o, b ≠ af → C.h₀.get? b = none → s.heap.get? b = some o → (b, o) ∈ rest := by
    refine ⟨(List.range s.heap.objs.size).filterMap fun b => if b = af ∨ (C.h₀.get? b).isSome then none else (s.heap.get? b).map fun o => (b, o), ?_, ?_⟩
    · intro q hq
      obtain ⟨b, _, hb⟩ := List.mem_filterMap.mp hq
      split at hb
      · cases hb
      · rename_i hc
        rw [Option.map_eq_some_iff] at hb
        obtain ⟨o, ho, rfl⟩ := hb
        refine ⟨fun z => hc (.inl z), ?_, ho⟩
        cases hz : C.h₀.get? b with
        | none => rfl
        | some _ => exact absurd (.inr (by rw [hz]; rfl)) hc
    · intro b o h2 h3 h4
      refine List.mem_filterMap.mpr ⟨b, List.mem_range.mpr (Heap.lt_size h4), ?_⟩
      rw [if_neg (by rw [h3]; simp [h2]), h4]
      rfl
  refine ⟨af, m, rest, F, fun q hq => ?_, fun h' o po tk F' N' R hsz => ?_⟩
  · obtain ⟨a2, a3, a4⟩ := hrest1 q hq
    exact ⟨a4, a2, a3⟩
  have old : ∀ b o, b ≠ af → s.heap.get? b = some o → h'.get? b = some o := fun b o h2 h3 => by
    cases hb : C.h₀.get? b with
    | none => exact (N' _ (.tail _ (hrest2 b o h2 hb h3))).1
    | some o' =>
      have := H.inv.base b o' hb
      rw [h3] at this
      cases this
      exact F'.keep b _ hb
  have hI : HInv C.h₀ as σ h' := by
    refine ⟨H.inv.len, H.inv.nd, F'.keep, H.inv.new, H.inv.above, ?_, fun j x po f1 f2 => ?_⟩
    · obtain ⟨o, _, _, ho, _⟩ := F'.ns
      exact Nat.le_of_lt (Nat.lt_of_le_of_lt F'.above (Heap.lt_size ho))
    · by_cases hx : x = af
      · subst hx
        have := get_inj H.inv f1 e1
        subst this
        rw [e2] at f2
        cases f2
        exact ⟨hL, m, F'.ns, hm⟩
      · exact (H.inv.rel j x po f1 f2).keep fun o e => old x o hx e
  refine ⟨hI.takes [s.heap.objs.size] [po] rfl (by simp) (fun a ha => ?_) (fun i a p g1 g2 => ?_), SRel.heap s h' tk, fun b o hb e => ⟨?_, by simp, old b o (fun q => hb (q ▸ mem_of_get? e1)) e⟩⟩
  · simp at ha; subst ha
    exact ⟨fun hm => Nat.lt_irrefl _ (H.inv.lt hm), hsz⟩
  · cases i with
    | zero => simp at g1 g2; subst g1; subst g2; exact R
    | succ i => simp at g1
  · intro hm
    rcases List.mem_append.mp hm with hm | hm
    · exact hb hm
    · simp at hm; subst hm
      exact Nat.lt_irrefl _ (Heap.lt_size e)
theorem VRs.replicate {as : List Addr} {ps : List PV} {vs : List Value} (h : VRs as ps vs) : ∀ n : Nat, VRs as (List.replicate n ps).flatten (List.replicate n vs).flatten
  | 0 => .nil
  | n + 1 => by
    rw [List.replicate_succ, List.replicate_succ, List.flatten_cons, List.flatten_cons]
    exact h.append (h.replicate n)
theorem foldl_rep (vs : List Value) : ∀ (n : Nat) (acc : Array Value), List.foldl (fun x1 x2 => x1 ++ x2) acc (List.replicate n vs.toArray) = acc ++ (List.replicate n vs).flatten.toArray
  | 0, acc => by simp
  | n + 1, acc => by
    rw [List.replicate_succ, List.foldl_cons, foldl_rep vs n, List.replicate_succ, List.flatten_cons]
    simp
/-- a list so many times -/
theorem t2_mul_list {l : Nat} {xs : List PV} {x : Int} (g : σ[l]? = some (.list xs)) (hne : xs ≠ []) (h0 : 0 ≤ x) (hz : xs.length * x.toNat ≤ 2 ^ 24) (h : PQ (.obj σ.length) (σ ++ [.list (List.replicate x.toNat xs).flatten])) : T2 C k pe (binaryOp .Mult) VR (.obj l) (.int x) σ PQ PE := by
  intro A env s as Q E v u H N r1 r2 R X
  cases r2
  cases r1 with
  | obj _ a e =>
    obtain ⟨vs, ⟨n, hl⟩, rv⟩ := H.inv.atRef g e
    obtain ⟨af, m, news, F, NN, back⟩ := via_news H N
    have hl0 : 1 ≤ xs.length := by cases xs with | nil => exact absurd rfl hne | cons _ _ => simp
    have hx : x.toNat ≤ 2 ^ 24 := Nat.le_trans (Nat.le_mul_of_pos_left _ hl0) hz
    have hne' : vs.toArray.isEmpty = false := by
      have := rv.length
      cases vs with
      | nil => simp at this; omega
      | cons _ _ => rfl
    refine mul_list F NN hl (by omega) (by omega) (by simpa [rv.length] using hz) fun h' F' N' => ?_
    obtain ⟨i, w⟩ := back h' _ (.list (List.replicate x.toNat xs).flatten) s.toks F' N' ⟨(List.replicate x.toNat vs).flatten, ⟨0, by rw [(N' _ (.head _)).1, hne', if_neg (by decide), foldl_rep]; simp⟩, (rv.replicate _).mono (List.prefix_append _ _)⟩ H.inv.size
    exact R _ (.obj σ.length) _ _ _ h (List.prefix_append _ _) (Ext.append _ _) (.obj _ _ (by rw [← H.inv.len]; simp)) i w
theorem vals_strs {as : List Addr} : ∀ (l : List (Str × Tok)), VRs as ((l.map (·.1)).map .str) (strValues l)
  | [] => .nil
  | (x, t) :: l => .cons (.str x t) (vals_strs l)
/-- text.split(sign) -/
theorem tc_split {x y : Str} (hy : (y.length == 0) = false) (hz : x.length ≤ 16000000) (h : PQ (.obj σ.length) (σ ++ [.list ((Txt.split x y).map .str)])) : TC C k pe (.lit (.builtin "str.split")) [.str x, .str y] [] σ PQ PE := tc_of2 fun A env s as Q E v u H N r1 r2 R X => by
  cases r1; cases r2
  obtain ⟨af, m, news, F, NN, back⟩ := via_news H N
  refine splitN1 F NN hy (fun l h' tk e F' N' => ?_) (by rw [sizeLine_eq]; omega)
  obtain ⟨i, w⟩ := back h' _ (.list ((Txt.split x y).map .str)) tk F' N' ⟨strValues l, ⟨0, (N' _ (.head _)).1⟩, by rw [← e]; exact vals_strs l⟩ H.inv.size
  exact R _ (.obj σ.length) _ _ _ h (List.prefix_append _ _) (Ext.append _ _) (.obj _ _ (by rw [← H.inv.len]; simp)) i w
end
end Mine

set_option maxRecDepth 100000
set_option autoImplicit false
set_option linter.unusedVariables false
set_option linter.unusedSectionVars false
namespace Mine
open PySem PySem.W PyProof.Rows PySem.Calls PySem.SeqAt
section
variable {C : Cx} {k : Nat} {pe : PEnv} {σ : St} {PE : Value → St → Prop} {PQ : PV → St → Prop}
theorem tc_bin {i : Int} (hz : (baseText "0b" 2 i).length ≤ 16777216) (h : PQ (.str (baseText "0b" 2 i)) σ) : TC C k pe (.lit (.builtin "bin")) [.int i] [] σ PQ PE := tc_of1 fun A env s as Q E v H N r R X => by
  cases r
  exact PySem.P.bin_of_int (R.toks H h (.str _ _)) (by rw [sizeLine_eq]; exact hz)
theorem tc_zfill {x : Str} {i : Int} (hp : PadOk i = true) (h : PQ (.str (Txt.zfill x i)) σ) : TC C k pe (.lit (.builtin "str.zfill")) [.str x, .int i] [] σ PQ PE := tc_of2 fun A env s as Q E v u H N r1 r2 R X => by
  cases r1; cases r2
  exact SC.zfill hp fun t' k' => R.toks H h (.str _ _)
theorem tc_str_int {i : Int} (hz : i.natAbs.log2 < 1920) (h : PQ (.str (Str.ofString (toString i))) σ) : TC C k pe (.lit (.type "str")) [.int i] [] σ PQ PE := tc_of1 fun A env s as Q E v H N r R X => by
  cases r
  exact PySem.P.str_of_int hz (R.toks H h (.str _ _))
theorem tc_startswith {x y : Str} (h : PQ (.bool (Txt.startswith x y)) σ) : TC C k pe (.lit (.builtin "str.startswith")) [.str x, .str y] [] σ PQ PE := tc_of2 fun A env s as Q E v u H N r1 r2 R X => by
  cases r1; cases r2
  exact SC.startswith (R.here H h (.bool _))
theorem strs_vals {as : List Addr} : ∀ {xs : List Str} {vs : List Value}, VRs as (xs.map .str) vs → ∃ l : List (Str × Tok), vs = strValues l ∧ l.map (·.1) = xs
  | [], _, .nil => ⟨[], rfl, rfl⟩
  | x :: xs, _, .cons r h => by
    cases r
    obtain ⟨l, rfl, e⟩ := strs_vals h
    exact ⟨(x, _) :: l, rfl, by rw [List.map_cons, e]⟩
theorem tc_join {x : Str} {l : Nat} {xs : List Str} (g : σ[l]? = some (.list (xs.map .str))) (hok : JoinOk x xs = true) (h : PQ (.str (Txt.join x xs)) σ) : TC C k pe (.lit (.builtin "str.join")) [.str x, .obj l] [] σ PQ PE := tc_of2 fun A env s as Q E v u H N r1 r2 R X => by
  cases r1
  cases r2 with
  | obj _ a e =>
    obtain ⟨vs, hl, rv⟩ := H.inv.atRef g e
    obtain ⟨ls, rfl, ht⟩ := strs_vals rv
    exact SC.join hl.isList ht hok fun t' k' => R.toks H h (.str _ _)
/-- xs.append(x) -/
theorem tc_append {l : Nat} {xs : List PV} {p : PV} (g : σ[l]? = some (.list xs)) (hz : xs.length ≤ 16777216) (h : PQ .none (σ.set l (.list (xs ++ [p])))) : TC C k pe (.lit (.builtin "list.append")) [.obj l, p] [] σ PQ PE := tc_of2 fun A env s as Q E v u H N r1 r2 R X => by
  cases r1 with
  | obj _ a e =>
    obtain ⟨vs, hl, rv⟩ := H.inv.atRef g e
    refine wpAny_list_append_plain hl (fun h' hl' hs' => ?_) (by rw [sizeLine_eq]; simp [rv.length]; exact hz)
    refine R _ _ (σ.set l (.list (xs ++ [p]))) as _ h (List.prefix_refl _) (Ext.set g fun _ _ z => nomatch z) .none (H.inv.put e hs' ⟨vs ++ [u], by simpa using hl', rv.append (.cons r2 .nil)⟩ (fun _ _ z => nomatch z)) (Go.put (tk := s.toks) (mem_of_get? e) hs')
theorem tm_append {l : Nat} {xs : List PV} {PM : PV × List PV → St → Prop} (g : σ[l]? = some (.list xs)) (h : PM (.lit (.builtin "list.append"), [.obj l]) σ) : TM C k pe "append" (.obj l) σ PM PE := by
  intro pl A env s as Q E v H N r R X
  cases r with
  | obj _ a e =>
    obtain ⟨vs, hl, rv⟩ := H.inv.atRef g e
    obtain ⟨n, ho⟩ := hl
    exact getMethod_builtin ⟨_, ho, rfl⟩ PySem.F.plainAttrs_list PySem.F.slot_list_append PySem.F.type_list_append (fun _ z => by cases z; exact ⟨_, ho, rfl⟩) (R.here H h (.mk (.lit _) (.cons (.obj _ _ e) .nil)))
theorem t2_add_list {i j : Nat} {xs ys : List PV} (g : σ[i]? = some (.list xs)) (g' : σ[j]? = some (.list ys)) (hz : xs.length + ys.length ≤ 16777216) (h : PQ (.obj σ.length) (σ ++ [.list (xs ++ ys)])) : T2 C k pe (binaryOp .Add) VR (.obj i) (.obj j) σ PQ PE := by
  intro A env s as Q E v u H N r1 r2 R X
  cases r1 with
  | obj _ a e =>
    cases r2 with
    | obj _ b e' =>
      obtain ⟨vs, ⟨n, hl⟩, rv⟩ := H.inv.atRef g e
      obtain ⟨us, ⟨m, hl'⟩, ru⟩ := H.inv.atRef g' e'
      refine P.add_list hl hl' ?_ (by rw [sizeLine_eq]; simp [rv.length, ru.length]; exact hz)
      refine R.newObj H h ?_
      exact ⟨vs ++ us, ⟨0, by rw [Heap.get?_push_size _ rfl]; simp⟩, (rv.append ru).mono (List.prefix_append _ _)⟩
end
end Mine

set_option maxRecDepth 100000
set_option autoImplicit false
set_option linter.unusedVariables false
namespace Mine
open PySem PySem.W PyProof.Rows PySem.Calls PySem.SeqAt
/-- a number's last k binary signs -/
def bits (n k : Nat) : List Nat := (List.range k).map fun i => 48 + n / 2 ^ (k - 1 - i) % 2
theorem bits_len (n k : Nat) : (bits n k).length = k := by simp [bits]
theorem bits_zero (n : Nat) : bits n 0 = [] := rfl
theorem bits_succ (n k : Nat) : bits n (k + 1) = bits (n / 2) k ++ [48 + n % 2] := by
  unfold bits
  rw [List.range_succ, List.map_append]
  congr 1
  · refine List.map_congr_left fun i hi => ?_
    have hi := List.mem_range.mp hi
    have e : k + 1 - 1 - i = (k - 1 - i) + 1 := by omega
    rw [e, Nat.pow_succ, Nat.mul_comm, ← Nat.div_div_eq_div_mul]
  · simp
theorem bits_Bits (n k : Nat) : Bits (bits n k) := fun c hc => by
  unfold bits at hc
  obtain ⟨i, _, rfl⟩ := List.mem_map.mp hc
  omega
theorem val2_snoc (l : List Nat) (c : Nat) : val2 (l ++ [c]) = val2 l * 2 + (c - 48) := by
  unfold val2
  rw [List.foldl_append]
  rfl
theorem val2_bits : ∀ (k n : Nat), val2 (bits n k) = n % 2 ^ k
  | 0, n => by simp [bits, val2, Nat.mod_one]
  | k + 1, n => by
    rw [bits_succ, val2_snoc, val2_bits k, Nat.pow_succ, Nat.mul_comm (2 ^ k) 2, Nat.mod_mul]
    omega
theorem bits_append : ∀ (b x y a : Nat), y < 2 ^ b → bits (x * 2 ^ b + y) (a + b) = bits x a ++ bits y b
  | 0, x, y, a, h => by
    have : y = 0 := by simpa using h
    subst this
    simp [bits_zero]
  | b + 1, x, y, a, h => by
    rw [Nat.pow_succ] at h
    rw [← Nat.add_assoc, bits_succ, bits_succ y b, ← List.append_assoc]
    have e1 : (x * 2 ^ (b + 1) + y) / 2 = x * 2 ^ b + y / 2 := by rw [Nat.pow_succ, ← Nat.mul_assoc]; omega
    have e2 : (x * 2 ^ (b + 1) + y) % 2 = y % 2 := by rw [Nat.pow_succ, ← Nat.mul_assoc]; omega
    rw [e1, e2, bits_append b x (y / 2) a (by omega)]
theorem bits_split (n a b : Nat) : bits n (a + b) = bits (n / 2 ^ b) a ++ bits (n % 2 ^ b) b := by
  have := bits_append b (n / 2 ^ b) (n % 2 ^ b) a (Nat.mod_lt _ (Nat.two_pow_pos b))
  rw [← this, Nat.div_add_mod']
theorem bits_mod (n k : Nat) : bits (n % 2 ^ k) k = bits n k := by
  have := bits_split n 0 k
  rw [Nat.zero_add, bits_zero, List.nil_append] at this
  exact this.symm
theorem bits_first (n a b : Nat) : (bits n (a + b)).take a = bits (n / 2 ^ b) a := by
  rw [bits_split, List.take_left' (bits_len _ _)]
theorem bits_drop (n a b : Nat) : (bits n (a + b)).drop a = bits n b := by
  rw [bits_split, List.drop_left' (bits_len _ _), bits_mod]
/-- a part of a row -/
theorem bits_part (n a b c : Nat) : ((bits n (a + (b + c))).drop a).take b = bits (n / 2 ^ c) b := by
  rw [bits_drop, bits_first]
theorem digits2 : ∀ (k n : Nat), n < 2 ^ (k + 1) → (Nat.toDigits 2 n).length ≤ k + 1 ∧ List.replicate (k + 1 - (Nat.toDigits 2 n).length) 48 ++ (Nat.toDigits 2 n).map Char.toNat = bits n (k + 1)
  | 0, n, h => by
    have : n = 0 ∨ n = 1 := by simp at h; omega
    rcases this with rfl | rfl <;> decide
  | k + 1, n, h => by
    by_cases h2 : n < 2
    · have e : Nat.toDigits 2 n = [Nat.digitChar n] := Nat.toDigits_of_lt_base h2
      obtain ⟨h3, h4⟩ := digits2 k (n / 2) (by rw [show n / 2 = 0 by omega]; exact Nat.two_pow_pos _)
      have e0 : n / 2 = 0 := by omega
      rw [e0] at h4
      have e1 : Nat.toDigits 2 0 = ['0'] := by decide
      rw [e1] at h4
      rw [bits_succ, e0, ← h4, e]
      have e3 : n % 2 = n := by omega
      have e4 : (Nat.digitChar n).toNat = 48 + n := by
        have : n = 0 ∨ n = 1 := by omega
        rcases this with rfl | rfl <;> decide
      refine ⟨by simp, ?_⟩
      rw [e3]
      simp only [List.length_cons, List.length_nil, List.map_cons, List.map_nil, e4]
      have e5 : k + 1 + 1 - (0 + 1) = (k + 1 - (0 + 1)) + 1 := by omega
      rw [e5, List.replicate_succ']
      rfl
    · have hd : n = 2 * (n / 2) + n % 2 := by omega
      have hlt : n / 2 < 2 ^ (k + 1) := by rw [Nat.pow_succ] at h; omega
      obtain ⟨h3, h4⟩ := digits2 k (n / 2) hlt
      have e : Nat.toDigits 2 n = Nat.toDigits 2 (n / 2) ++ Nat.toDigits 2 (n % 2) := by
        have := Nat.toDigits_append_toDigits (b := 2) (n := n / 2) (d := n % 2) (by decide) (by omega) (by omega)
        rw [this, ← hd]
      have e4 : Nat.toDigits 2 (n % 2) = [Nat.digitChar (n % 2)] := Nat.toDigits_of_lt_base (by omega)
      have e5 : (Nat.digitChar (n % 2)).toNat = 48 + n % 2 := by
        have : n % 2 = 0 ∨ n % 2 = 1 := by omega
        rcases this with h | h <;> rw [h] <;> decide
      rw [e, e4, List.length_append, bits_succ, ← h4, List.map_append]
      refine ⟨by simp; omega, ?_⟩
      rw [List.append_assoc]
      simp only [List.length_cons, List.length_nil, List.map_cons, List.map_nil, e5, Nat.zero_add]
      rw [show k + 1 + 1 - ((Nat.toDigits 2 (n / 2)).length + 1) = k + 1 - (Nat.toDigits 2 (n / 2)).length by omega]
theorem cutS_from2 {x y : Str} (hx : x.cps.size = 2) : cutS (x ++ y) (some 2) none = y := by
  unfold cutS cut
  show (⟨(((x.cps ++ y.cps).toList.drop (clipAt (x.cps ++ y.cps).toList.length 2)).take ((x.cps ++ y.cps).toList.length - clipAt (x.cps ++ y.cps).toList.length 2)).toArray⟩ : Str) = y
  have e1 : (x.cps ++ y.cps).toList = x.cps.toList ++ y.cps.toList := by simp
  have hl : x.cps.toList.length = 2 := by simpa using hx
  have e2 : clipAt (x.cps ++ y.cps).toList.length 2 = 2 := by
    rw [e1, List.length_append, hl]
    unfold clipAt
    rw [if_neg (by decide)]
    omega
  rw [e2, e1, List.drop_left' hl, List.length_append, hl, List.take_of_length_le (by omega)]
theorem bin_text (n : Nat) : cutS (baseText "0b" 2 (n : Int)) (some 2) none = ⟨((Nat.toDigits 2 n).map Char.toNat).toArray⟩ := by
  rw [baseText_nonneg (by omega)]
  have e : Str.ofString "" ++ Str.ofString "0b" = Str.ofString "0b" := by decide +kernel
  rw [e, cutS_from2 (by decide +kernel), Str.ofString_eq_toList, Int.natAbs_natCast]
  simp
theorem zfill_bits {n k : Nat} (hk : 1 ≤ k) (h : n < 2 ^ k) : Txt.zfill ⟨((Nat.toDigits 2 n).map Char.toNat).toArray⟩ (k : Int) = ⟨(bits n k).toArray⟩ := by
  obtain ⟨k, rfl⟩ : ∃ j, k = j + 1 := ⟨k - 1, by omega⟩
  obtain ⟨h1, h2⟩ := digits2 k n h
  have hlen : (⟨((Nat.toDigits 2 n).map Char.toNat).toArray⟩ : Str).length = (Nat.toDigits 2 n).length := by show (List.map _ _).toArray.size = _; simp
  have hb : ∀ c ∈ (Nat.toDigits 2 n).map Char.toNat, c = 48 ∨ c = 49 := fun c hc => by
    have : c ∈ bits n (k + 1) := by rw [← h2]; exact List.mem_append_right _ hc
    exact bits_Bits _ _ c this
  unfold Txt.zfill
  rw [hlen]
  split
  · rename_i hh
    have e : k + 1 - (Nat.toDigits 2 n).length = 0 := by omega
    rw [e, List.replicate_zero, List.nil_append] at h2
    rw [h2]
  · have hz : ∀ (d : List Nat) (r : Nat), (∀ c ∈ d, c = 48 ∨ c = 49) → PySem.zfilled ⟨d.toArray⟩ r = ⟨(List.replicate r 48 ++ d).toArray⟩ := fun d r hd => by
      unfold PySem.zfilled
      have : Builtin.Str.padded ⟨d.toArray⟩ r 0 48 = ⟨(List.replicate r 48 ++ d).toArray⟩ := by
        unfold Builtin.Str.padded
        simp
      cases d with
      | nil => exact this
      | cons c d =>
        rcases hd c (.head _) with rfl | rfl
        · exact this
        · exact this
    rw [hz _ _ hb, ← h2]
    congr 4
end Mine

set_option maxRecDepth 100000
set_option autoImplicit false
set_option linter.unusedVariables false
set_option linter.unusedSectionVars false
namespace Mine
open PySem PySem.W PyProof.Rows PySem.Calls PySem.SeqAt
section
variable {C : Cx} {k : Nat} {pe : PEnv} {σ : St} {PE : Value → St → Prop}
/-- a call's leavings fall -/
def Fallen (σ : St) (PQ : PV → St → Prop) (p : PV) (σ' : St) : Prop := ∃ σ'', Shrink σ' σ'' ∧ σ.length ≤ σ''.length ∧ (Imm p ∨ ∃ i, p = .obj i ∧ i < σ''.length) ∧ PQ p σ''
theorem Run.shrink {as : List Addr} {s : Shared} {PQ : PV → St → Prop} {Q : Value → Shared → Prop} (R : Run C as σ s VR PQ Q) (H : HInv C.h₀ as σ s.heap) : Run C as σ s VR (Fallen σ PQ) Q := by
  intro a b σ' as' s' ⟨σ'', S, hl, hp, h⟩ p x r i w
  refine R a b σ'' (as'.take σ''.length) s' h (take_pre p (by rw [H.len]; exact hl)) (x.shrink S hl) ?_ (i.shrink S) ⟨w.srel, fun b o hb e => let ⟨g1, g2, g3⟩ := w.kp b o hb e; ⟨fun hm => g1 (List.mem_of_mem_take hm), g2, g3⟩⟩
  rcases hp with hp | ⟨j, rfl, hj⟩
  · cases hp <;> cases r <;> constructor
  · cases r with
    | obj _ a e => exact .obj _ _ (by rw [List.getElem?_take_of_lt hj]; exact e)
theorem tf_fall {frs : List Nat} {cl : Bool} {f : Addr} {ps : List PV} {kws : List (Str × PV)} {PQ : PV → St → Prop} (h : TF C k frs cl f ps kws σ (Fallen σ PQ) PE) : TF C k frs cl f ps kws σ PQ PE :=
  fun A s as Q E vs ks O H a1 a2 a3 a4 a5 rs rk R X => h A s as Q E vs ks O H a1 a2 a3 a4 a5 rs rk (R.shrink H) X
theorem hx_fall {e : Expr} {PQ : PV → St → Prop} (h : Hx C k pe e σ (Fallen σ PQ) PE) : Hx C k pe e σ PQ PE :=
  fun A env s as Q E H N R X => h A env s as Q E H N (R.shrink H.inv) X
/-- the parts of a text -/
def HJ (C : Cx) (k : Nat) (pe : PEnv) (out : Str) (es : List Expr) (σ : St) (PQ : PV → St → Prop) (PE : Value → St → Prop) : Prop := Tr C k pe (fun env => joinParts out (evalEach es env)) VR σ PQ PE
theorem hj_nil {out : Str} {PQ : PV → St → Prop} (hz : out.length ≤ 16777216) (h : PQ (.str out) σ) : HJ C k pe out [] σ PQ PE := fun A env s as Q E H N R X =>
  joinParts_nil (R.toks H h (.str _ _)) (by rw [sizeLine_eq]; exact hz)
theorem hj_cons {out : Str} {e : Expr} {es : List Expr} {PQ : PV → St → Prop} (h : Hx C k pe e σ (fun p σ₁ => ∃ y, p = .str y ∧ (out ++ y).length ≤ 16777216 ∧ HJ C k pe (out ++ y) es σ₁ PQ PE) PE) : HJ C k pe out (e :: es) σ PQ PE := fun A env s as Q E H N R X => by
  refine joinParts_cons (h A env s as _ E H N (fun v p σ₁ as₁ s₁ h₁ a₁ x₁ r₁ i₁ w₁ => ?_) X)
  obtain ⟨y, rfl, hz, hj⟩ := h₁
  cases r₁
  exact ⟨by rw [sizeLine_eq]; exact hz, hj A env s₁ as₁ Q E (H.step a₁ x₁ i₁) (N.mono a₁) (R.go a₁ x₁ w₁) (X.go a₁ x₁ w₁)⟩
theorem hx_joined {e e' : Expr} {es : List Expr} {pos : Pos} {PQ : PV → St → Prop} (h : HJ C k pe Str.empty (e :: e' :: es) σ PQ PE) : Hx C k pe (.JoinedStr (e :: e' :: es) pos) σ PQ PE := fun A env s as Q E H N R X =>
  JoinedStr_many (h A env s as Q E H N R X)
theorem hx_fmt_int {e : Expr} {pos : Pos} {PQ : PV → St → Prop} (h : Hx C k pe e σ (fun p σ₁ => ∃ a : Int, p = .int a ∧ a.natAbs.log2 < 1920 ∧ PQ (.str (Str.ofString (toString a))) σ₁) PE) : Hx C k pe (.FormattedValue e (-1) none pos) σ PQ PE := fun A env s as Q E H N R X => by
  refine FormattedValue_plain (h A env s as _ E H N (fun v p σ₁ as₁ s₁ h₁ a₁ x₁ r₁ i₁ w₁ => ?_) X)
  obtain ⟨a, rfl, hz, hq⟩ := h₁
  cases r₁
  exact formatField_int_small hz ((R.go a₁ x₁ w₁).toks (H.step a₁ x₁ i₁) hq (.str _ _))
theorem int_text_len {a : Nat} {k : Nat} (hk : 1 ≤ k) (h : a < 10 ^ k) : (Str.ofString (toString (a : Int))).length ≤ k := by
  have e : toString (a : Int) = String.ofList (Nat.toDigits 10 a) := rfl
  rw [e, ofString_ofList_length]
  exact toDigits_len_pow (by decide) hk h
end
end Mine

set_option maxRecDepth 100000
set_option autoImplicit false
set_option linter.unusedVariables false
set_option linter.unusedSectionVars false
namespace Mine
open PySem PySem.W PyProof.Rows PySem.Calls PySem.SeqAt
/-- where a method of the class lies -/
def metA (K : Frag) (x : Str) : Addr := match findIn K (.ref (gaddr K "Mnemonic")) x with | some (some (.ref f)) => f | _ => 0
def dtok (K : Frag) (a : Addr) : Tok := match (seqIn K a).map Array.toList with | some (Value.int _ t :: _) => t | _ => 0
def mixC : Int := 99921729376415526104573822154211693476937510582163540732163254731260957281873
def mixH (b : Array UInt8) : Array UInt8 := toB ((((fromB b : Int) + 1) * mixC) % 2 ^ 256).toNat 32
def smallH (b : Array UInt8) : Array UInt8 := toB ((fromB b : Int) % 65521).toNat 32
def fullH (b : Array UInt8) : Array UInt8 := byteArr (List.replicate 31 255 ++ [(b.size : Int)])
/-- the fields of one of the class -/
def flds (radix : Int) (dg : PV) (wl : Nat) : List (Str × PV) := [("radix", .int radix), ("language", .str "plain"), ("sha256", dg), ("wordlist", .obj wl), ("delimiter", .str " ")]
/-- the whole number of octets and of their digest's first bits -/
def wholeN (b H : Array UInt8) (k : Nat) : Nat := fromB b * 2 ^ k + fromB H / 2 ^ (256 - k)
/-- the words' numbers -/
def wnum (W m i : Nat) : Nat := W / 2 ^ (11 * (m - 1 - i)) % 2048
def wnums (W m : Nat) : List Nat := (List.range m).map (wnum W m)
theorem bin_len {n k : Nat} (hk : 1 ≤ k) (h : n < 2 ^ k) : (baseText "0b" 2 (n : Int)).length ≤ k + 2 := by
  have h1 : (Nat.toDigits 2 n).length ≤ k := toDigits_len_pow (by decide) hk h
  rw [baseText_nonneg (by omega)]
  have e : Str.ofString "" ++ Str.ofString "0b" = Str.ofString "0b" := by decide +kernel
  have h2 := ofString_ofList_length (Nat.toDigits 2 n)
  rw [e, Int.natAbs_natCast]
  show ((Str.ofString "0b").cps ++ (Str.ofString (String.ofList (Nat.toDigits 2 n))).cps).size ≤ _
  rw [Array.size_append, show (Str.ofString "0b").cps.size = 2 by decide +kernel]
  change (Str.ofString (String.ofList (Nat.toDigits 2 n))).cps.size = _ at h2
  omega
theorem padOk_small {i : Int} (h0 : 0 ≤ i) (h : i ≤ 100000) : PadOk i = true := by
  unfold PadOk
  have h1 : fitsSsize i = true := by unfold fitsSsize; simp; omega
  have h2 : Builtin.Str.tooLong i.toNat = false := by unfold Builtin.Str.tooLong; rw [sizeLine_eq]; simp; omega
  rw [h1, h2]; rfl
theorem clip_nat (n a : Nat) : clipAt n (a : Int) = min a n := by
  unfold clipAt
  rw [if_neg (by omega)]
  omega
theorem cut_first {l : List Nat} {a : Nat} (h : a ≤ l.length) : cutS ⟨l.toArray⟩ none (some (a : Int)) = ⟨(l.take a).toArray⟩ := by
  unfold cutS cut
  simp only [Option.elim, clip_nat, Nat.sub_zero, List.drop_zero]
  rw [Nat.min_eq_left h]
theorem cut_mid {l : List Nat} {a b : Nat} (h : a ≤ b) (h' : b ≤ l.length) : cutS ⟨l.toArray⟩ (some (a : Int)) (some (b : Int)) = ⟨((l.drop a).take (b - a)).toArray⟩ := by
  unfold cutS cut
  simp only [Option.elim, clip_nat]
  rw [Nat.min_eq_left h', Nat.min_eq_left (by omega)]
theorem foldl_len (sep : Str) : ∀ (xs : List Str) (a n : Nat), (∀ x ∈ xs, x.length ≤ n) → xs.foldl (fun a x => a + x.length + sep.length) a ≤ a + xs.length * (n + sep.length)
  | [], a, n, _ => by simp
  | x :: xs, a, n, h => by
    rw [List.foldl_cons]
    refine Nat.le_trans (foldl_len sep xs _ n fun y hy => h y (.tail _ hy)) ?_
    have := h x (.head _)
    rw [List.length_cons, Nat.succ_mul]
    omega
theorem joinOk_small {sep : Str} {xs : List Str} {n : Nat} (h : ∀ x ∈ xs, x.length ≤ n) (hz : xs.length * (n + sep.length) ≤ 16777216) : JoinOk sep xs = true := by
  unfold JoinOk
  have := foldl_len sep xs 0 n h
  have h2 : Builtin.Str.tooLong (xs.toArray.foldl (fun a x => a + x.length + sep.length) 0) = false := by
    unfold Builtin.Str.tooLong
    rw [sizeLine_eq, List.foldl_toArray]
    simp
    omega
  rw [h2]; rfl
theorem fromB_2 {b : Array UInt8} {s : Nat} (h : b.size = s) : fromB b < 2 ^ (8 * s) := by
  have := fromB_lt b
  rw [h] at this
  have e2 : (256 : Nat) = 2 ^ 8 := by decide
  rwa [e2, ← Nat.pow_mul] at this
theorem str_app (l m : List Nat) : ((⟨l.toArray⟩ : Str) ++ (⟨m.toArray⟩ : Str)) = ⟨(l ++ m).toArray⟩ := by
  show (⟨l.toArray ++ m.toArray⟩ : Str) = _
  simp
theorem whole_bits {data H : Array UInt8} {s k : Nat} (hs : data.size = s) (hH : H.size = 32) (hk : k ≤ 256) : bits (fromB data) (8 * s) ++ (bits (fromB H) 256).take k = bits (wholeN data H k) (8 * s + k) := by
  have e : 256 = k + (256 - k) := by omega
  have h1 : (bits (fromB H) 256).take k = bits (fromB H / 2 ^ (256 - k)) k := by
    conv => lhs; rw [e]
    exact bits_first _ _ _
  have hl : fromB H / 2 ^ (256 - k) < 2 ^ k := by
    rw [Nat.div_lt_iff_lt_mul (Nat.two_pow_pos _), ← Nat.pow_add, ← e]
    exact fromB_2 hH
  rw [h1, wholeN, bits_append _ _ _ _ hl]
theorem word_part {W m i : Nat} (hi : i < m) : ((bits W (11 * m)).drop (i * 11)).take 11 = bits (W / 2 ^ (11 * (m - 1 - i))) 11 := by
  have e : 11 * m = i * 11 + (11 + 11 * (m - 1 - i)) := by omega
  conv => lhs; rw [e]
  exact bits_part _ _ _ _
theorem getD_lt {α : Type} {ws : List α} {n : Nat} {d : α} (h : n < ws.length) : ws.getD n d = ws[n] := by
  simp [List.getD, h]
theorem wnum_int {W m i : Nat} : val2 (bits (W / 2 ^ (11 * (m - 1 - i))) 11) = wnum W m i := by
  rw [val2_bits]; rfl
theorem rangeP_nat {m : Nat} : rangeP 0 (m : Int) = (List.range m).map fun (i : Nat) => PV.int (i : Int) := by
  unfold rangeP
  rw [show ((m : Int) - 0).toNat = m by omega]
  refine List.map_congr_left fun i _ => ?_
  simp
theorem rangeP_cons {m i : Nat} {p : PV} {ps : List PV} (h : p :: ps = (rangeP 0 (m : Int)).drop i) : i < m ∧ p = .int (i : Int) ∧ ps = (rangeP 0 (m : Int)).drop (i + 1) := by
  rw [rangeP_nat] at h ⊢
  have hi : i < m := by
    refine Nat.lt_of_not_le fun hh => ?_
    rw [List.drop_eq_nil_of_le (by simp; exact hh)] at h
    cases h
  have hl : i < ((List.range m).map fun (i : Nat) => PV.int (i : Int)).length := by simpa using hi
  rw [List.drop_eq_getElem_cons hl] at h
  simp only [List.cons.injEq] at h
  refine ⟨hi, ?_, h.2⟩
  rw [h.1]
  simp
theorem rangeP_nil {m i : Nat} (h : [] = (rangeP 0 (m : Int)).drop i) (hi : i ≤ m) : i = m := by
  rw [rangeP_nat] at h
  have := congrArg List.length h
  simp at this
  omega
theorem vErr : isSubtype (.type ((Manifest.find? "ValueError").elim "type" fun x => x.metatype)) (.type "tuple") = pure false := by kernel_rfl
theorem mulOk2 {a b : Int} {m n : Nat} (ha : a.natAbs < 2 ^ m) (hb : b.natAbs < 2 ^ n) (h : m + n ≤ 134217728) : IntMulOk a b := by
  have h1 := PySem.intBits_le_iff.mpr ha
  have h2 := PySem.intBits_le_iff.mpr hb
  unfold IntMulOk Builtin.Int.intTooBig
  have e : bitsLine = 134217728 := by decide
  rw [e]
  simp
  omega
theorem lawNum_lt {xs : List Int} (hb : ∀ x ∈ xs, x.natAbs < 2 ^ 1048576) {i : Nat} (hi : i ≤ 1000) : (lawNum xs i).natAbs < 2 ^ 1048576 := by
  unfold lawNum
  split
  · exact hb _ (List.getElem_mem _)
  · refine Nat.lt_of_lt_of_le (m := 2 ^ 20) (by omega) (Nat.pow_le_pow_right (by decide) (by decide))
def digH : Nat → Array UInt8 → Array UInt8
  | 0 => mixH
  | 1 => smallH
  | _ => fullH
theorem digH_size (t : Nat) (b : Array UInt8) : (digH t b).size = 32 := by
  match t with
  | 0 => exact toB_size _ _
  | 1 => exact toB_size _ _
  | _ + 2 => show (fullH b).size = 32; unfold fullH byteArr; simp
def dgN : Nat → Str
  | 0 => "_law_mixed"
  | 1 => "_law_small"
  | _ => "_law_full"
theorem weight_int (x : Int) : x.natAbs < 2 ^ PyData.weight (.int x) := by
  unfold PyData.weight
  split
  · rename_i h
    have : x = 0 := by simpa using h
    subst this
    decide
  · exact Nat.lt_log2_self
theorem scr_small {xs : List Int} (h : PyData.layable0 (.list (xs.map .int)) = true) : ∀ x ∈ xs, x.natAbs < 2 ^ 1048576 := by
  intro x hx
  have hw : PyData.weight (.list (xs.map .int)) ≤ 2 ^ 20 := by
    unfold PyData.layable0 at h
    rw [Bool.and_eq_true] at h
    exact of_decide_eq_true h.2
  have key : ∀ ys : List Int, x ∈ ys → PyData.weight (.int x) ≤ PyData.weightAll (ys.map .int) := by
    intro ys hy
    induction ys with
    | nil => cases hy
    | cons y ys ih =>
      rw [List.map_cons]
      unfold PyData.weightAll
      rcases List.mem_cons.mp hy with rfl | hy
      · omega
      · have := ih hy; omega
  have h1 := key xs hx
  unfold PyData.weight at hw
  exact Nat.lt_of_lt_of_le (weight_int x) (Nat.pow_le_pow_right (by decide) (by omega))
def tupNames : List Expr → List Str
  | [] => []
  | .Name x _ :: r => x :: tupNames r
  | _ :: r => tupNames r
def BindT (pe : PEnv) (PS : St → Prop) (xs : List Str) (p : PV) (σ : St) : Prop := ∃ t ps, p = .obj t ∧ σ[t]? = some (.tuple ps) ∧ xs.length = ps.length ∧ BindL pe PS xs.reverse ps.reverse σ
theorem bindT {pe : PEnv} {PS : St → Prop} {xs : List Str} {t : Nat} {ps : List PV} {σ : St} (g : σ[t]? = some (.tuple ps)) (l : xs.length = ps.length) (b : BindL pe PS xs.reverse ps.reverse σ) : BindT pe PS xs (.obj t) σ := ⟨t, ps, rfl, g, l, b⟩
theorem hs_swap {C : Cx} {k : Nat} {pe : PEnv} {σ : St} {PE : Value → St → Prop} {PQ : PF → St → Prop} {es : List Expr} {n : Nat} {tpos pos : Pos} {value : Expr} (hcl : pe.clean = true)
    (h : Hx C k pe value σ (fun p σ₁ => BindT pe (fun σ₂ => PQ .next σ₂) (tupNames es) p σ₁) PE)
    (hs : ∀ env, swapsWithSole [.Tuple es n tpos] value pos.line env = pure false) (hw : ∀ env, env.scope = pe.scope → swappedStores [.Tuple es n tpos] value env = pure (some (tupNames es))) : Hs1 C k pe (.Assign [.Tuple es n tpos] value pos) σ PQ PE := hs_swapped hcl h hs hw
/-- a number's word -/
def wtext (n : Nat) : Str := ("w" : Str) ++ Str.ofString (toString ((n : Nat) : Int))
theorem wtext_len {n : Nat} (h : n < 10 ^ 6) : (wtext n).length ≤ 7 := by
  unfold wtext
  rw [strLen_append]
  have h1 := int_text_len (a := n) (k := 6) (by decide) h
  have h2 : (Str.ofString "w").length ≤ 1 := by decide +kernel
  omega
/-- a value's word -/
def wf : PV → PV
  | .int n => .str (("w" : Str) ++ Str.ofString (toString n))
  | p => p
theorem wf_map (ns : List Nat) : ((ns.map fun n => ((n : Nat) : Int)).map PV.int).map wf = (ns.map wtext).map .str := by
  rw [List.map_map, List.map_map, List.map_map]
  rfl
theorem log_small {n : Nat} (h : n < 1000000) : n.log2 < 1920 := by
  by_cases h0 : n = 0
  · subst h0; decide
  · exact Nat.lt_of_lt_of_le ((Nat.log2_lt h0).mpr (show n < 2 ^ 20 by omega)) (by decide)
theorem tc_cl {C : Cx} {k : Nat} {pe : PEnv} {σ : St} {PE : Value → St → Prop} {pf : PV} {ps : List PV} {kws : List (Str × PV)} {PQ : PV → St → Prop} (h : Cl σ → TC C k pe pf ps kws σ PQ PE) : TC C k pe pf ps kws σ PQ PE :=
  fun A env s as Q E f vs ks H N rf rs rk R X => h H.inv.cl A env s as Q E f vs ks H N rf rs rk R X
theorem map_strs (xs : List Str) : xs.map PV.str = xs.map PV.str := rfl
section
variable {C : Cx} {σ : St}
/-- five arguments, where defaults stand ready -/
theorem full5 {params : Arguments} {p1 p2 p3 p4 p5 : PV} {x1 x2 x3 x4 x5 : Str} {T : Addr} {items : Array Value} (hT : ∃ o n, C.K.lookup T = some o ∧ o.data = .seq items n)
    (h : ∀ name qual body scope g cl kV doc pm an cdv ct bn v1 v2 v3 v4 v5, ∃ k, bindArgs ⟨name, qual, params, body, scope, g, cl, .ref T, kV, doc, pm, an, cdv, ct, bn⟩ ⟨[v1, v2, v3, v4, v5], []⟩ = seqItems? (.ref T) >>= k ∧ k (some items) = pure [(x1, v1), (x2, v2), (x3, v3), (x4, v4), (x5, v5)]) :
    BindOk C σ params (.ref T) [p1, p2, p3, p4, p5] [] [(x1, p1), (x2, p2), (x3, p3), (x4, p4), (x5, p5)] := by
  intro as s vs ks name qual body scope g cl kV doc pm an cdv ct bn O H rs rk
  obtain ⟨o, n, hT, hs⟩ := hT
  cases rk
  match vs, rs with
  | [_, _, _, _, _], .cons r1 (.cons r2 (.cons r3 (.cons r4 (.cons r5 .nil)))) =>
    obtain ⟨k, h1, h2⟩ := h name qual body scope g cl kV doc pm an cdv ct bn _ _ _ _ _
    exact ⟨_, BindsTo.of_defaults rfl (H.base _ _ (O.X _ _ hT)) hs h1 h2, .cons r1 (.cons r2 (.cons r3 (.cons r4 (.cons r5 .nil))))⟩
end
section
variable {C : Cx} {k : Nat} {pe : PEnv} {σ : St} {PE : Value → St → Prop}
/-- x = [.. for .. in value] -/
theorem hs_compV {x : Str} {elt t0 i0 : Expr} {ifs0 : List Expr} {scope : Scope} {pos pos' spos : Pos} {PQ : PF → St → Prop} (N : List (Str × NameKind)) (ci : List (Str × Nat)) (hcl : pe.clean = true)
    (hN : (relabelP pe scope).names = N) (hci : closP pe scope.names [] = ci) (hu : ∀ env, env.scope = pe.scope → swapsWith (.ListComp elt [⟨t0, i0, ifs0, 0⟩] scope pos) (some (.Name x pos')) spos.line env = pure true)
    (h : Hx C k pe i0 σ (fun p σ₁ => ∃ j F, IterOf σ₁ p j ∧ σ <+: σ₁ ∧ j.items.length ≤ 16777216 ∧ (Cl σ₁ → RoundI C k pe t0 elt ifs0 scope N ci F j σ₁) ∧ ∃ σ₂, BindIs pe (σ ++ [.list (compRes F 0 j.items)]) x (.obj σ.length) σ₂ ∧ PQ .next σ₂) PE)
    (hcell : ∀ y ∈ scope.names, y.2 ≠ .cell := by decide +kernel) (hkind : scope.kind = .function := by rfl) (hnd : (scope.names.map (·.1)).Nodup := by decide +kernel) (hclos : closOk pe scope.names = true := by rfl)
    (hs : ∀ env x, foldedSetIterable i0 env x = pure x := by intro _ _; rfl) : Hs1 C k pe (.Assign [.Name x pos'] (.ListComp elt [⟨t0, i0, ifs0, 0⟩] scope pos) spos) σ PQ PE := by
  refine hs_assign_comp1 hcl hu (hit_cl (hit_val (Tr.mono h (fun p σ₁ hq => ?_) fun _ _ x => x))) hcell hkind hnd hclos hs
  obtain ⟨j, F, h1, h3, h4, h5, h6⟩ := hq
  have h2 := h1.src_app
  have h7 : j.src σ₁ := by have := h2 []; rwa [List.append_nil] at this
  refine ⟨j, σ₁, h1, .inl ⟨Shrink.refl _, h3.length_le⟩, h7, fun cl => ⟨fun h => ?_, comp1_imm N ci F hN hci cl h3 h2 h4 (h5 cl) h6⟩⟩
  obtain ⟨xs, rfl⟩ := h
  cases h1
/-- x = [.. for .. in range(n)] -/
theorem hs_compR {x : Str} {elt t0 f e : Expr} {ifs0 : List Expr} {scope : Scope} {pos pos' pos'' spos : Pos} {PQ : PF → St → Prop} (N : List (Str × NameKind)) (ci : List (Str × Nat)) (F : Nat → PV → Option PV) (hcl : pe.clean = true)
    (hN : (relabelP pe scope).names = N) (hci : closP pe scope.names [] = ci) (hu : ∀ env, env.scope = pe.scope → swapsWith (.ListComp elt [⟨t0, .Call f [e] [] pos', ifs0, 0⟩] scope pos) (some (.Name x pos'')) spos.line env = pure true)
    (hf : Hx C k pe f σ (fun pf σ₁ => pf = .lit (.type "range") ∧ σ₁ = σ) PE)
    (h : Hx C k pe e σ (fun p σ₁ => ∃ n : Int, p = .int n ∧ n ≤ 16777216 ∧ -16777216 ≤ n ∧ σ <+: σ₁ ∧ (Cl σ → RoundI C k pe t0 elt ifs0 scope N ci F (.own (rangeP 0 n)) σ) ∧ ∃ σ₂, BindIs pe (σ ++ [.list (compRes F 0 (rangeP 0 n))]) x (.obj σ.length) σ₂ ∧ PQ .next σ₂) PE)
    (hse : ∀ env, starEach [e] env = [(false, eval e env)] := by intro _; rfl)
    (he : ∀ env, eval (.Call f [e] [] pos') env = (do callWith pos' (← eval f env) [] (backTo pos' (starEach [e] env)) (backToKw pos' (keywordEach [] env))) := by intro _; rfl)
    (hcell : ∀ y ∈ scope.names, y.2 ≠ .cell := by decide +kernel) (hkind : scope.kind = .function := by rfl) (hnd : (scope.names.map (·.1)).Nodup := by decide +kernel) (hclos : closOk pe scope.names = true := by rfl)
    (hs : ∀ env x, foldedSetIterable (.Call f [e] [] pos') env x = pure x := by intro _ _; rfl) : Hs1 C k pe (.Assign [.Name x pos''] (.ListComp elt [⟨t0, .Call f [e] [] pos', ifs0, 0⟩] scope pos) spos) σ PQ PE := by
  refine hs_assign_comp1 hcl hu (hit_cl (hit_range1 hf (Tr.mono h (fun p σ₁ hq => ?_) fun _ _ x => x) hse he)) hcell hkind hnd hclos hs
  obtain ⟨n, rfl, h1, h2, h3, h4, h5⟩ := hq
  refine ⟨n, rfl, by omega, by omega, h3, fun cl => ⟨(fun h => nomatch h), comp1_imm N ci F hN hci cl (List.prefix_refl _) (fun _ => trivial) ?_ (h4 cl) h5⟩⟩
  simp only [PIt.items, rangeP, List.length_map, List.length_range]
  omega
/-- the values of a comprehension that keeps all -/
theorem compRes_all (f : Nat → PV) : ∀ (i : Nat) (ps : List PV), compRes (fun i _ => some (f i)) i ps = (List.range' i ps.length).map f
  | _, [] => rfl
  | i, _ :: ps => by
    show f i :: compRes _ (i + 1) ps = _
    rw [compRes_all f (i + 1) ps]
    rfl
theorem compRes_map (f : PV → PV) : ∀ (i : Nat) (ps : List PV), compRes (fun _ p => some (f p)) i ps = ps.map f
  | _, [] => rfl
  | i, p :: ps => by
    show f p :: compRes _ (i + 1) ps = _
    rw [compRes_map f (i + 1) ps]
    rfl
theorem compRes_none : ∀ (i : Nat) (ps : List PV), compRes (fun _ _ => none) i ps = []
  | _, [] => rfl
  | i, _ :: ps => compRes_none (i + 1) ps
theorem rangeP_get' {n : Int} {i : Nat} {p : PV} (h : (rangeP 0 n)[i]? = some p) : p = .int (i : Int) ∧ (i : Int) < n := by
  unfold rangeP at h
  rw [List.getElem?_map] at h
  by_cases hi : i < (n - 0).toNat
  · rw [List.getElem?_range hi] at h
    simp at h
    exact ⟨h.symm, by omega⟩
  · rw [List.getElem?_eq_none (by simp; omega)] at h
    cases h
end
end Mine

set_option maxRecDepth 100000
set_option autoImplicit false
set_option linter.unusedVariables false
set_option linter.unusedSectionVars false
namespace Mine
open PySem PySem.W PyProof.Rows PySem.Calls PySem.SeqAt PySem.Builtin PySem.Builtin._codecs
def Ascii (x : Str) : Prop := ∀ c ∈ x.cps.toList, c < 128
def encA (x : Str) : Array UInt8 := (x.cps.toList.map Nat.toUInt8).toArray
theorem enc_fold : ∀ (l : List Nat) (acc : Array UInt8), (∀ c ∈ l, c < 128) → l.foldl (fun acc y => acc ++ (Str.utf8Of y).toArray) acc = acc ++ (l.map Nat.toUInt8).toArray
  | [], acc, _ => by simp
  | c :: l, acc, h => by
    rw [List.foldl_cons, enc_fold l _ fun d hd => h d (.tail _ hd)]
    have : Str.utf8Of c = [c.toUInt8] := if_pos (h c (.head _))
    rw [this]
    simp
theorem two_turns {β : Type} (f : Nat → β → Sem (ForInStep β)) (i0 i1 : β) (l : List Nat) (h1 : ∀ a, f a i0 = pure (.yield i1)) (h2 : ∀ a, f a i1 = pure (.done i1)) (hl : l ≠ []) : forIn l i0 f = (pure i1 : Sem β) := by
  cases l with
  | nil => exact absurd rfl hl
  | cons a l =>
    rw [List.forIn_cons, h1]
    cases l with
    | nil => rfl
    | cons b l =>
      show (forIn (b :: l) i1 f : Sem β) = _
      rw [List.forIn_cons, h2]
      rfl
theorem ascii_find {a : Array Nat} (h : ∀ c ∈ a.toList, c < 128) : a.findIdx? Str.isSurrogate = none := by
  rw [Array.findIdx?_eq_none_iff]
  intro c hc
  have := h c (by simpa using hc)
  unfold Str.isSurrogate
  simp
  omega
theorem enc_eq {id : String} {self : Value} {x : Str} (h : Ascii x) (hz : x.length ≤ 16777216) : encodeNarrow id utf8Codec none self x = pure (encA x) := by
  unfold encodeNarrow
  simp only [Std.Legacy.Range.forIn_eq_forIn_range', Std.Legacy.Range.size, Nat.sub_zero, Nat.add_sub_cancel, Nat.div_one]
  by_cases hl : x.length = 0
  · have hx : x.cps = #[] := Array.eq_empty_of_size_eq_zero hl
    rw [hl]
    unfold encA
    rw [hx]
    rfl
  have hne : List.range' 0 x.length ≠ [] := by simp; exact hl
  have hc : 0 < x.cps.size := Nat.pos_of_ne_zero hl
  have hez : (encA x).size = x.cps.size := by simp [encA]
  rw [two_turns _ (0, #[], ({} : Faults)) (x.length, encA x, ({} : Faults)) _ ?_ ?_ hne]
  · rfl
  · intro a
    have e0 : x.cps[0]? = some x.cps[0] := Array.getElem?_eq_getElem hc
    have hb : Str.isSurrogate x.cps[0] = false := by
      have := h x.cps[0] (by simp)
      unfold Str.isSurrogate
      simp
      omega
    have hex : x.cps.extract 0 = x.cps := by simp
    dsimp only
    rw [if_neg (by simp), e0]
    dsimp only
    rw [if_pos (by show (!Str.isSurrogate _) = true; rw [hb]; rfl)]
    have hf : Array.findIdx? utf8Codec.bad x.cps = none := ascii_find h
    have hg : Array.foldl (fun acc y => acc ++ (utf8Codec.bytesOf y).toArray) #[] x.cps = encA x := by
      rw [← Array.foldl_toList]
      have := enc_fold x.cps.toList #[] h
      rw [Array.empty_append] at this
      exact this
    rw [hex, hf]
    simp only [Option.getD_none, hex, Nat.zero_add]
    rw [hg]
    rfl
  · intro a
    dsimp only
    rw [if_neg (by rw [sizeLine_eq, hez]; exact Nat.not_lt.mpr hz)]
    have : x.cps[x.length]? = none := by simp [Str.length]
    rw [this]
/-- decoding -/
theorem dec_find {b : Array UInt8} {p : Nat} {f : Bool} (h : (b.getD p 0).toNat < 128) : utf8Decoder.find f b p = .char (b.getD p 0).toNat (p + 1) := by
  have : Bytes.utf8At b p = (.char (b.getD p 0).toNat, p + 1) := by
    unfold Bytes.utf8At
    exact if_pos h
  show (match Bytes.utf8At b p with | (.char c, nx) => Found.char c nx | (.bad _ stop reason, _) => Found.bad stop reason _) = _
  rw [this]
theorem all_turns {β : Type} (f : Nat → β → Sem (ForInStep β)) (s : Nat → β) (n : Nat) (h : ∀ a i, i < n → f a (s i) = pure (.yield (s (i + 1)))) : ∀ (l : List Nat) (i : Nat), i + l.length ≤ n → forIn l (s i) f = (pure (s (i + l.length)) : Sem β)
  | [], i, _ => rfl
  | a :: l, i, hi => by
    rw [List.length_cons] at hi
    rw [List.forIn_cons, h a i (by omega)]
    show (forIn l (s (i + 1)) f : Sem β) = _
    rw [all_turns f s n h l (i + 1) (by omega), List.length_cons]
    congr 2
    omega
theorem dec_eq {id : String} {b : Array UInt8} (h : ∀ c ∈ b.toList, c.toNat < 128) (hz : b.size ≤ 16777216) : runDecoder id utf8Decoder none true b 0 [] = pure ((b.toList.map UInt8.toNat).toArray, b.size) := by
  unfold runDecoder
  simp only [Std.Legacy.Range.forIn_eq_forIn_range', Std.Legacy.Range.size, Nat.sub_zero, Nat.add_sub_cancel, Nat.div_one]
  have key := fun f hf => all_turns (β := Nat × Array Nat × Faults) f (fun i => (i, ((b.toList.map UInt8.toNat).take i).toArray, ({ } : Faults))) b.size hf (List.range' 0 b.size) 0 (by simp)
  simp only [List.take_zero, List.length_range', Nat.zero_add] at key
  rw [key]
  · rw [List.take_of_length_le (by simp)]
    rfl
  · intro a i hi
    dsimp only
    have hl : (List.take i (b.toList.map UInt8.toNat)).toArray.size ≤ i := by simp; omega
    have hc : (b.getD i 0) = b[i] := by simp [Array.getD, hi]
    have hm : (b.getD i 0).toNat < 128 := by rw [hc]; exact h _ (by simp)
    rw [if_neg (by rw [sizeLine_eq]; omega), if_neg (by omega), dec_find hm]
    show pure (ForInStep.yield (i + 1, (List.take i (b.toList.map UInt8.toNat)).toArray ++ [(b.getD i 0).toNat].toArray, ({ } : Faults))) = _
    have ht : (List.take (i + 1) (b.toList.map UInt8.toNat)) = List.take i (b.toList.map UInt8.toNat) ++ [(b.getD i 0).toNat] := by
      rw [List.take_succ]
      congr 1
      rw [List.getElem?_map, Array.getElem?_toList, Array.getElem?_eq_getElem hi, hc]
      rfl
    rw [ht]
    simp
end Mine
namespace Mine
open PySem PySem.W PyProof.Rows PySem.Calls PySem.SeqAt PySem.Builtin PySem.Builtin._codecs
theorem enc_tree1 (x : Str) (t u : Tok) : «str.encode» ⟨[.str x t, .str (Str.ofString "utf8") u], []⟩ = (do ret (← encodeRoad "str.encode" (.str x t) x (Str.ofString "utf8") none)) := by kernel_rfl
theorem enc_tree2 (x : Str) (t u : Tok) : «str.encode» ⟨[.str x t, .str (Str.ofString "utf-8") u], []⟩ = (do ret (← encodeRoad "str.encode" (.str x t) x (Str.ofString "utf-8") none)) := by kernel_rfl
theorem enc_road1 (id : String) (self : Value) (x : Str) (errors : Option Str) : encodeRoad id self x (Str.ofString "utf8") errors = (do mkBytes (← encodeNarrow id utf8Codec errors self x)) := by kernel_rfl
theorem enc_road2 (id : String) (self : Value) (x : Str) (errors : Option Str) : encodeRoad id self x (Str.ofString "utf-8") errors = (do mkBytes (← encodeNarrow id utf8Codec errors self x)) := by kernel_rfl
theorem enc_args (a b : Value) : argsOk "str.encode" ⟨[a, b], []⟩ := by unfold argsOk; kernel_rfl
end Mine
namespace Mine
open PySem PySem.W PyProof.Rows PySem.Calls PySem.SeqAt PySem.Builtin PySem.Builtin._codecs
theorem dec_tree (c : UInt8) (cs : List UInt8) (t u : Tok) : «bytes.decode» ⟨[.bytes (c :: cs).toArray t, .str (Str.ofString "utf8") u], []⟩ = (mkStr (Str.ofString "utf-8") >>= fun _ => mkStr (Str.ofString "utf8") >>= fun e => mkStr (Str.ofString "bytes.decode") >>= fun d =>
    call (.builtin "_codecs.decode.text") [.bytes (c :: cs).toArray t, e, .none, d] >>= fun v => ret v) := by kernel_rfl
theorem dec_tree0 (t u : Tok) : «bytes.decode» ⟨[.bytes #[] t, .str (Str.ofString "utf8") u], []⟩ = (rule "bytes.decode.empty" >>= fun _ => retStr Str.empty) := by kernel_rfl
theorem dec_road (id : String) (b : Array UInt8) : decodeRoad id b (Str.ofString "utf8") none [] = (runDecoder id utf8Decoder none true b 0 [] >>= fun r => mkStr ⟨r.1⟩) := by kernel_rfl
theorem dec_text {b : Array UInt8} {t t1 t2 : Tok} {d x : Str} {n : Nat} (hd : ∀ id, runDecoder id utf8Decoder none true b 0 [] = pure (x.cps, n)) :
    Meets («_codecs.decode.text» ⟨[.bytes b t, .str (Str.ofString "utf8") t1, .none, .str d t2], []⟩) (fun _ R s => x.length ≤ sizeLine ∧ R (.ok (.ret (.str x s.toks))) { s with toks := s.toks + 1 }) := by
  refine .of_wp fun prog w A R s hS => ?_
  obtain ⟨hsz, h⟩ := hS
  show wpAny _ _ (Bytes.bytesLike _ (.bytes b t) >>= fun r => _) _ _ s
  refine wpAny_bind (wpAny_of_eq KBd.like_eq ?_)
  refine wpAny_bind (wpAny_of_eq KBd.held_eq ?_)
  show wpAny _ _ (decodeRoad _ b (Str.ofString "utf8") none [] >>= fun v => _) _ _ s
  rw [dec_road, hd]
  refine wpAny_bind (wpAny_bind (wpAny_pure ?_))
  exact wpAny_mkStr (wpAny_pure ⟨_, rfl, h⟩) hsz
theorem dec_meets {c : UInt8} {cs : List UInt8} {t u : Tok} {x : Str} {n : Nat} (hd : ∀ id, runDecoder id utf8Decoder none true (c :: cs).toArray 0 [] = pure (x.cps, n)) :
    Meets («bytes.decode» ⟨[.bytes (c :: cs).toArray t, .str (Str.ofString "utf8") u], []⟩) (fun _ R s => x.length ≤ sizeLine ∧ ∀ t' k, R (.ok (.ret (.str x t'))) { s with toks := k }) := by
  refine .of_wp fun prog w A R s hS => ?_
  obtain ⟨hsz, h⟩ := hS
  rw [dec_tree]
  refine wpAny_bind (wpAny_mkStr ?_ (by decide))
  refine wpAny_bind (wpAny_mkStr ?_ (by decide))
  refine wpAny_bind (wpAny_mkStr ?_ (by decide))
  exact wpAny_bind (call_function_meets KBd.kind_text KBd.plain_text KBd.entry_text (KBd.args_text _ _ _ _) (dec_text hd) ⟨hsz, wpAny_pure ⟨_, rfl, h _ _⟩⟩)
theorem dec_meets0 {t u : Tok} : Meets («bytes.decode» ⟨[.bytes #[] t, .str (Str.ofString "utf8") u], []⟩) (fun _ R s => ∀ t' k, R (.ok (.ret (.str Str.empty t'))) { s with toks := k }) := by
  refine .of_wp fun prog w A R s hS => ?_
  rw [dec_tree0]
  refine wpAny_bind (wpAny_rule ?_)
  exact wpAny_bind (wpAny_mkStr (wpAny_pure ⟨_, rfl, hS _ _⟩) (by decide))
theorem dec_args (a b : Value) : argsOk "bytes.decode" ⟨[a, b], []⟩ := by unfold argsOk; kernel_rfl
theorem enc_meets {x enc : Str} {t u : Tok} (he : enc = Str.ofString "utf8" ∨ enc = Str.ofString "utf-8") (h : Ascii x) (hz : x.length ≤ 16777216) :
    Meets («str.encode» ⟨[.str x t, .str enc u], []⟩) (fun _ R s => R (.ok (.ret (.bytes (encA x) s.toks))) { s with toks := s.toks + 1 }) := by
  refine .of_wp fun prog w A R s hS => ?_
  have hsz : (encA x).size ≤ sizeLine := by rw [sizeLine_eq]; simpa [encA, Str.length] using hz
  rcases he with rfl | rfl
  · rw [enc_tree1, enc_road1, enc_eq h hz]
    exact wpAny_bind (wpAny_bind (wpAny_pure (wpAny_mkBytes (wpAny_pure ⟨_, rfl, hS⟩) hsz)))
  · rw [enc_tree2, enc_road2, enc_eq h hz]
    exact wpAny_bind (wpAny_bind (wpAny_pure (wpAny_mkBytes (wpAny_pure ⟨_, rfl, hS⟩) hsz)))
section
variable {C : Cx} {k : Nat} {pe : PEnv} {σ : St} {PE : Value → St → Prop} {PQ : PV → St → Prop}
/-- text.encode(..) -/
theorem tc_encode {x enc : Str} (he : enc = Str.ofString "utf8" ∨ enc = Str.ofString "utf-8") (h : Ascii x) (hz : x.length ≤ 16777216) (hq : PQ (.bytes (encA x)) σ) : TC C k pe (.lit (.builtin "str.encode")) [.str x, .str enc] [] σ PQ PE := tc_of2 fun A env s as Q E v u H N r1 r2 R X => by
  cases r1; cases r2
  exact call_meets F.slot_str_encode (typeIs_str _ _ _) F.entry_str_encode (F.args_str_encode_2 _ _) (enc_meets he h hz) (R.toks H hq (.bytes _ _))
theorem tm_bytes {b : Array UInt8} {name : Str} {id : String} {PM : PV × List PV → St → Prop} (slot : Slot "bytes" name id) (ty : typeOf (.builtin id) = pure (.type "method_descriptor")) (h : PM (.lit (.builtin id), [.bytes b]) σ) : TM C k pe name (.bytes b) σ PM PE := by
  intro pl A env s as Q E v H N r R X
  cases r
  exact getMethod_builtin (typeIs_bytes _ _ _) FB.plainAttrs_bytes slot ty (fun _ e => nomatch e) (R.here H h (.mk (.lit _) (.cons (.bytes _ _) .nil)))
def decA (b : Array UInt8) : Str := ⟨(b.toList.map UInt8.toNat).toArray⟩
theorem dec_enc {x : Str} (h : Ascii x) : decA (encA x) = x := by
  unfold decA encA
  have : (x.cps.toList.map Nat.toUInt8).map UInt8.toNat = x.cps.toList := by
    rw [List.map_map]
    conv => rhs; rw [← List.map_id x.cps.toList]
    refine List.map_congr_left fun c hc => ?_
    have := h c hc
    show c.toUInt8.toNat = c
    rw [Nat.toUInt8_eq]
    simp
    omega
  simp only []
  rw [this]
theorem tc_decode {b : Array UInt8} (h : ∀ c ∈ b.toList, c.toNat < 128) (hz : b.size ≤ 16777216) (hq : PQ (.str (decA b)) σ) : TC C k pe (.lit (.builtin "bytes.decode")) [.bytes b, .str "utf8"] [] σ PQ PE := tc_of2 fun A env s as Q E v u H N r1 r2 R X => by
  cases r1; cases r2
  obtain ⟨l⟩ := b
  cases l with
  | nil => exact call_meets FB.slot_bytes_decode (typeIs_bytes _ _ _) FB.entry_bytes_decode (dec_args _ _) dec_meets0 fun t' k => R.toks H hq (.str _ _)
  | cons c cs =>
    exact call_meets FB.slot_bytes_decode (typeIs_bytes _ _ _) FB.entry_bytes_decode (dec_args _ _) (dec_meets (x := decA (c :: cs).toArray) fun id => dec_eq (id := id) (b := (c :: cs).toArray) h hz) ⟨by rw [sizeLine_eq]; simpa [decA, Str.length] using hz, fun t' k => R.toks H hq (.str _ _)⟩
theorem enc_small {x : Str} (h : Ascii x) : ∀ c ∈ (encA x).toList, c.toNat < 128 := by
  intro c hc
  unfold encA at hc
  simp only [] at hc
  obtain ⟨d, hd, rfl⟩ := List.mem_map.mp hc
  have := h d hd
  rw [Nat.toUInt8_eq]
  simp
  omega
end
end Mine

set_option maxRecDepth 100000
set_option autoImplicit false
set_option linter.unusedVariables false
set_option linter.unusedSectionVars false
namespace Mine
open PySem PySem.W PyProof.Rows PySem.Calls PySem.SeqAt
section
variable {C : Cx} {k : Nat} {pe : PEnv} {σ : St} {PE : Value → St → Prop} {PQ : PV → St → Prop}
/-- and, or: the value -/
theorem hx_and {e e' : Expr} {es : List Expr} {pos : Pos} (h : Hx C k pe e σ (fun p σ₁ => T1 C k pe truthy BR p σ₁ (fun b σ₂ => if b = true then Hx C k pe (.BoolOp .And (e' :: es) pos) σ₂ PQ PE else PQ p σ₂) PE) PE) : Hx C k pe (.BoolOp .And (e :: e' :: es) pos) σ PQ PE := by
  intro A env s as Q E H N R X
  refine BoolOp_and (h A env s as _ E H N (fun v p σ₁ as₁ s₁ h₁ a₁ x₁ r₁ i₁ w₁ => ?_) X)
  have H₁ := H.step a₁ x₁ i₁
  refine h₁ A env s₁ as₁ _ E v H₁ (N.mono a₁) r₁ (fun c b σ₂ as₂ s₂ h₂ a₂ x₂ r₂ i₂ w₂ => ?_) (X.go a₁ x₁ w₁)
  have e12 : b = c := r₂
  subst e12
  have R₂ := (R.go a₁ x₁ w₁).go a₂ x₂ w₂
  have X₂ := (X.go a₁ x₁ w₁).go a₂ x₂ w₂
  cases b with
  | true => exact h₂ A env s₂ as₂ Q E (H₁.step a₂ x₂ i₂) ((N.mono a₁).mono a₂) R₂ X₂
  | false => exact R₂.here (H₁.step a₂ x₂ i₂) h₂ (r₁.mono a₂)
theorem hx_or {e e' : Expr} {es : List Expr} {pos : Pos} (h : Hx C k pe e σ (fun p σ₁ => T1 C k pe truthy BR p σ₁ (fun b σ₂ => if b = true then PQ p σ₂ else Hx C k pe (.BoolOp .Or (e' :: es) pos) σ₂ PQ PE) PE) PE) : Hx C k pe (.BoolOp .Or (e :: e' :: es) pos) σ PQ PE := by
  intro A env s as Q E H N R X
  refine BoolOp_or (h A env s as _ E H N (fun v p σ₁ as₁ s₁ h₁ a₁ x₁ r₁ i₁ w₁ => ?_) X)
  have H₁ := H.step a₁ x₁ i₁
  refine h₁ A env s₁ as₁ _ E v H₁ (N.mono a₁) r₁ (fun c b σ₂ as₂ s₂ h₂ a₂ x₂ r₂ i₂ w₂ => ?_) (X.go a₁ x₁ w₁)
  have e12 : b = c := r₂
  subst e12
  have R₂ := (R.go a₁ x₁ w₁).go a₂ x₂ w₂
  have X₂ := (X.go a₁ x₁ w₁).go a₂ x₂ w₂
  cases b with
  | true => exact R₂.here (H₁.step a₂ x₂ i₂) h₂ (r₁.mono a₂)
  | false => exact h₂ A env s₂ as₂ Q E (H₁.step a₂ x₂ i₂) ((N.mono a₁).mono a₂) R₂ X₂
theorem hx_bool1 {e : Expr} {op : BoolOp} {pos : Pos} (h : Hx C k pe e σ PQ PE) : Hx C k pe (.BoolOp op [e] pos) σ PQ PE := fun A env s as Q E H N R X => BoolOp_one (h A env s as Q E H N R X)
theorem t2_ne_bytes {a b : Array UInt8} (h : PQ (.bool (a.toList != b.toList)) σ) : T2 C k pe (compareOp .NotEq) VR (.bytes a) (.bytes b) σ PQ PE := by
  intro A env s as Q E v u H N r1 r2 R X
  cases r1; cases r2
  exact PySem.W.ne_bytes (R.here H h (.bool _))
/-- a global name that holds an int -/
theorem hx_glob_int {tbl : List (Str × Value)} (G : Globs C tbl) {x : Str} {y : Int} {t : Tok} {pos : Pos} {j : Nat} (hk : slotOf pe.scope.names x = some (j, .globalImplicit)) (e : tbl.lookup x = some (.int y t)) (h : PQ (.int y) σ)
    (hd : (x == ("__debug__" : Str)) = false := by decide +kernel) : Hx C k pe (.Name x pos) σ PQ PE := by
  intro A env s as Q E H N R X
  have hq : Q (.int y t) s := R.here H h (.int y t)
  have hkk : env.kindOf x = some .globalImplicit := (N.kindOf x).trans (slotOf_spec hk).2
  have T := H.ok.T
  rcases G x _ e with e1 | ⟨e1, e2, e3⟩
  · exact Name_function_global N.fkind hkk (loadGlobal_global (env := env) (by rw [N.globals]; exact T.g.keeps H.inv.base) (mg_of H.ok.X T.g e1) hq) hd
  · exact Name_function_global N.fkind hkk (loadGlobal_builtin (env := env) (by rw [N.globals]; exact T.g.keeps H.inv.base) (mg_none_of H.ok.X T.g e1) (by rw [N.builtins]; exact T.b.keeps H.inv.base) ((T.builtins x e3).trans e2) hq) hd
theorem tc_isi_str_bytes {x : Str} (h : PQ (.bool false) σ) : TC C k pe (.lit (.builtin "isinstance")) [.str x, .lit (.type "bytes")] [] σ PQ PE := tc_of2 fun A env s as Q E v u H N r1 r2 R X => by
  cases r1; cases r2; exact IsiPair.str_bytes (R.toks H h (.bool _))
theorem tc_isi_str_str {x : Str} (h : PQ (.bool true) σ) : TC C k pe (.lit (.builtin "isinstance")) [.str x, .lit (.type "str")] [] σ PQ PE := tc_of2 fun A env s as Q E v u H N r1 r2 R X => by
  cases r1; cases r2; exact IsiPair.str_str (R.here H h (.bool _))
theorem tc_isi_int_bytes {x : Int} (h : PQ (.bool false) σ) : TC C k pe (.lit (.builtin "isinstance")) [.int x, .lit (.type "bytes")] [] σ PQ PE := tc_of2 fun A env s as Q E v u H N r1 r2 R X => by
  cases r1; cases r2; exact IsiPair.int_bytes (R.toks H h (.bool _))
theorem tc_isi_int_str {x : Int} (h : PQ (.bool false) σ) : TC C k pe (.lit (.builtin "isinstance")) [.int x, .lit (.type "str")] [] σ PQ PE := tc_of2 fun A env s as Q E v u H N r1 r2 R X => by
  cases r1; cases r2; exact IsiPair.int_str (R.toks H h (.bool _))
theorem tc_isi_none_bytes (h : PQ (.bool false) σ) : TC C k pe (.lit (.builtin "isinstance")) [.none, .lit (.type "bytes")] [] σ PQ PE := tc_of2 fun A env s as Q E v u H N r1 r2 R X => by
  cases r1; cases r2; exact IsiPair.NoneType_bytes (R.toks H h (.bool _))
theorem tc_isi_none_str (h : PQ (.bool false) σ) : TC C k pe (.lit (.builtin "isinstance")) [.none, .lit (.type "str")] [] σ PQ PE := tc_of2 fun A env s as Q E v u H N r1 r2 R X => by
  cases r1; cases r2; exact IsiPair.NoneType_str (R.toks H h (.bool _))
theorem tc_isi_bytes_bytes {x : Array UInt8} (h : PQ (.bool true) σ) : TC C k pe (.lit (.builtin "isinstance")) [.bytes x, .lit (.type "bytes")] [] σ PQ PE := tc_of2 fun A env s as Q E v u H N r1 r2 R X => by
  cases r1; cases r2; exact call_isinstance (isinstance_true (Tx := "bytes") F.isi_meta_bytes (by rw [isSubtype_type]; kernel_rfl)) ⟨rfl, R.here H h (.bool _)⟩
/-- four arguments given, where defaults stand ready -/
theorem full4 {params : Arguments} {p1 p2 p3 p4 : PV} {x1 x2 x3 x4 : Str} {T : Addr} {items : Array Value} (hT : ∃ o n, C.K.lookup T = some o ∧ o.data = .seq items n)
    (h : ∀ name qual body scope g cl kV doc pm an cdv ct bn v1 v2 v3 v4, ∃ k, bindArgs ⟨name, qual, params, body, scope, g, cl, .ref T, kV, doc, pm, an, cdv, ct, bn⟩ ⟨[v1, v2, v3, v4], []⟩ = seqItems? (.ref T) >>= k ∧ k (some items) = pure [(x1, v1), (x2, v2), (x3, v3), (x4, v4)]) :
    BindOk C σ params (.ref T) [p1, p2, p3, p4] [] [(x1, p1), (x2, p2), (x3, p3), (x4, p4)] := by
  intro as s vs ks name qual body scope g cl kV doc pm an cdv ct bn O H rs rk
  obtain ⟨o, n, hT, hs⟩ := hT
  cases rk
  match vs, rs with
  | [_, _, _, _], .cons r1 (.cons r2 (.cons r3 (.cons r4 .nil))) =>
    obtain ⟨k, h1, h2⟩ := h name qual body scope g cl kV doc pm an cdv ct bn _ _ _ _
    exact ⟨_, BindsTo.of_defaults rfl (H.base _ _ (O.X _ _ hT)) hs h1 h2, .cons r1 (.cons r2 (.cons r3 (.cons r4 .nil)))⟩
def stok (K : Frag) (a : Addr) : Tok := match (seqIn K a).map Array.toList with | some (Value.str _ t :: _) => t | _ => 0
def itok (K : Frag) (x : Str) : Tok := match gval K x with | .int _ t => t | _ => 0
end
end Mine

set_option maxRecDepth 100000
set_option autoImplicit false
set_option linter.unusedVariables false
set_option linter.unusedSectionVars false
namespace Mine
open PySem PySem.W PyProof.Rows PySem.Calls PySem.SeqAt PySem.Builtin
section
variable {C : Cx} {k : Nat} {pe : PEnv} {σ : St} {PE : Value → St → Prop} {PQ : PV → St → Prop}
/-- a chain of two comparisons: the value -/
theorem hx_cmp2 {l r r' : Expr} {op op' : CmpOp} {pos : Pos}
    (h : Hx C k pe l σ (fun p₁ σ₁ => Hx C k pe r σ₁ (fun p₂ σ₂ => T2 C k pe (compareOp op) VR p₁ p₂ σ₂ (fun p₃ σ₃ => T1 C k pe truthy BR p₃ σ₃ (fun b σ₄ => if b = true then Hx C k pe r' σ₄ (fun p₄ σ₅ => T2 C k pe (compareOp op') VR p₂ p₄ σ₅ PQ PE) PE else PQ p₃ σ₄) PE) PE) PE) PE)
    (hm : lastMarks [op, op'] [r, r'] = false := by with_unfolding_all rfl) : Hx C k pe (.Compare l [op, op'] [r, r'] pos) σ PQ PE := by
  intro A env s as Q E H N R X
  refine Compare_chain (h A env s as _ E H N (fun v₁ p₁ σ₁ as₁ s₁ h₁ a₁ x₁ r₁ i₁ w₁ => ?_) X) hm
  have H₁ := H.step a₁ x₁ i₁
  have N₁ := N.mono a₁
  refine chain_link (h₁ A env s₁ as₁ _ E H₁ N₁ (fun v₂ p₂ σ₂ as₂ s₂ h₂ a₂ x₂ r₂ i₂ w₂ => ?_) (X.go a₁ x₁ w₁))
  have H₂ := H₁.step a₂ x₂ i₂
  have N₂ := N₁.mono a₂
  refine h₂ A env s₂ as₂ _ E _ _ H₂ N₂ (r₁.mono a₂) r₂ (fun v₃ p₃ σ₃ as₃ s₃ h₃ a₃ x₃ r₃ i₃ w₃ => ?_) ((X.go a₁ x₁ w₁).go a₂ x₂ w₂)
  have H₃ := H₂.step a₃ x₃ i₃
  have N₃ := N₂.mono a₃
  refine h₃ A env s₃ as₃ _ E _ H₃ N₃ r₃ (fun c b σ₄ as₄ s₄ h₄ a₄ x₄ r₄ i₄ w₄ => ?_) (((X.go a₁ x₁ w₁).go a₂ x₂ w₂).go a₃ x₃ w₃)
  have H₄ := H₃.step a₄ x₄ i₄
  have N₄ := N₃.mono a₄
  have R₄ := (((R.go a₁ x₁ w₁).go a₂ x₂ w₂).go a₃ x₃ w₃).go a₄ x₄ w₄
  have X₄ := (((X.go a₁ x₁ w₁).go a₂ x₂ w₂).go a₃ x₃ w₃).go a₄ x₄ w₄
  have e12 : b = c := r₄
  subst e12
  cases b with
  | false => exact R₄.here H₄ h₄ (r₃.mono a₄)
  | true =>
    refine chain_last (h₄ A env s₄ as₄ _ E H₄ N₄ (fun v₅ p₅ σ₅ as₅ s₅ h₅ a₅ x₅ r₅ i₅ w₅ => ?_) X₄)
    exact h₅ A env s₅ as₅ Q E _ _ (H₄.step a₅ x₅ i₅) (N₄.mono a₅) (((r₂.mono a₃).mono a₄).mono a₅) r₅ (R₄.go a₅ x₅ w₅) (X₄.go a₅ x₅ w₅)
theorem slot_bytes_lt : Slot "bytes" (cmpInfo .Lt).2.1 "bytes.__lt__" :=
  .of (owner := "bytes") (n := "__lt__") (by rw [typeLookup_type, builtinLookup_eq_fast]; kernel_rfl) (by decide +kernel) (by decide +kernel) (by decide +kernel)
    (by first | exact .inl (by decide +kernel) | exact .inr (by decide +kernel)) (by rw [isSubtype_type]; kernel_rfl)
theorem entry_bytes_lt : entryFor table "bytes.__lt__" = some Builtin.«bytes.__lt__» := entryFor_of_tree (by kernel_rfl)
theorem args_bytes_lt (a b : Value) : argsOk "bytes.__lt__" ⟨[a, b], []⟩ := by unfold argsOk; kernel_rfl
theorem gives_bytes_lt (b c : Array UInt8) (t u : Tok) : Gives («bytes.__lt__» ⟨[.bytes b t, .bytes c u], []⟩) (.val (.bool (Bytes.order b.toList c.toList == .lt))) := by
  refine .of_wp fun M A E s Q hq => ?_
  show wpAny M A (isInstance (.bytes c u) (.type "bytes") >>= fun r => _) _ E s
  refine wpAny_bind (wpAny_isInstance (typeIs_bytes s c u) F.sub_bytes_bytes ?_)
  exact wpAny_pure ⟨_, rfl, hq⟩
theorem t2_lt_bytes {a b : Array UInt8} (h : PQ (.bool (Bytes.order a.toList b.toList == .lt)) σ) : T2 C k pe (compareOp .Lt) VR (.bytes a) (.bytes b) σ PQ PE := by
  intro A env s as Q E v u H N r1 r2 R X
  cases r1; cases r2
  exact compareOp_gives (op := .Lt) (typeIs_bytes s a _) (typeIs_bytes s b _) slot_bytes_lt entry_bytes_lt (args_bytes_lt _ _) (gives_bytes_lt a b _ _) (fun e => nomatch e) (R.here H h (.bool _))
/-- a text parted at a sign of one place -/
theorem join_inj {c : Nat} : ∀ {xs ys : List Str}, xs ≠ [] → ys ≠ [] → (∀ x ∈ xs, c ∉ x.cps.toList) → (∀ y ∈ ys, c ∉ y.cps.toList) → Str.join ⟨#[c]⟩ xs = Str.join ⟨#[c]⟩ ys → xs = ys := by
  have cut : ∀ (a a' : List Nat) (X X' : List Nat), c ∉ a → c ∉ a' → a ++ c :: X = a' ++ c :: X' → a = a' ∧ X = X' := by
    intro a
    induction a with
    | nil =>
      intro a' X X' _ h' e
      cases a' with
      | nil => simp at e; exact ⟨rfl, e⟩
      | cons d a' => simp at e; exact absurd (.head _) (e.1 ▸ h')
    | cons d a ih =>
      intro a' X X' h h' e
      cases a' with
      | nil => simp at e; exact absurd (.head _) (e.1 ▸ h)
      | cons d' a' =>
        simp only [List.cons_append, List.cons.injEq] at e
        obtain ⟨rfl, e⟩ := e
        obtain ⟨rfl, rfl⟩ := ih a' X X' (fun q => h (.tail _ q)) (fun q => h' (.tail _ q)) e
        exact ⟨rfl, rfl⟩
  have eq_of : ∀ {x y : Str}, x.cps.toList = y.cps.toList → x = y := fun {x y} e => by
    obtain ⟨⟨l⟩⟩ := x
    obtain ⟨⟨m⟩⟩ := y
    simp only at e
    rw [e]
  have two : ∀ (x y : Str) (r : List Str), (Str.join ⟨#[c]⟩ (x :: y :: r)).cps.toList = x.cps.toList ++ c :: (Str.join ⟨#[c]⟩ (y :: r)).cps.toList := by
    intro x y r
    have e : (Str.join ⟨#[c]⟩ (x :: y :: r)).cps = x.cps ++ #[c] ++ (Str.join ⟨#[c]⟩ (y :: r)).cps := rfl
    rw [e]
    simp
  intro xs
  induction xs with
  | nil => intro ys h; exact absurd rfl h
  | cons x xs ih =>
    intro ys _ hy h1 h2 e
    cases ys with
    | nil => exact absurd rfl hy
    | cons y ys =>
      have hx := h1 x (.head _)
      have hy' := h2 y (.head _)
      cases xs with
      | nil =>
        cases ys with
        | nil => exact congrArg (· :: []) e
        | cons y2 ys =>
          have e2 := congrArg (fun s : Str => s.cps.toList) e
          simp only [two] at e2
          exact absurd (by show c ∈ x.cps.toList; rw [show x.cps.toList = _ from e2]; simp) hx
      | cons x2 xs =>
        cases ys with
        | nil =>
          have e2 := congrArg (fun s : Str => s.cps.toList) e
          simp only [two] at e2
          exact absurd (by show c ∈ y.cps.toList; rw [show y.cps.toList = _ from e2.symm]; simp) hy'
        | cons y2 ys =>
          have e2 := congrArg (fun s : Str => s.cps.toList) e
          simp only [two] at e2
          obtain ⟨e3, e4⟩ := cut _ _ _ _ hx hy' e2
          rw [eq_of e3, ih (ys := y2 :: ys) (by simp) (by simp) (fun z hz => h1 z (.tail _ hz)) (fun z hz => h2 z (.tail _ hz)) (eq_of e4)]
theorem split_join {c : Nat} {xs : List Str} (hne : xs ≠ []) (h : ∀ x ∈ xs, c ∉ x.cps.toList) : Txt.split (Txt.join ⟨#[c]⟩ xs) ⟨#[c]⟩ = xs := by
  have e : Txt.join ⟨#[c]⟩ xs = Str.join ⟨#[c]⟩ xs := StrLaws.glued_eq_join _ _
  have h1 := StrLaws.join_split (Txt.join ⟨#[c]⟩ xs) ⟨#[c]⟩
  refine join_inj ?_ hne (StrLaws.split_free _ _) h (h1.trans e)
  intro q
  have := split_pos (Txt.join ⟨#[c]⟩ xs) ⟨#[c]⟩
  rw [q] at this
  simp at this
end
end Mine

set_option maxRecDepth 100000
set_option autoImplicit false
set_option linter.unusedVariables false
namespace Mine
open PySem PySem.W PyProof.Rows PySem.Calls PySem.SeqAt PySem.Builtin
/-- a row of numbers as one number -/
def fold48 (ds : List Nat) : Nat := ds.foldl (fun w d => w * 2048 + d) 0
theorem fold48_from (ds : List Nat) : ∀ x : Nat, ds.foldl (fun w d => w * 2048 + d) x = x * 2048 ^ ds.length + fold48 ds := by
  unfold fold48
  induction ds with
  | nil => intro x; simp
  | cons c l ih =>
    intro x
    rw [List.foldl_cons, List.foldl_cons, ih, ih (0 * 2048 + c), List.length_cons, Nat.pow_succ, Nat.add_mul, Nat.zero_mul, Nat.zero_add, Nat.mul_assoc, Nat.mul_comm 2048]
    omega
theorem fold48_cons (d : Nat) (ds : List Nat) : fold48 (d :: ds) = d * 2048 ^ ds.length + fold48 ds := by
  have := fold48_from ds (0 * 2048 + d)
  rw [Nat.zero_mul, Nat.zero_add] at this
  show List.foldl _ (0 * 2048 + d) ds = _
  rw [Nat.zero_mul, Nat.zero_add, this]
theorem fold48_snoc (ds : List Nat) (d : Nat) : fold48 (ds ++ [d]) = fold48 ds * 2048 + d := by
  unfold fold48
  rw [List.foldl_append]
  rfl
theorem fold48_lt : ∀ {ds : List Nat}, (∀ d ∈ ds, d < 2048) → fold48 ds < 2048 ^ ds.length
  | [], _ => by decide
  | d :: ds, h => by
    have h1 := fold48_lt (ds := ds) fun x hx => h x (.tail _ hx)
    have h2 := h d (.head _)
    rw [fold48_cons, List.length_cons, Nat.pow_succ, Nat.mul_comm (2048 ^ ds.length) 2048]
    have : (d + 1) * 2048 ^ ds.length ≤ 2048 * 2048 ^ ds.length := Nat.mul_le_mul_right _ h2
    rw [Nat.succ_mul] at this
    omega
theorem wnum_snoc {F d m i : Nat} (hd : d < 2048) (hi : i < m) : wnum (F * 2048 + d) (m + 1) i = wnum F m i := by
  unfold wnum
  have e : 11 * (m + 1 - 1 - i) = 11 + 11 * (m - 1 - i) := by omega
  rw [e, Nat.pow_add, ← Nat.div_div_eq_div_mul]
  have : (F * 2048 + d) / 2 ^ 11 = F := by omega
  rw [this]
theorem wnums_snoc {F d m : Nat} (hd : d < 2048) : wnums (F * 2048 + d) (m + 1) = wnums F m ++ [d] := by
  unfold wnums
  rw [List.range_succ, List.map_append]
  congr 1
  · exact List.map_congr_left fun i hi => wnum_snoc hd (List.mem_range.mp hi)
  · unfold wnum
    simp
    omega
theorem wnums_fold (ds : List Nat) : (∀ d ∈ ds, d < 2048) → wnums (fold48 ds) ds.length = ds := by
  generalize hn : ds.length = n
  induction n generalizing ds with
  | zero =>
    intro _
    have : ds = [] := List.eq_nil_of_length_eq_zero hn
    subst this
    rfl
  | succ n ih =>
    intro h
    have hne : ds ≠ [] := by intro e; subst e; cases hn
    obtain ⟨ini, d, rfl⟩ : ∃ ini d, ds = ini ++ [d] := ⟨ds.dropLast, ds.getLast hne, (List.dropLast_concat_getLast hne).symm⟩
    have hl : ini.length = n := by simpa using hn
    rw [fold48_snoc, wnums_snoc (h d (by simp)), ih ini hl fun x hx => h x (List.mem_append_left _ hx)]
theorem fold48_inj {ds es : List Nat} (hl : ds.length = es.length) (h : ∀ d ∈ ds, d < 2048) (h' : ∀ d ∈ es, d < 2048) (e : fold48 ds = fold48 es) : ds = es := by
  rw [← wnums_fold ds h, ← wnums_fold es h', e, hl]
/-- blocks of one length -/
theorem block_lt : ∀ {a b : List Nat}, a.length = b.length → ∀ (x y : List Nat), (a ++ x < b ++ y ↔ a < b ∨ a = b ∧ x < y)
  | [], [], _, x, y => by simp
  | c :: a, d :: b, hl, x, y => by
    have ih := block_lt (a := a) (b := b) (by simpa using hl) x y
    rw [List.cons_append, List.cons_append, List.cons_lt_cons_iff, List.cons_lt_cons_iff, ih]
    constructor
    · rintro (h | ⟨rfl, h | ⟨rfl, h⟩⟩)
      · exact .inl (.inl h)
      · exact .inl (.inr ⟨rfl, h⟩)
      · exact .inr ⟨rfl, h⟩
    · rintro ((h | ⟨rfl, h⟩) | ⟨h, h2⟩)
      · exact .inl h
      · exact .inr ⟨rfl, .inl h⟩
      · cases h; exact .inr ⟨rfl, .inr ⟨rfl, h2⟩⟩
  | [], _ :: _, hl, _, _ => by cases hl
  | _ :: _, [], hl, _, _ => by cases hl
/-- the words of four figures -/
def wd (n : Nat) : Str := Str.ofString (toString (((1000 + n : Nat)) : Int))
theorem wd_facts : ∀ d e : Fin 64, (wd d.val).cps.toList.length = 4 ∧ (decide ((wd d.val).cps.toList < (wd e.val).cps.toList) = decide (d.val < e.val)) ∧ (wd d.val == wd e.val) = (d.val == e.val) ∧ (wd d.val).cps.toList.contains 32 = false := by decide +kernel
theorem wd_len {d : Nat} (h : d < 64) : (wd d).cps.toList.length = 4 := (wd_facts ⟨d, h⟩ ⟨d, h⟩).1
theorem wd_lt {d e : Nat} (h : d < 64) (h' : e < 64) : ((wd d).cps.toList < (wd e).cps.toList) ↔ d < e := decide_eq_decide.mp (wd_facts ⟨d, h⟩ ⟨e, h'⟩).2.1
theorem wd_eq {d e : Nat} (h : d < 64) (h' : e < 64) : (wd d == wd e) = (d == e) := (wd_facts ⟨d, h⟩ ⟨e, h'⟩).2.2.1
theorem wd_inj {d e : Nat} (h : d < 64) (h' : e < 64) (q : (wd d).cps.toList = (wd e).cps.toList) : d = e := by
  by_cases h1 : d < e
  · have := (wd_lt h h').mpr h1
    rw [q] at this
    exact absurd this (List.lt_irrefl _)
  · by_cases h2 : e < d
    · have := (wd_lt h' h).mpr h2
      rw [q] at this
      exact absurd this (List.lt_irrefl _)
    · omega
theorem wd_free {d : Nat} (h : d < 64) : 32 ∉ (wd d).cps.toList := fun hm => by
  have := (wd_facts ⟨d, h⟩ ⟨d, h⟩).2.2.2
  rw [List.contains_iff_mem.mpr hm] at this
  cases this
def text48 (ds : List Nat) : Str := Txt.join ⟨#[32]⟩ (ds.map wd)
theorem text48_one (d : Nat) : (text48 [d]).cps.toList = (wd d).cps.toList := by
  unfold text48
  rw [show Txt.join ⟨#[32]⟩ ([d].map wd) = Str.join ⟨#[32]⟩ ([d].map wd) from StrLaws.glued_eq_join _ _]
  rfl
theorem text48_cons (d e : Nat) (r : List Nat) : (text48 (d :: e :: r)).cps.toList = (wd d).cps.toList ++ ([32] ++ (text48 (e :: r)).cps.toList) := by
  unfold text48
  rw [show Txt.join ⟨#[32]⟩ ((d :: e :: r).map wd) = Str.join ⟨#[32]⟩ ((d :: e :: r).map wd) from StrLaws.glued_eq_join _ _, show Txt.join ⟨#[32]⟩ ((e :: r).map wd) = Str.join ⟨#[32]⟩ ((e :: r).map wd) from StrLaws.glued_eq_join _ _]
  have e2 : (Str.join ⟨#[32]⟩ ((d :: e :: r).map wd)).cps = (wd d).cps ++ #[32] ++ (Str.join ⟨#[32]⟩ ((e :: r).map wd)).cps := rfl
  rw [e2]
  simp
theorem text48_lt : ∀ {ds es : List Nat}, ds.length = es.length → (∀ d ∈ ds, d < 64) → (∀ d ∈ es, d < 64) → ds ≠ [] → ((text48 ds).cps.toList < (text48 es).cps.toList ↔ fold48 ds < fold48 es)
  | [], _, _, _, _, h => absurd rfl h
  | [d], [e], _, h1, h2, _ => by
    rw [text48_one, text48_one, wd_lt (h1 d (.head _)) (h2 e (.head _))]
    simp [fold48]
  | d :: d2 :: ds, e :: e2 :: es, hl, h1, h2, _ => by
    have hd := h1 d (.head _)
    have he := h2 e (.head _)
    have hl' : (d2 :: ds).length = (e2 :: es).length := by simpa using hl
    have ih := text48_lt (ds := d2 :: ds) (es := e2 :: es) hl' (fun x hx => h1 x (.tail _ hx)) (fun x hx => h2 x (.tail _ hx)) (by simp)
    rw [text48_cons, text48_cons, block_lt (by rw [wd_len hd, wd_len he]), block_lt rfl, wd_lt hd he, ih, fold48_cons d (d2 :: ds), fold48_cons e (e2 :: es)]
    have b1 := fold48_lt (ds := d2 :: ds) fun x hx => Nat.lt_trans (h1 x (.tail _ hx)) (by decide)
    have b2 := fold48_lt (ds := e2 :: es) fun x hx => Nat.lt_trans (h2 x (.tail _ hx)) (by decide)
    rw [hl'] at b1 ⊢
    generalize 2048 ^ (e2 :: es).length = M at *
    generalize fold48 (d2 :: ds) = x at *
    generalize fold48 (e2 :: es) = y at *
    constructor
    · rintro (h | ⟨h, h3 | ⟨_, h3⟩⟩)
      · have : (d + 1) * M ≤ e * M := Nat.mul_le_mul_right _ h
        rw [Nat.succ_mul] at this
        omega
      · exact absurd h3 (List.lt_irrefl _)
      · rw [wd_inj hd he h]; omega
    · intro h
      by_cases h3 : d < e
      · exact .inl h3
      · by_cases h4 : e < d
        · have : (e + 1) * M ≤ d * M := Nat.mul_le_mul_right _ h4
          rw [Nat.succ_mul] at this
          omega
        · have : d = e := by omega
          subst this
          exact .inr ⟨rfl, .inr ⟨rfl, by omega⟩⟩
  | [_], _ :: _ :: _, hl, _, _, _ => by simp at hl
  | _ :: _ :: _, [_], hl, _, _, _ => by simp at hl
  | _ :: _, [], hl, _, _, _ => by simp at hl
/-- octets of one length stand in the order of their numbers -/
theorem foldB (l : List UInt8) : ∀ x : Nat, l.foldl (fun a c => a * 256 + c.toNat) x = x * 256 ^ l.length + l.foldl (fun a c => a * 256 + c.toNat) 0 := by
  induction l with
  | nil => intro x; simp
  | cons c l ih =>
    intro x
    rw [List.foldl_cons, List.foldl_cons, ih, ih (0 * 256 + c.toNat), List.length_cons, Nat.pow_succ, Nat.add_mul, Nat.zero_mul, Nat.zero_add, Nat.mul_assoc, Nat.mul_comm 256]
    omega
theorem order_lt : ∀ {a b : List UInt8}, a.length = b.length → ((Bytes.order a b == .lt) = decide (a.foldl (fun a c => a * 256 + c.toNat) 0 < b.foldl (fun a c => a * 256 + c.toNat) 0))
  | [], [], _ => by decide
  | x :: a, y :: b, hl => by
    have hl' : a.length = b.length := by simpa using hl
    have ih := order_lt hl'
    rw [List.foldl_cons, List.foldl_cons, foldB a, foldB b, Nat.zero_mul, Nat.zero_add, Nat.zero_add, hl']
    have b1 : a.foldl (fun a c => a * 256 + c.toNat) 0 < 256 ^ b.length := by have := fromB_lt ⟨a⟩; rw [← hl']; exact this
    have b2 : b.foldl (fun a c => a * 256 + c.toNat) 0 < 256 ^ b.length := fromB_lt ⟨b⟩
    generalize 256 ^ b.length = M at *
    generalize a.foldl (fun a c => a * 256 + c.toNat) 0 = u at *
    generalize b.foldl (fun a c => a * 256 + c.toNat) 0 = v at *
    unfold Bytes.order
    by_cases h1 : x < y
    · rw [if_pos h1]
      have : (x.toNat + 1) * M ≤ y.toNat * M := Nat.mul_le_mul_right _ (UInt8.lt_iff_toNat_lt.mp h1)
      rw [Nat.succ_mul] at this
      rw [decide_eq_true (by omega)]
      rfl
    · rw [if_neg h1]
      by_cases h2 : x > y
      · rw [if_pos h2]
        have : (y.toNat + 1) * M ≤ x.toNat * M := Nat.mul_le_mul_right _ (UInt8.lt_iff_toNat_lt.mp h2)
        rw [Nat.succ_mul] at this
        rw [decide_eq_false (by omega)]
        rfl
      · rw [if_neg h2, ih]
        have : x = y := UInt8.le_antisymm (UInt8.not_lt.mp h2) (UInt8.not_lt.mp h1)
        subst this
        rw [decide_eq_decide]
        omega
  | [], _ :: _, hl => by cases hl
  | _ :: _, [], hl => by cases hl
theorem toB_succ (n k : Nat) : (toB n (k + 1)).toList = (toB (n / 256) k).toList ++ [(n % 256).toUInt8] := by
  unfold toB
  simp only []
  rw [List.range_succ, List.map_append]
  congr 1
  · refine List.map_congr_left fun i hi => ?_
    have hi := List.mem_range.mp hi
    have e : k + 1 - 1 - i = (k - 1 - i) + 1 := by omega
    rw [e, Nat.pow_succ, Nat.mul_comm, ← Nat.div_div_eq_div_mul]
  · simp
theorem fromB_toB : ∀ (k n : Nat), n < 256 ^ k → fromB (toB n k) = n
  | 0, n, h => by
    have : n = 0 := by simpa using h
    subst this
    rfl
  | k + 1, n, h => by
    unfold fromB
    rw [toB_succ, List.foldl_append]
    have ih := fromB_toB k (n / 256) (by rw [Nat.pow_succ] at h; omega)
    unfold fromB at ih
    rw [ih]
    show n / 256 * 256 + (n % 256).toUInt8.toNat = n
    rw [u8_toNat]
    omega
end Mine

set_option maxRecDepth 100000
set_option autoImplicit false
set_option linter.unusedVariables false
set_option linter.unusedSectionVars false
namespace Mine
open PySem PySem.W PyProof.Rows PySem.Calls PySem.SeqAt
/-! map -/
theorem mp_slot_init : Slot "map" "__init__" "object.__init__" :=
  .of (owner := "object") (n := "__init__") (by rw [typeLookup_type, builtinLookup_eq_fast]; kernel_rfl) (by decide +kernel) (by decide +kernel) (by decide +kernel)
    (by first | exact .inl (by decide +kernel) | exact .inr (by decide +kernel)) (by rw [isSubtype_type]; kernel_rfl)
theorem mp_slot_next : Slot "map" "__next__" "map.__next__" :=
  .of (owner := "map") (n := "__next__") (by rw [typeLookup_type, builtinLookup_eq_fast]; kernel_rfl) (by decide +kernel) (by decide +kernel) (by decide +kernel)
    (by first | exact .inl (by decide +kernel) | exact .inr (by decide +kernel)) (by rw [isSubtype_type]; kernel_rfl)
theorem mp_slot_self : Slot "map" "__iter__" "map.__iter__" :=
  .of (owner := "map") (n := "__iter__") (by rw [typeLookup_type, builtinLookup_eq_fast]; kernel_rfl) (by decide +kernel) (by decide +kernel) (by decide +kernel)
    (by first | exact .inl (by decide +kernel) | exact .inr (by decide +kernel)) (by rw [isSubtype_type]; kernel_rfl)
theorem mp_mro : mroOf (.type "map") = pure [.type "map", .type "object"] := by rw [mroOf_type]; kernel_rfl
theorem mp_new : typeLookup (.type "map") "__new__" = pure (some (.builtin "map.__new__")) := by rw [typeLookup_type, builtinLookup_eq_fast]; kernel_rfl
theorem mp_sub : isSubtype (.type "map") (.type "map") = pure true := by rw [isSubtype_type]; kernel_rfl
theorem mp_called : TypeCalled "map" "map.__new__" "object.__init__" :=
  ⟨by decide +kernel, by decide +kernel, ⟨_, _, mp_mro⟩, madeBy_type mp_mro mp_new (by decide +kernel), by decide +kernel, mp_sub, mp_slot_init⟩
theorem mp_type (a b : Value) : checkTypeCall "map" ⟨[a, b], []⟩ = pure () := by kernel_rfl
theorem mp_newCall (a b : Value) : checkBuiltinCall "map.__new__" ⟨[.type "map", a, b], []⟩ = pure () := by kernel_rfl
theorem mp_entry_new : entryFor table "map.__new__" = some Builtin.«map.__new__» := entryFor_of_tree (by kernel_rfl)
theorem mp_plain_new : plainId "map.__new__" = true := by decide +kernel
theorem mp_entry_next : entryFor table "map.__next__" = some Builtin.«map.__next__» := entryFor_of_tree (by kernel_rfl)
theorem mp_args_next (a : Value) : argsOk "map.__next__" ⟨[a], []⟩ := by unfold argsOk; kernel_rfl
theorem mp_args_self (a : Value) : argsOk "map.__iter__" ⟨[a], []⟩ := by unfold argsOk; kernel_rfl
theorem mp_entry_self : entryFor table "map.__iter__" = some Builtin.«dict_keyiterator.__iter__» := entryFor_alias (id' := "dict_keyiterator.__iter__") (by kernel_rfl) rfl (by decide +kernel) (by kernel_rfl)
theorem mp_no_len : typeLookup (.type "map") "__len__" = pure none := by rw [typeLookup_type, builtinLookup_eq_fast]; kernel_rfl
theorem mp_no_hint : typeLookup (.type "map") "__length_hint__" = pure none := by rw [typeLookup_type, builtinLookup_eq_fast]; kernel_rfl
end Mine

set_option maxRecDepth 100000
set_option autoImplicit false
set_option linter.unusedVariables false
set_option linter.unusedSectionVars false
namespace Mine
open PySem PySem.W PyProof.Rows PySem.Calls PySem.SeqAt
theorem mp_class (f l : Value) : Builtin.SmallTypes.newClass "map" ⟨[.type "map", f, l], []⟩ = pure (Value.type "map", [f, l]) := by kernel_rfl
section
variable {prog : Program} {w : World} {A : Around} {E : Value → Shared → Prop} {s : Shared}
abbrev fldO (T : String) (fs : List Value) : Obj := { cls := .type T, dict := none, data := .fields fs.toArray, slots := #[] }
abbrev tuObj (a : Addr) : Obj := { cls := .type "tuple", data := .seq #[.ref a] }
def mapHeap (h : Heap) (l : Addr) (f : Value) : Heap := ((h.push (fldO "list_iterator" [.ref l, .int 0 0])).push (tuObj h.objs.size)).push (fldO "map" [.ref (h.objs.size + 1), f])
theorem iterAll_one {x : Value} {Q : List Value → Shared → Prop} (h : wpAny (model prog w) A (pyIter x) (fun v s' => Q [v] s') E s) : wpAny (model prog w) A (Builtin.SmallTypes.iterAll [x]) Q E s := by
  unfold Builtin.SmallTypes.iterAll
  simp only [List.forIn_cons, List.forIn_nil, bind_assoc, pure_bind]
  exact wpAny_bind (wpAny_holding (wpAny_mono h (fun v s' q => wpAny_pure q) fun _ _ q => q))
theorem mp_code_new {f : Value} {l : Addr} {items : Array Value} {Q₁ : Value → Shared → Prop} (hl : s.heap.IsList l items)
    (h : Q₁ (.ref (s.heap.objs.size + 2)) { s with heap := mapHeap s.heap l f }) :
    codeAny (model prog w) A (.call (.builtin "map.__new__") ⟨[.type "map", f, .ref l], []⟩) (wants Q₁ E) s := by
  refine codeAny_of_tree ?_
  show wpAny _ A.in1 (do checkBuiltinCall "map.__new__" ⟨[.type "map", f, .ref l], []⟩; again (.builtin "map.__new__" ⟨[.type "map", f, .ref l], []⟩)) _ _ s
  refine wpAny_bind (wpAny_of_eq (mp_newCall _ _) (wpAny_pure ⟨plainId_quiet mp_plain_new _, codeAny_builtin mp_entry_new ?_⟩))
  rw [Around.under_plainId mp_plain_new _]
  unfold Builtin.«map.__new__»
  refine wpAny_bind (wpAny_of_eq (mp_class _ _) ?_)
  try dsimp only
  refine wpAny_bind (wpAny_of_eq (a := ()) (by first | rfl | kernel_rfl) ?_)
  try dsimp only
  rw [if_neg (by simp)]
  refine wpAny_bind ?_
  rw [show List.drop 1 [f, Value.ref l] = [.ref l] from rfl]
  refine iterAll_one (wpAny_pyIter_list hl ?_)
  refine wpAny_bind ?_
  show wpAny _ _ (newObj (.type "tuple") (.seq [Value.ref s.heap.objs.size].toArray)) _ _ _
  refine wpAny_newObj_type ?_ (by size_fits)
  refine wpAny_bind ?_
  show wpAny _ _ (newObj (.type "map") (.fields [Value.ref _, f].toArray)) _ _ _
  refine wpAny_newObj_type ?_ (by size_fits)
  refine wpAny_pure ?_
  have e1 := Heap.size_push s.heap (fldO "list_iterator" [.ref l, .int 0 0])
  have e2 := Heap.size_push (s.heap.push (fldO "list_iterator" [.ref l, .int 0 0])) (tuObj s.heap.objs.size)
  unfold mapHeap at h
  simp only [e1, e2] at h ⊢
  exact h

theorem mp_call {f : Value} {l : Addr} {items : Array Value} {Q : Value → Shared → Prop} (hl : s.heap.IsList l items)
    (h : Q (.ref (s.heap.objs.size + 2)) { s with heap := mapHeap s.heap l f }) : wpAny (model prog w) A (call (.type "map") [f, .ref l]) Q E s := by
  have e1 := Heap.size_push s.heap (fldO "list_iterator" [.ref l, .int 0 0])
  have e2 := Heap.size_push (s.heap.push (fldO "list_iterator" [.ref l, .int 0 0])) (tuObj s.heap.objs.size)
  refine callType_codes (Q₁ := fun obj s₁ => s₁.TypeIs obj "map" ∧ Q obj s₁) mp_called (mp_type _ _) PySem.F.entry_object_init
    (mp_code_new hl ⟨⟨fldO "map" [.ref (s.heap.objs.size + 1), f], ?_, rfl⟩, h⟩) fun obj s₁ h₁ => ?_
  · show (mapHeap s.heap l f).get? (s.heap.objs.size + 2) = _
    unfold mapHeap
    have := Heap.get?_push_size ((s.heap.push (fldO "list_iterator" [.ref l, .int 0 0])).push (tuObj s.heap.objs.size)) (o := fldO "map" [.ref (s.heap.objs.size + 1), f]) rfl
    rw [e2, e1] at this
    exact this
  · exact ⟨h₁.1, PySem.F.args_object_init_3 obj _ _, object_init_meets mp_called.init.lookup mp_called.made (by decide) prog w A.in1 _ s₁ ⟨h₁.1, rfl, h₁.2⟩⟩

/-- the next of a list's iterator -/
theorem li_item {it l : Addr} {i : Nat} {items : Array Value} {x : Value} {Q : Option Value → Shared → Prop} (hit : s.heap.get? it = some (fldO "list_iterator" [.ref l, .int i 0]))
    (hl : s.heap.IsList l items) (hx : items[i]? = some x)
    (hQ : ∀ h', h'.get? it = some (fldO "list_iterator" [.ref l, .int (i + 1 : Nat) 0]) → Heap.SameBut it s.heap h' → Q (some x) { s with heap := h' }) :
    wpAny (model prog w) A (callSpecial? (.ref it) "__next__") Q E s := by
  obtain ⟨ol, hol, _, nl, hdl⟩ := hl
  refine wpAny_callSpecial?_slot (name := Str.ofString "__next__") ⟨_, hit, rfl⟩ slot_listiter_next
    (wpAny_call_entry slot_listiter_next ⟨_, hit, rfl⟩ entry_listiter_next ?_ (args_listiter_next _))
  show wpAny _ _ (field (.ref it) 0 >>= _) _ _ s
  refine wpAny_bind (wpAny_field hit rfl (x := .ref l) rfl ?_)
  show wpAny _ _ (if (Value.ref l == Value.none) = true then _ else _) _ _ s
  rw [if_neg (show ¬ ((Value.ref l == Value.none) = true) from Bool.false_ne_true)]
  show wpAny _ _ (field (.ref it) 1 >>= _) _ _ s
  refine wpAny_bind (wpAny_field hit rfl (x := .int i 0) rfl ?_)
  show wpAny _ _ (seqItems? (.ref l) >>= _) _ _ s
  refine wpAny_bind (wpAny_seqItems hol hdl ?_)
  simp only [Int.toNat_natCast, hx]
  refine wpAny_bind (wpAny_setField_rec hit (by simp) fun h' e1 e2 => wpAny_pure ⟨x, rfl, hQ h' ?_ e2⟩)
  rw [e1]; simp [rawInt]

theorem li_end {it l : Addr} {i : Nat} {items : Array Value} {Q : Option Value → Shared → Prop} (hh : A.handled = none) (hit : s.heap.get? it = some (fldO "list_iterator" [.ref l, .int i 0]))
    (hl : s.heap.IsList l items) (hx : items[i]? = none)
    (hE : ∀ h' e, h'.get? it = some (fldO "list_iterator" [.none, .int i 0]) → Heap.ExtBut it s.heap h' → s.heap.objs.size ≤ h'.objs.size → Shared.TypeIs { s with heap := h' } e "StopIteration" → E e { s with heap := h' }) :
    wpAny (model prog w) A (callSpecial? (.ref it) "__next__") Q E s := by
  obtain ⟨ol, hol, _, nl, hdl⟩ := hl
  refine wpAny_callSpecial?_slot (name := Str.ofString "__next__") ⟨_, hit, rfl⟩ slot_listiter_next
    (wpAny_call_entry slot_listiter_next ⟨_, hit, rfl⟩ entry_listiter_next ?_ (args_listiter_next _))
  show wpAny _ _ (field (.ref it) 0 >>= _) _ _ s
  refine wpAny_bind (wpAny_field hit rfl (x := .ref l) rfl ?_)
  show wpAny _ _ (if (Value.ref l == Value.none) = true then _ else _) _ _ s
  rw [if_neg (show ¬ ((Value.ref l == Value.none) = true) from Bool.false_ne_true)]
  show wpAny _ _ (field (.ref it) 1 >>= _) _ _ s
  refine wpAny_bind (wpAny_field hit rfl (x := .int i 0) rfl ?_)
  show wpAny _ _ (seqItems? (.ref l) >>= _) _ _ s
  refine wpAny_bind (wpAny_seqItems hol hdl ?_)
  simp only [Int.toNat_natCast, hx]
  refine wpAny_bind (wpAny_rule (wpAny_bind (wpAny_setField_rec hit (by simp) fun h' e1 e2 => ?_)))
  have e1' : h'.get? it = some (fldO "list_iterator" [.none, .int i 0]) := by rw [e1]; simp
  show wpAny _ _ (newExc (.type "StopIteration") [] >>= _) _ _ _
  refine wpAny_bind ?_
  simp only [newExc, newTuple]
  refine wpAny_bind (wpAny_newObj_type ?_ (by size_fits))
  refine wpAny_bind (m := firstArgMember _ _) (wpAny_of_eq (a := Value.none) (by first | rfl | (simp only [firstArgMember]; rfl)) ?_)
  refine wpAny_newObj_type ?_ (by size_fits)
  simp only [raiseNew]
  refine wpAny_bind (wpAny_handled ?_)
  rw [show A.in1.handled = none from hh]
  refine wpAny_bind (wpAny_pure (wpAny_throw ?_))
  refine hE _ _ (Heap.get?_push_of_some _ (Heap.get?_push_of_some _ e1')) ((e2.extBut.push _).push _) ?_ ⟨_, Heap.get?_push_size _ rfl, rfl⟩
  rw [Heap.size_push, Heap.size_push]; have := e2.1; show s.heap.objs.size ≤ h'.objs.size + 1 + 1; omega
end
end Mine

set_option maxRecDepth 100000
set_option autoImplicit false
set_option linter.unusedVariables false
set_option linter.unusedSectionVars false
namespace Mine
open PySem PySem.W PyProof.Rows PySem.Calls PySem.SeqAt
section
variable {C : Cx} {k : Nat} {pe : PEnv} {σ : St} {PE : Value → St → Prop} {PQ : PV → St → Prop}
abbrev liP (l : Nat) (j : Nat) : PO := .rcd "list_iterator" [.obj l, .lit (.int (j : Int) 0)]
abbrev liE (j : Nat) : PO := .rcd "list_iterator" [.none, .lit (.int (j : Int) 0)]
theorem fldAt {as : List Addr} {h : Heap} {i : Nat} {a : Addr} {T : String} {fs : List PV} (I : HInv C.h₀ as σ h) (g : σ[i]? = some (.rcd T fs)) (e : as[i]? = some a) : ∃ vs, h.get? a = some (fldO T vs) ∧ VRs as fs vs := I.atRef g e
theorem HInv.putX {h₀ : Heap} {as : List Addr} {σ : St} {h h' : Heap} {i : Nat} {a : Addr} {po : PO} (H : HInv h₀ as σ h) (hi : as[i]? = some a) (hs : Heap.ExtBut a h h') (hz : h.objs.size ≤ h'.objs.size) (R : HR as h' a po)
    (hn : ∀ n l, po ≠ .ns n l) : HInv h₀ as (σ.set i po) h' := by
  have ne : ∀ {j x}, as[j]? = some x → j ≠ i → x ≠ a := fun {j x} e hj q => by
    subst q
    obtain ⟨l1, e1⟩ := List.getElem?_eq_some_iff.mp e
    obtain ⟨l2, e2⟩ := List.getElem?_eq_some_iff.mp hi
    exact hj ((List.getElem_inj H.nd).mp (e1.trans e2.symm))
  have hl : i < σ.length := H.len ▸ (List.getElem?_eq_some_iff.mp hi).1
  refine ⟨by simp [H.len], H.nd, fun b o e => ?_, H.new, fun j x n l e1 e2 => ?_, Nat.le_trans H.size hz, ?_⟩
  · have hb : b ≠ a := fun q => by
      have := H.new _ (mem_of_get? hi)
      rw [← q, e] at this; cases this
    exact hs b o hb (H.base b o e)
  · by_cases hj : i = j
    · subst hj
      rw [List.getElem?_set_self hl] at e2; cases e2
      exact absurd rfl (hn n l)
    · rw [List.getElem?_set_ne hj] at e2
      exact H.above j x n l e1 e2
  · intro j x p e1 e2
    by_cases hj : i = j
    · subst hj
      rw [hi] at e1; cases e1
      rw [List.getElem?_set_self hl] at e2; cases e2
      exact R
    · rw [List.getElem?_set_ne hj] at e2
      exact (H.rel j x p e1 e2).keep fun o e => hs x o (ne e1 (Ne.symm hj)) e
theorem Go.putX {as : List Addr} {s : Shared} {h : Heap} {a : Addr} {tk : Nat} (ha : a ∈ as) (hs : Heap.ExtBut a s.heap h) : Go as s as { s with heap := h, toks := tk } :=
  ⟨SRel.heap s h tk, fun b o hb e => ⟨hb, by simp, hs b o (fun q => hb (q ▸ ha)) e⟩⟩
theorem mp_item {A : Around} {env : Env} {s : Shared} {as : List Addr} {Q : Option Value → Shared → Prop} {E : Value → Shared → Prop} {m t i l j : Nat} {a : Addr} {pf x : PV} {xs : List PV} (H : At C (k + 1) pe as σ A s) (N : EnvRel as pe env)
    (gm : σ[m]? = some (.rcd "map" [.obj t, pf])) (gt : σ[t]? = some (.tuple [.obj i])) (gi : σ[i]? = some (liP l j)) (gl : σ[l]? = some (.list xs)) (hx : xs[j]? = some x) (ea : as[m]? = some a)
    (hc : TC C k pe pf [x] [] (σ.set i (liP l (j + 1))) PQ PE) (hE : ∀ c σ', PE c σ' → ∃ T, c = .type T ∧ isSubtype (.type T) (.type "StopIteration") = pure false)
    (R : Run C as σ s (fun as p v => ∃ u, v = some u ∧ VR as p u) PQ Q) (X : Exc C as σ s PE E) : wpAny (model C.prog C.w) A (pyNext (.ref a)) Q E s := by
  obtain ⟨vm, hm, rm⟩ := fldAt H.inv gm ea
  cases rm with
  | cons rt rm =>
  cases rm with
  | cons rf rm =>
  cases rm
  cases rt with
  | obj _ at' et =>
  obtain ⟨vt, ⟨ot, hot, hct, nt, hdt⟩, rt⟩ := H.inv.atRef gt et
  cases rt with
  | cons ri rt =>
  cases rt
  cases ri with
  | obj _ ai ei =>
  obtain ⟨vi, hi, ri⟩ := fldAt H.inv gi ei
  cases ri with
  | cons rl ri =>
  cases ri with
  | cons rj ri =>
  cases ri
  cases rj
  cases rl with
  | obj _ al el =>
  obtain ⟨vl, hl, rl⟩ := H.inv.atRef gl el
  obtain ⟨vx, hvx, rx⟩ := rl.get hx
  have hT : s.TypeIs (.ref a) "map" := ⟨_, hm, rfl⟩
  unfold pyNext
  refine wpAny_bind (wpAny_attempt (wpAny_callSpecial?_slot (name := PySem.Str.ofString "__next__") hT mp_slot_next
    (wpAny_call_entry mp_slot_next hT mp_entry_next ?_ (mp_args_next _))))
  unfold Builtin.«map.__next__»
  refine wpAny_bind (wpAny_of_eq (a := (Value.ref a, [])) rfl ?_)
  try dsimp only
  refine wpAny_bind (wpAny_field hm rfl (x := .ref at') rfl ?_)
  refine wpAny_bind (wpAny_seqItems hot hdt ?_)
  try dsimp only
  simp only [List.forIn_toArray, List.forIn_cons, List.forIn_nil, bind_assoc, pure_bind]
  refine wpAny_bind (wpAny_holding ?_)
  unfold Builtin.SmallTypes.nextOf
  refine wpAny_bind (li_item hi hl.isList (by simpa using hvx) fun h' e1 e2 => ?_)
  refine wpAny_pure ?_
  have I₁ : HInv C.h₀ as (σ.set i (liP l (j + 1))) h' := H.inv.put ei e2 ⟨_, e1, .cons (.obj _ _ el) (.cons (.lit _) .nil)⟩ (fun _ _ z => nomatch z)
  have x₁ : Ext σ (σ.set i (liP l (j + 1))) := Ext.set gi fun _ _ z => nomatch z
  have g₁ : Go as s as { s with heap := h' } := Go.put (tk := s.toks) (mem_of_get? ei) e2
  have H₁ : At C k pe as (σ.set i (liP l (j + 1))) A.in1 { s with heap := h' } := ⟨H.ok, H.a.in1, I₁, fun q hq => x₁.2 q (H.frs q hq)⟩
  have hm' : h'.get? a = some (fldO "map" [.ref at', _]) := (e2.2 a (fun e => by rw [e] at hm; rw [hm] at hi; exact absurd (congrArg Obj.cls (Option.some.inj hi)) (by simp))).trans hm
  refine wpAny_bind (wpAny_field (s := { s with heap := h' }) hm' rfl (x := _) rfl ?_)
  refine wpAny_bind (wpAny_holding ?_)
  refine hc A.in1 env { s with heap := h' } as _ _ _ [vx] [] H₁ N rf (.cons rx .nil) .nil (fun v p σ' as' s' h₁ a₁ y₁ r₁ i₁ w₁ => ?_) (fun e c tb ys σ' as' s' h₁ a₁ y₁ n₁ i₁ w₁ => ?_)
  · refine wpAny_bind (wpAny_letGo (wpAny_pure ⟨v, rfl, wpAny_pure ?_⟩))
    exact R (some v) p σ' as' s' h₁ a₁ (x₁.trans y₁) ⟨v, rfl, r₁⟩ i₁ (g₁.trans w₁)
  · obtain ⟨T, rfl, hs⟩ := hE _ _ h₁
    obtain ⟨hxs, b, oe, vs, rfl, hb, he, hcl, r⟩ := id n₁
    refine wpAny_bind (wpAny_isInstance (T := T) (b := false) ⟨oe, he, hcl⟩ hs ?_)
    rw [if_neg (by simp)]
    exact wpAny_throw (X (.ref b) (.type T) tb ys σ' as' s' h₁ a₁ (x₁.trans y₁) n₁ i₁ (g₁.trans w₁))
theorem mp_end {A : Around} {env : Env} {s : Shared} {as : List Addr} {Q : Option Value → Shared → Prop} {E : Value → Shared → Prop} {m t i l j : Nat} {a : Addr} {pf : PV} {xs : List PV} (H : At C (k + 1) pe as σ A s) (N : EnvRel as pe env) (hcl : pe.clean = true)
    (gm : σ[m]? = some (.rcd "map" [.obj t, pf])) (gt : σ[t]? = some (.tuple [.obj i])) (gi : σ[i]? = some (liP l j)) (gl : σ[l]? = some (.list xs)) (hx : xs[j]? = none) (ea : as[m]? = some a)
    (R : ∀ s', HInv C.h₀ as (σ.set i (liE j)) s'.heap → Go as s as s' → Q none s') : wpAny (model C.prog C.w) A (pyNext (.ref a)) Q E s := by
  obtain ⟨vm, hm, rm⟩ := fldAt H.inv gm ea
  cases rm with
  | cons rt rm =>
  cases rm with
  | cons rf rm =>
  cases rm
  cases rt with
  | obj _ at' et =>
  obtain ⟨vt, ⟨ot, hot, hct, nt, hdt⟩, rt⟩ := H.inv.atRef gt et
  cases rt with
  | cons ri rt =>
  cases rt
  cases ri with
  | obj _ ai ei =>
  obtain ⟨vi, hi, ri⟩ := fldAt H.inv gi ei
  cases ri with
  | cons rl ri =>
  cases ri with
  | cons rj ri =>
  cases ri
  cases rj
  cases rl with
  | obj _ al el =>
  obtain ⟨vl, hl, rl⟩ := H.inv.atRef gl el
  have hn : vl.toArray[j]? = none := by
    have := rl.length
    rw [List.getElem?_eq_none_iff] at hx
    simp; omega
  have hT : s.TypeIs (.ref a) "map" := ⟨_, hm, rfl⟩
  unfold pyNext
  refine wpAny_bind (wpAny_attempt (wpAny_callSpecial?_slot (name := PySem.Str.ofString "__next__") hT mp_slot_next
    (wpAny_call_entry mp_slot_next hT mp_entry_next ?_ (mp_args_next _))))
  unfold Builtin.«map.__next__»
  refine wpAny_bind (wpAny_of_eq (a := (Value.ref a, [])) rfl ?_)
  try dsimp only
  refine wpAny_bind (wpAny_field hm rfl (x := .ref at') rfl ?_)
  refine wpAny_bind (wpAny_seqItems hot hdt ?_)
  try dsimp only
  simp only [List.forIn_toArray, List.forIn_cons, List.forIn_nil, bind_assoc, pure_bind]
  refine wpAny_bind (wpAny_holding ?_)
  unfold Builtin.SmallTypes.nextOf
  refine wpAny_bind (li_end (H.a.in1.clean hcl) hi hl.isList hn fun h' e e1 e2 e3 e4 => ?_)
  refine wpAny_bind (wpAny_isInstance (T := "StopIteration") (b := true) e4 isSubtype_stop ?_)
  refine wpAny_pure (R _ ?_ ?_)
  · exact H.inv.putX ei e2 e3 ⟨_, e1, .cons .none (.cons (.lit _) .nil)⟩ (fun _ _ z => nomatch z)
  · exact Go.putX (tk := s.toks) (mem_of_get? ei) e2
/-- the state in the midst of a join over a map -/
abbrev mst (σ : St) (i l j : Nat) (ys : List Str) : St := σ.set i (liP l j) ++ [.list (ys.map .str)]
abbrev mstE (σ : St) (i n : Nat) (ys : List Str) : St := σ.set i (liE n) ++ [.list (ys.map .str)]
theorem mst_next {i l j : Nat} {ys : List Str} (hi : i < σ.length) : (mst σ i l j ys).set i (liP l (j + 1)) = mst σ i l (j + 1) ys := by
  unfold mst; rw [List.set_append_left _ _ (by simpa using hi), List.set_set]
theorem mst_push {i l j : Nat} {ys zs : List Str} : (mst σ i l j ys).set σ.length (.list (zs.map .str)) = mst σ i l j zs := by
  unfold mst; rw [List.set_append_right _ _ (by simp)]; simp
theorem mst_end {i l j : Nat} {ys : List Str} (hi : i < σ.length) : (mst σ i l j ys).set i (liE j) = mstE σ i j ys := by
  unfold mst mstE; rw [List.set_append_left _ _ (by simpa using hi), List.set_set]
theorem mst_get {i l j x : Nat} {ys : List Str} {po : PO} (g : σ[x]? = some po) (hx : x ≠ i) : (mst σ i l j ys)[x]? = some po := by
  unfold mst; rw [List.getElem?_append_left (by simpa using (List.getElem?_eq_some_iff.mp g).1), List.getElem?_set_ne hx.symm]; exact g
theorem mst_it {i l j : Nat} {ys : List Str} (hi : i < σ.length) : (mst σ i l j ys)[i]? = some (liP l j) := by
  unfold mst; rw [List.getElem?_append_left (by simpa using hi), List.getElem?_set_self hi]
theorem mst_acc {i l j : Nat} {ys : List Str} : (mst σ i l j ys)[σ.length]? = some (.list (ys.map .str)) := by
  unfold mst; rw [List.getElem?_append_right (by simp)]; simp
theorem mstE_acc {i j : Nat} {ys : List Str} : (mstE σ i j ys)[σ.length]? = some (.list (ys.map .str)) := by
  unfold mstE; rw [List.getElem?_append_right (by simp)]; simp
theorem upd_list {as : List Addr} {h : Heap} {i : Nat} {a : Addr} {ys : List Str} {y : Str} {v : Value} (I : HInv C.h₀ as σ h) (g : σ[i]? = some (.list (ys.map .str))) (e : as[i]? = some a) (rv : VR as (.str y) v) :
    ∃ o vs n, h.get? a = some o ∧ o.data = .seq vs n ∧ vs.size = ys.length ∧ HInv C.h₀ as (σ.set i (.list ((ys ++ [y]).map .str))) (h.update a (Obj.mapSeq (·.push v))) := by
  obtain ⟨vs, ⟨n, ho⟩, rs⟩ := I.atRef g e
  refine ⟨_, _, n, ho, rfl, by have := rs.length; simpa using this, I.put e (Heap.SameBut.update ..) ?_ (fun _ _ z => nomatch z)⟩
  refine ⟨vs ++ [v], ⟨n + 1, ?_⟩, ?_⟩
  · rw [Heap.get?_update_self _ ho (by rw [Obj.mapSeq_push_plain]; rfl), Obj.mapSeq_push_plain]; simp
  · rw [List.map_append]; exact rs.append (.cons rv .nil)
theorem touch_list {as : List Addr} {h : Heap} {i : Nat} {a : Addr} (I : HInv C.h₀ as σ h) (g : σ[i]? = some (.list [])) (e : as[i]? = some a) :
    ∃ o vs n o', h.get? a = some o ∧ o.data = .seq vs n ∧ vs.size = 0 ∧ (h.update a (Obj.mapSeq (·.push Value.none))).get? a = some o' ∧ o'.data = .seq (vs.push Value.none) (n + 1) ∧
      HInv C.h₀ as σ ((h.update a (Obj.mapSeq (·.push Value.none))).update a (Obj.mapSeq (·.pop))) ∧ Heap.SameBut a h ((h.update a (Obj.mapSeq (·.push Value.none))).update a (Obj.mapSeq (·.pop))) := by
  obtain ⟨vs, ⟨n, ho⟩, rs⟩ := I.atRef g e
  cases rs
  have h2 := Heap.get?_update_self (Obj.mapSeq (·.push Value.none)) ho (by rw [Obj.mapSeq_push_plain]; rfl)
  rw [Obj.mapSeq_push_plain] at h2
  have sb : Heap.SameBut a h ((h.update a (Obj.mapSeq (·.push Value.none))).update a (Obj.mapSeq (·.pop))) := (Heap.SameBut.update ..).trans (Heap.SameBut.update ..)
  refine ⟨_, _, n, _, ho, rfl, rfl, h2, rfl, ?_, sb⟩
  have hi : i < σ.length := (List.getElem?_eq_some_iff.mp g).1
  have eq : σ.set i (.list []) = σ := by
    apply List.ext_getElem?
    intro j
    by_cases hj : i = j
    · subst hj; rw [List.getElem?_set_self hi, g]
    · rw [List.getElem?_set_ne hj]
  have := I.put (po := .list []) e sb ⟨[], ⟨n + 2, ?_⟩, .nil⟩ (fun _ _ z => nomatch z)
  · rw [eq] at this; exact this
  · rw [Heap.get?_update_self (Obj.mapSeq (·.pop)) h2 (by simp [Obj.mapSeq]; rfl)]; simp [Obj.mapSeq]
theorem mp_loop {R₀ : Result → Shared → Prop} {A : Around} {env : Env} {m t i l n : Nat} {a S : Addr} {pf : PV} {xs : List PV} {P : Nat → Str → Prop} (hcl : pe.clean = true) (hn : xs.length = n) (hz : n ≤ 1000000)
    (gm : σ[m]? = some (.rcd "map" [.obj t, pf])) (gt : σ[t]? = some (.tuple [.obj i])) (gl : σ[l]? = some (.list xs)) (gi : σ[i]? = some (liP l 0)) 
    (hc : ∀ j x (ys : List Str), xs[j]? = some x → ys.length = j → (∀ q y, ys[q]? = some y → P q y) → TC C k pe pf [x] [] (mst σ i l (j + 1) ys) (fun q σ' => σ' = mst σ i l (j + 1) ys ∧ ∃ y, q = .str y ∧ P j y) PE)
    (hE : ∀ c σ', PE c σ' → ∃ T, c = .type T ∧ isSubtype (.type T) (.type "StopIteration") = pure false) :
    ∀ (d j : Nat) (ys : List Str) (as : List Addr) (s : Shared), n - j = d → j ≤ n → ys.length = j → (∀ q y, ys[q]? = some y → P q y) → At C (k + 1) pe as (mst σ i l j ys) A.in1 s → EnvRel as pe env → as[m]? = some a → as[σ.length]? = some S →
    (∀ (zs : List Str) (as' : List Addr) (s' : Shared), zs.length = n → (∀ q y, zs[q]? = some y → P q y) → as <+: as' → Ext (mst σ i l j ys) (mstE σ i n zs) → HInv C.h₀ as' (mstE σ i n zs) s'.heap → Go as s as' s' → R₀ (.ok (.ret (.ref S))) s') →
    Exc C as (mst σ i l j ys) s PE (fun e s' => R₀ (.error e) s') →
    codeAny (model C.prog C.w) A (.builtin "list.extend.loop" ⟨[.ref S, .ref a, .ref S], []⟩) R₀ s := by
  have hne : i ≠ m := fun e => by rw [e, gm] at gi; exact absurd gi (by simp)
  have hnt : i ≠ t := fun e => by rw [e, gt] at gi; exact absurd gi (by simp)
  have hnl : i ≠ l := fun e => by rw [e, gl] at gi; exact absurd gi (by simp)
  have hi : i < σ.length := (List.getElem?_eq_some_iff.mp gi).1
  intro d
  induction d with
  | zero =>
    intro j ys as s hd hj hl hP H N ea eS hR hX
    have hjn : j = n := by omega
    subst hjn
    refine codeAny_builtin PySem.F.entry_extend_loop ?_
    rw [Around.under_plainId PySem.F.plain_extend_loop _]
    show wpAny _ A.in1 (pyNext (.ref a) >>= _) _ _ s
    refine wpAny_bind (mp_end H N hcl (mst_get gm hne.symm) (mst_get gt hnt.symm) (mst_it hi) (mst_get gl hnl.symm) (List.getElem?_eq_none (by omega)) ea fun s' I G => ?_)
    rw [mst_end hi] at I
    refine wpAny_pure (hR ys as s' hl hP (List.prefix_refl _) ?_ I G)
    rw [← mst_end hi]
    exact Ext.set (mst_it hi) fun _ _ z => nomatch z
  | succ d ih =>
    intro j ys as s hd hj hl hP H N ea eS hR hX
    have hlt : j < xs.length := by omega
    refine codeAny_builtin PySem.F.entry_extend_loop ?_
    rw [Around.under_plainId PySem.F.plain_extend_loop _]
    show wpAny _ A.in1 (pyNext (.ref a) >>= _) _ _ s
    refine wpAny_bind (mp_item H N (mst_get gm hne.symm) (mst_get gt hnt.symm) (mst_it hi) (mst_get gl hnl.symm) (List.getElem?_eq_getElem hlt) ea (by rw [mst_next hi]; exact hc j _ ys (List.getElem?_eq_getElem hlt) hl hP) hE (fun v p σ' as' s' h₁ a₁ x₁ r₁ i₁ w₁ => ?_) hX)
    obtain ⟨rfl, y, rfl, hy⟩ := h₁
    obtain ⟨u, rfl, ru⟩ := r₁
    have eS' := pre_get a₁ eS
    obtain ⟨o, vs, c, ho, hd', hz', I₂⟩ := upd_list i₁ mst_acc eS' ru
    rw [mst_push] at I₂
    show wpAny _ A.in1 (updateSeq S (·.push u) >>= _) _ _ _
    refine wpAny_bind ?_
    have x₂ : Ext (mst σ i l (j + 1) ys) (mst σ i l (j + 1) (ys ++ [y])) := by
      rw [← mst_push (zs := ys ++ [y])]; exact Ext.set mst_acc fun _ _ z => nomatch z
    have g₂ : Go as s as' { s' with heap := s'.heap.update S (Obj.mapSeq (·.push u)) } := w₁.trans (Go.put (tk := s'.toks) (mem_of_get? eS') (Heap.SameBut.update ..))
    refine wpAny_updateSeq ho hd' (wpAny_pure ⟨plainId_quiet PySem.F.plain_extend_loop _, ih (j + 1) (ys ++ [y]) as' _ (by omega) (by omega) (by simp [hl]) (fun q z hq => ?_) ⟨H.ok, H.a.mono a₁, I₂, fun q hq => x₂.2 q (x₁.2 q (H.frs q hq))⟩ (N.mono a₁) (pre_get a₁ ea) eS'
      (fun zs as₂ s₂ e1 e2 e3 e4 e5 e6 => hR zs as₂ s₂ e1 e2 (a₁.trans e3) (x₁.trans (x₂.trans e4)) e5 (g₂.trans e6)) (hX.go a₁ (x₁.trans x₂) g₂)⟩) (by rw [hz', sizeLine_eq]; omega) (by show (vs.push u).size ≤ _; rw [Array.size_push, hz', sizeLine_eq]; omega)
    by_cases hq' : q < ys.length
    · rw [List.getElem?_append_left hq'] at hq; exact hP q z hq
    · rw [List.getElem?_append_right (by omega)] at hq
      have : q = ys.length := Decidable.byContradiction fun hne => by
        rw [List.getElem?_eq_none (by simp; omega)] at hq; cases hq
      subst this
      simp at hq; subst hq; rw [hl]; exact hy
end
end Mine

set_option maxRecDepth 100000
set_option autoImplicit false
set_option linter.unusedVariables false
set_option linter.unusedSectionVars false
namespace Mine
open PySem PySem.W PyProof.Rows PySem.Calls PySem.SeqAt
section
variable {C : Cx} {k : Nat} {pe : PEnv} {σ : St} {PE : Value → St → Prop} {PQ : PV → St → Prop}
/-- map(f, list) -/
theorem tc_map {pf : PV} {l : Nat} {xs : List PV} (gl : σ[l]? = some (.list xs)) (h : PQ (.obj (σ.length + 2)) (σ ++ [liP l 0, .tuple [.obj σ.length], .rcd "map" [.obj (σ.length + 1), pf]])) : TC C k pe (.lit (.type "map")) [pf, .obj l] [] σ PQ PE := tc_of2 fun A env s as Q E v u H N r1 r2 R X => by
  cases r2 with
  | obj _ a e =>
  obtain ⟨vl, hl, rl⟩ := H.inv.atRef gl e
  have e1 := Heap.size_push s.heap (fldO "list_iterator" [.ref a, .int 0 0])
  have e2 := Heap.size_push (s.heap.push (fldO "list_iterator" [.ref a, .int 0 0])) (tuObj s.heap.objs.size)
  have el := H.inv.len
  refine mp_call hl.isList ?_
  have p1 : as <+: as ++ [s.heap.objs.size] := List.prefix_append _ _
  have i1 := H.inv.alloc (o := fldO "list_iterator" [.ref a, .int 0 0]) (po := liP l 0) ⟨[.ref a, .int 0 0], Heap.get?_push_size _ rfl, .cons (.obj _ _ (pre_get p1 e)) (.cons (.lit _) .nil)⟩
  have p2 : (as ++ [s.heap.objs.size]) <+: (as ++ [s.heap.objs.size]) ++ [(s.heap.push (fldO "list_iterator" [.ref a, .int 0 0])).objs.size] := List.prefix_append _ _
  have q1 : (as ++ [s.heap.objs.size])[σ.length]? = some s.heap.objs.size := by rw [← el]; simp
  have i2 := i1.alloc (o := tuObj s.heap.objs.size) (po := .tuple [.obj σ.length]) ⟨[.ref s.heap.objs.size], ⟨_, Heap.get?_push_size _ rfl, rfl, 0, rfl⟩, .cons (.obj _ _ (pre_get p2 q1)) .nil⟩
  have q2 : ((as ++ [s.heap.objs.size]) ++ [(s.heap.push (fldO "list_iterator" [.ref a, .int 0 0])).objs.size])[σ.length + 1]? = some (s.heap.objs.size + 1) := by
    rw [← el, List.getElem?_append_right (by simp), e1]; simp
  have p3 : ((as ++ [s.heap.objs.size]) ++ [(s.heap.push (fldO "list_iterator" [.ref a, .int 0 0])).objs.size]) <+: ((as ++ [s.heap.objs.size]) ++ [(s.heap.push (fldO "list_iterator" [.ref a, .int 0 0])).objs.size]) ++ [((s.heap.push (fldO "list_iterator" [.ref a, .int 0 0])).push (tuObj s.heap.objs.size)).objs.size] := List.prefix_append _ _
  have i3 := i2.alloc (o := fldO "map" [.ref (s.heap.objs.size + 1), v]) (po := .rcd "map" [.obj (σ.length + 1), pf]) ⟨[.ref (s.heap.objs.size + 1), v], Heap.get?_push_size _ rfl, .cons (.obj _ _ (pre_get p3 q2)) (.cons (r1.mono (p1.trans (p2.trans p3))) .nil)⟩
  have q3 : (((as ++ [s.heap.objs.size]) ++ [(s.heap.push (fldO "list_iterator" [.ref a, .int 0 0])).objs.size]) ++ [((s.heap.push (fldO "list_iterator" [.ref a, .int 0 0])).push (tuObj s.heap.objs.size)).objs.size])[σ.length + 2]? = some (s.heap.objs.size + 2) := by
    rw [← el, List.getElem?_append_right (by simp), e2, e1]; simp
  refine R (.ref (s.heap.objs.size + 2)) (.obj (σ.length + 2)) (((σ ++ [liP l 0]) ++ [.tuple [.obj σ.length]]) ++ [.rcd "map" [.obj (σ.length + 1), pf]]) _ { s with heap := mapHeap s.heap a v } (by rw [List.append_assoc, List.append_assoc]; exact h) (p1.trans (p2.trans p3)) ((Ext.append _ _).trans ((Ext.append _ _).trans (Ext.append _ _))) (.obj _ _ q3) i3 ?_
  exact (Go.push (as := as) (s := s) (tk := s.toks)).trans ((Go.push (as := as ++ [s.heap.objs.size]) (s := { s with heap := s.heap.push (fldO "list_iterator" [.ref a, .int 0 0]) }) (tk := s.toks)).trans (Go.push (s := { s with heap := (s.heap.push (fldO "list_iterator" [.ref a, .int 0 0])).push (tuObj s.heap.objs.size) }) (tk := s.toks)))
theorem listSame_ne {a b : Addr} (h : a ≠ b) : Builtin.List.listSameRef (.ref a) (.ref b) = false := by simp [Builtin.List.listSameRef, h]
theorem AOk.in2 {k : Nat} {as : List Addr} {pe : PEnv} {A : Around} (h : AOk (k + 1) as pe A) : AOk k as pe A.in1.in1 :=
  ⟨h.frames, h.clean, Nat.lt_of_le_of_lt (by show A.depth + 8 * k ≤ A.depth + 8 * (k + 1); omega) h.depth, Nat.lt_of_le_of_lt (by show A.units + 1 + 1 + 40 * k ≤ A.units + 40 * (k + 1); omega) h.units⟩
/-- sep.join(map) -/
theorem tc_join_map {x : Str} {m t i l n : Nat} {pf : PV} {xs : List PV} {P : Nat → Str → Prop} (hcl : pe.clean = true) (hn : xs.length = n) (hz : n ≤ 1000000)
    (gm : σ[m]? = some (.rcd "map" [.obj t, pf])) (gt : σ[t]? = some (.tuple [.obj i])) (gl : σ[l]? = some (.list xs)) (gi : σ[i]? = some (liP l 0))
    (hc : ∀ j y (ys : List Str), xs[j]? = some y → ys.length = j → (∀ q y, ys[q]? = some y → P q y) → TC C k pe pf [y] [] (mst σ i l (j + 1) ys) (fun q σ' => σ' = mst σ i l (j + 1) ys ∧ ∃ y, q = .str y ∧ P j y) PE)
    (hE : ∀ c σ', PE c σ' → ∃ T, c = .type T ∧ isSubtype (.type T) (.type "StopIteration") = pure false)
    (h : ∀ zs : List Str, zs.length = n → (∀ q y, zs[q]? = some y → P q y) → JoinOk x zs = true ∧ PQ (.str (Txt.join x zs)) (mstE σ i n zs)) : TC C (k + 2) pe (.lit (.builtin "str.join")) [.str x, .obj m] [] σ PQ PE := tc_of2 fun A env s as Q E v u H N r1 r2 R X => by
  cases r1
  cases r2 with
  | obj _ a ea =>
  rename_i t₀
  obtain ⟨vm, hm, rm⟩ := fldAt H.inv gm ea
  have hT : s.TypeIs (.ref a) "map" := ⟨_, hm, rfl⟩
  have hi : i < σ.length := (List.getElem?_eq_some_iff.mp gi).1
  refine wpAny_call (codeAny_call_builtin PySem.F.slot_str_join.plain PySem.F.entry_str_join (PySem.F.slot_str_join.check _ _ _ _ _ _ _ _ (typeIs_str _ _ _) (PySem.F.args_str_join_2 _ _) ?_))
  rw [join_tree_other]
  refine wpAny_bind (wpAny_typeOf hT ?_)
  show wpAny _ A.in1 ((pyIter (.ref a)).tryCatch _ >>= fun it => collect it >>= fun items => joinTail x items) _ _ s
  have self : ∀ {A' : Around} {E' : Value → Shared → Prop} {Q' : Value → Shared → Prop} {s' : Shared}, s'.TypeIs (.ref a) "map" → Q' (.ref a) s' → wpAny (model C.prog C.w) A' (pyIter (.ref a)) Q' E' s' := fun {A' E' Q' s'} hT' hq => by
    refine wpAny_pyIter_slot hT' mp_slot_self (wpAny_call_entry mp_slot_self hT' mp_entry_self ?_ (mp_args_self _))
    show wpAny _ _ (ret (.ref a)) _ _ s'
    exact wpAny_pure ⟨_, rfl, "map", _, hT', mp_slot_next.lookup, hq⟩
  refine wpAny_bind (wpAny_tryCatch (self hT ?_))
  unfold collect
  refine wpAny_bind (wpAny_bind (wpAny_runValue (codeAny_builtin PySem.F.entry_proto_collect ?_)))
  rw [Around.under_plainId PySem.F.plain_proto_collect _]
  show wpAny _ A.in1.in1 (newList [] >>= fun l => again (.builtin "list.__iadd__" ⟨[l, .ref a], []⟩)) _ _ s
  refine wpAny_bind (wpAny_newObj_type ?_)
  have ez := H.inv.len
  have i1 := H.inv.alloc (o := { cls := .type "list", data := .seq ([] : List Value).toArray }) (po := .list []) ⟨[], ⟨0, Heap.get?_push_size _ rfl⟩, .nil⟩
  have p1 : as <+: as ++ [s.heap.objs.size] := List.prefix_append _ _
  have eS : (as ++ [s.heap.objs.size])[σ.length]? = some s.heap.objs.size := by rw [← ez]; simp
  have hne : s.heap.objs.size ≠ a := fun e => Nat.lt_irrefl _ (e ▸ Heap.lt_size hm)
  refine wpAny_pure ⟨plainId_quiet PySem.F.plain_list_iadd _, codeAny_builtin PySem.F.entry_list_iadd ?_⟩
  rw [Around.under_plainId PySem.F.plain_list_iadd _]
  show wpAny _ A.in1.in1 (Builtin.List.listExtendWith (.ref s.heap.objs.size) (.ref a) (.ref s.heap.objs.size)) _ _ _
  have hT1 : Shared.TypeIs { s with heap := s.heap.push { cls := .type "list", data := .seq ([] : List Value).toArray } } (.ref a) "map" := ⟨_, Heap.get?_push_of_some _ hm, rfl⟩
  unfold Builtin.List.listExtendWith
  refine wpAny_bind (wpAny_typeOf hT1 ?_)
  have h2 : (Value.type "map" == Value.type "list") = false := by decide
  have h3 : (Value.type "map" == Value.type "tuple") = false := by decide
  simp only [listSame_ne hne, h2, h3, Bool.or_false, Bool.false_eq_true, if_false]
  refine wpAny_bind (self hT1 ?_)
  refine wpAny_bind (wpAny_holding ?_)
  unfold Builtin.List.listLengthHint
  refine wpAny_bind (wpAny_specialOf hT1 mp_no_len ?_)
  show wpAny _ A.in1.in1 (specialOf (Value.ref a) (Str.ofString "__length_hint__") >>= _) _ _ _
  refine wpAny_bind (wpAny_specialOf hT1 mp_no_hint ?_)
  refine wpAny_pure ?_
  show wpAny _ A.in1.in1 (rule "list.extend.makes-room" >>= fun _ => Builtin.List.listTouch (.ref s.heap.objs.size) >>= fun _ =>
    again (.builtin "list.extend.loop" ⟨[.ref s.heap.objs.size, .ref a, .ref s.heap.objs.size], []⟩)) _ _ _
  refine wpAny_bind (wpAny_rule ?_)
  refine wpAny_bind ?_
  show wpAny _ A.in1.in1 (updateSeq s.heap.objs.size (·.push .none) >>= fun _ => updateSeq s.heap.objs.size (·.pop)) _ _ _
  obtain ⟨o, vs, c, o', ho, hd, hz', ho', hd', i2, sb⟩ := touch_list i1 (List.getElem?_concat_length) eS
  refine wpAny_bind (wpAny_updateSeq ho hd ?_ (by rw [hz', sizeLine_eq]; omega) (by show (vs.push _).size ≤ _; rw [Array.size_push, hz', sizeLine_eq]; omega))
  refine wpAny_updateSeq ho' hd' ?_ (by rw [Array.size_push, hz', sizeLine_eq]; omega) (by show (vs.push _).pop.size ≤ _; simp [hz'])
  have st0 : σ ++ [.list []] = mst σ i l 0 [] := by
    unfold mst
    congr 1
    apply List.ext_getElem?
    intro j
    by_cases hj : i = j
    · subst hj; rw [List.getElem?_set_self hi, gi]
    · rw [List.getElem?_set_ne hj]
  rw [st0] at i2
  have x0 : Ext σ (mst σ i l 0 []) := by rw [← st0]; exact Ext.append _ _
  have g0 : Go as s (as ++ [s.heap.objs.size]) { s with heap := _ } := (Go.push (as := as) (s := s) (o := { cls := .type "list", data := .seq ([] : List Value).toArray }) (tk := s.toks)).trans (Go.put (s := { s with heap := s.heap.push { cls := .type "list", data := .seq ([] : List Value).toArray } }) (tk := s.toks) (mem_of_get? eS) sb)
  have Aok : AOk (k + 1) (as ++ [s.heap.objs.size]) pe A.in1.in1 := (H.a.mono p1).in2
  refine wpAny_pure ⟨plainId_quiet PySem.F.plain_extend_loop _, mp_loop hcl hn hz gm gt gl gi hc hE n 0 [] (as ++ [s.heap.objs.size]) _ (by omega) (by omega) rfl (fun q y e => by simp at e) ⟨H.ok, Aok, i2, fun q hq => x0.2 q (H.frs q hq)⟩ (N.mono p1) (pre_get p1 ea) eS
    (fun zs as' s' e1 e2 e3 e4 e5 e6 => ?_) (X.go p1 x0 g0)⟩
  obtain ⟨us, ⟨cu, hu⟩, ru⟩ := e5.atRef mstE_acc (pre_get e3 eS)
  obtain ⟨ls, rfl, ht⟩ := strs_vals ru
  show wpAny _ A.in1 (load s.heap.objs.size >>= _) _ _ s'
  refine wpAny_bind (wpAny_load hu ?_)
  refine wpAny_pure ?_
  obtain ⟨hok, hq⟩ := h zs e1 e2
  rw [← ht] at hok hq
  unfold JoinOk at hok
  rw [Bool.not_eq_true'] at hok
  have g : Gives (joinTail x (strValues ls)) (joinMade x ls) := by
    have g0 := gives_joinTail x ls hok
    cases ls with
    | nil => exact g0
    | cons p r => cases r with
      | nil => exact g0
      | cons q r' => exact g0
  refine g C.prog C.w A (wants Q E) s' (post_join ls ⟨joinFit_length hok, fun t' k' => ?_⟩)
  rw [ht] at hq
  rw [ht]
  exact R (.str (Txt.join x zs) t') (.str (Txt.join x zs)) (mstE σ i n zs) as' { s' with toks := k' } hq (p1.trans e3) (x0.trans e4) (.str _ _) e5 (g0.trans (e6.trans (Go.toks as' s' k')))
end
end Mine

set_option maxRecDepth 100000
set_option autoImplicit false
set_option linter.unusedVariables false
set_option linter.unusedSectionVars false
namespace Mine
open PySem PySem.W PyProof.Rows PySem.Calls PySem.SeqAt
theorem findObj_fn {K : Frag} {Cl f : Addr} {od : Obj} {name : Str} (hh : hasDictIn K Cl = true) (ha : findIn K (.ref Cl) name = some (some (.ref f))) (hg : specialIn K (.ref f) "__get__" = some (some (.builtin "function.__get__"))) (ht : takesIn K (.ref f) = some false)
    (hc : copiedNames.contains name = false) (hl : lookIn name od = some none) : findObj K Cl (some od) name = some (.bind (.builtin "function.__get__") (.ref f)) := by
  obtain ⟨cd, hc', hd⟩ := any_some hh
  unfold findObj
  have ho : W.ownOf cd (some od) name = some none := by unfold W.ownOf; rw [if_pos hd]; exact hl
  rw [hc', Option.bind_some, ha, Option.bind_some]
  simp only [hg, ht, Option.bind_some, ho, hc, Bool.false_and, Bool.false_eq_true, if_false]
section
variable {C : Cx} {k : Nat} {pe : PEnv} {σ : St} {PE : Value → St → Prop} {PQ : PV → St → Prop}
/-- self.method, as a value -/
theorem hx_attr_m {o : Expr} {name : Str} {pos : Pos}
    (h : Hx C k pe o σ (fun q σ₁ => ∃ i d Cl l f, q = .obj i ∧ ClsOk C.K Cl ∧ σ₁[i]? = some (.inst Cl d) ∧ σ₁[d]? = some (.dict l) ∧ findIn C.K (.ref Cl) name = some (some (.ref f)) ∧ specialIn C.K (.ref f) "__get__" = some (some (.builtin "function.__get__")) ∧
      takesIn C.K (.ref f) = some false ∧ typeIn C.K (.ref f) = some (.type "function") ∧ copiedNames.contains name = false ∧ getP name l = none ∧ PQ (.obj σ₁.length) (σ₁ ++ [.rcd "method" [.lit (.ref f), .obj i]])) PE)
    (he : ∀ env, eval (.Attribute o name pos) env = (do
      let o' ← eval o env
      standAt pos.atName
      let r ← holding [o'] (getAttr o' name true)
      letTemporaryGo o o' r
      pure r) := by intro _; rfl) : Hx C k pe (.Attribute o name pos) σ PQ PE := by
  intro A env s as Q E H N R X
  refine Attribute_any_ (h A env s as _ E H N (fun v q σ₁ as₁ s₁ h₁ a₁ x₁ r₁ i₁ w₁ => ?_) X) (he env)
  obtain ⟨i, d, Cl, l, f, rfl, O, gi, gd, hf, hg, ht, hty, hc, hp, hq⟩ := h₁
  cases r₁ with
  | obj _ a e =>
    have H₁ := H.step a₁ x₁ i₁
    have N₁ := N.mono a₁
    obtain ⟨_, _, _, F⟩ := H₁.frame N₁
    obtain ⟨dx, es, n, hdx, I, hd, er⟩ := H₁.inv.instAt gi gd e
    have g := er.getL name
    rw [hp] at g
    refine get_bind H₁.K I (plainGet_of O.gets).1 (findObj_fn O.hasD hf hg ht hc (by rw [lookIn_dict, g])) (plainGet_of O.gets).2 (wpAny_call (fn_get (s := { s₁ with toks := s₁.toks + 1 }) H₁.K hty (handed_on rfl ?_)))
    exact (R.go a₁ x₁ w₁).newObj H₁ hq ⟨[.ref f, .ref a], Heap.get?_push_size _ rfl, .cons (.lit _) (.cons (.obj _ _ (pre_get (List.prefix_append _ _) e)) .nil)⟩
/-- a call of a bound method -/
theorem tc_bound {b : Nat} {f : Addr} {p : PV} {ps : List PV} {kws : List (Str × PV)} (gb : σ[b]? = some (.rcd "method" [.lit (.ref f), p])) (h : TF C k pe.frs pe.clean f (p :: ps) kws σ PQ PE) : TC C k pe (.obj b) ps kws σ PQ PE := by
  intro A env s as Q E f' vs ks H N rf rs rk R X
  cases rf with
  | obj _ a e =>
  obtain ⟨vm, hm, rm⟩ := fldAt H.inv gb e
  cases rm with
  | cons r1 rm =>
  cases rm with
  | cons r2 rm =>
  cases rm
  cases r1
  refine wpAny_call (codeAny_of_tree ?_)
  show wpAny _ A.in1 (callAny (.ref a) ⟨vs, ks⟩) _ _ _
  unfold callAny
  refine wpAny_bind (wpAny_load hm ?_)
  exact wpAny_pure ⟨rfl, h A s as Q E _ ks H.ok H.inv H.a.frames H.a.clean H.a.depth H.a.units H.frs (.cons r2 rs) rk R X⟩
/-- four arguments given, the fifth is a default -/
theorem full4i {params : Arguments} {p1 p2 p3 p4 p5 : PV} {v5 : Value} {x1 x2 x3 x4 x5 : Str} {T : Addr} {items : Array Value} (hT : ∃ o n, C.K.lookup T = some o ∧ o.data = .seq items n) (h5 : ∀ as, VR as p5 v5)
    (h : ∀ name qual body scope g cl kV doc pm an cdv ct bn v1 v2 v3 v4, ∃ k, bindArgs ⟨name, qual, params, body, scope, g, cl, .ref T, kV, doc, pm, an, cdv, ct, bn⟩ ⟨[v1, v2, v3, v4], []⟩ = seqItems? (.ref T) >>= k ∧ k (some items) = pure [(x1, v1), (x2, v2), (x3, v3), (x4, v4), (x5, v5)]) :
    BindOk C σ params (.ref T) [p1, p2, p3, p4] [] [(x1, p1), (x2, p2), (x3, p3), (x4, p4), (x5, p5)] := by
  intro as s vs ks name qual body scope g cl kV doc pm an cdv ct bn O H rs rk
  obtain ⟨o, n, hT, hs⟩ := hT
  cases rk
  match vs, rs with
  | [_, _, _, _], .cons r1 (.cons r2 (.cons r3 (.cons r4 .nil))) =>
    obtain ⟨k, h1, h2⟩ := h name qual body scope g cl kV doc pm an cdv ct bn _ _ _ _
    exact ⟨_, BindsTo.of_defaults rfl (H.base _ _ (O.X _ _ hT)) hs h1 h2, .cons r1 (.cons r2 (.cons r3 (.cons r4 (.cons (h5 _) .nil))))⟩
end
end Mine

set_option maxRecDepth 100000
set_option autoImplicit false
set_option linter.unusedVariables false
set_option linter.unusedSectionVars false
namespace Mine
open PySem PySem.W PyProof.Rows PySem.Calls PySem.SeqAt
theorem join_len {sep : Str} {xs : List Str} {n : Nat} (h : ∀ x ∈ xs, x.length ≤ n) : (Txt.join sep xs).length ≤ xs.length * (n + sep.length) := by
  rw [show Txt.join sep xs = Str.join sep xs from StrLaws.glued_eq_join _ _]
  refine Nat.le_trans (StrLaws.join_length_le _ _) ?_
  have e : (xs.map (·.length)).sum ≤ xs.length * n := by
    clear sep
    induction xs with
    | nil => simp
    | cons d ds ih =>
      have := h d (.head _)
      have := ih fun x hx => h x (.tail _ hx)
      simp only [List.map_cons, List.sum_cons, List.length_cons, Nat.add_mul, Nat.one_mul]
      omega
  have h2 : (xs.length - 1) * sep.length ≤ xs.length * sep.length := Nat.mul_le_mul_right _ (by omega)
  rw [Nat.mul_add]
  omega
section
variable {C : Cx} {k : Nat} {pe : PEnv} {σ : St} {PE : Value → St → Prop} {PQ : PV → St → Prop}
/-- xs[-i] -/
theorem t2_get_last {l : Nat} {xs : List PV} {x : PV} (g : σ[l]? = some (.list xs)) (hz : xs.length ≤ 16777216) (hx : xs.getLast? = some x) (h : PQ x σ) : T2 C k pe getItem VR (.obj l) (.int (-1)) σ PQ PE := by
  intro A env s as Q E v u H N r1 r2 R X
  cases r2
  cases r1 with
  | obj _ a e =>
    obtain ⟨vs, hl, rv⟩ := H.inv.atRef g e
    have hlen := rv.length
    rw [List.getLast?_eq_getElem?] at hx
    obtain ⟨v, e1, e2⟩ := rv.get hx
    have hpos : 0 < xs.length := by
      have := (List.getElem?_eq_some_iff.mp hx).1; omega
    refine wpAny_getItem_list_neg hl.isList (by decide) (by simp; omega) (by decide) (x := v) ?_ (R.here H h e2)
    have e3 : ((-1 : Int) + (vs.toArray.size : Int)).toNat = xs.length - 1 := by simp; omega
    rw [e3]
    simpa using e1
/-- a value, whatever way it comes about -/
theorem hx_one {e : Expr} (P : PV → Prop) (h : Hx C k pe e σ (fun q σ' => σ' = σ ∧ P q) PE) (hq : ∀ q, P q → PQ q σ) : Hx C k pe e σ PQ PE :=
  Tr.mono h (fun q σ' h => h.1 ▸ hq q h.2) fun _ _ h => h
end
end Mine

set_option maxRecDepth 100000
set_option maxHeartbeats 8000000
namespace Mine
open PySem PySem.W PyProof.Rows
open_top hd04 for PySem.Challenge.rw_fe0188_04
end Mine

set_option maxRecDepth 100000
set_option autoImplicit false
set_option linter.unusedVariables false
set_option maxHeartbeats 1000000
set_option exponentiation.threshold 10000
namespace Mine
open PySem PySem.W PyProof.Rows PySem.Calls PySem.SeqAt
set_option pp.deepTerms false
set_option pp.maxSteps 2000
/-- what stands in a state -/
local macro_rules | `(tactic| kt_at_get) => `(tactic| first
  | exact app_get0
  | exact app_get.trans rfl
  | assumption
  | (refine get_pre ?_; assumption)
  | (simp; done))
/-- what a name holds -/
local macro_rules | `(tactic| kt_at_in) => `(tactic| first
  | (refine' NameIs.loc rfl ?a ?b; (case a => kt_at_get); (case b => rfl))
  | (refine' NameIs.cell rfl (.inl rfl) rfl ?a; (case a => kt_at_get))
  | (refine' NameIs.cell rfl (.inr rfl) rfl ?a; (case a => kt_at_get)))
/-- a state written plainly -/
local macro_rules | `(tactic| kt_at_method) => `(tactic| ((try dsimp only [compSt, compPE, relabelP, kwNames, List.filterMap, List.zip, List.zipWith]); (try simp only [app_set0, app_set, List.set_cons_zero, List.set_cons_succ, List.append_assoc, List.cons_append, List.nil_append, List.length_append, List.length_cons, List.length_nil, Nat.add_assoc, Nat.reduceAdd, Nat.zero_add, Nat.add_zero])))
/-- a name is bound -/
local macro_rules | `(tactic| kt_at_notin) => `(tactic| first
  | ((with_reducible show ∃ _, _ ∧ _); (refine' Exists.intro _ (And.intro (BindIs.loc rfl ?a) ?b)); (case a => kt_at_get); kt_at_method)
  | ((with_reducible show ∃ _, _ ∧ _); (refine' Exists.intro _ (And.intro (BindIs.cell rfl rfl ?a) ?b)); (case a => kt_at_get); kt_at_method))
/-- a step of a tree -/
local macro_rules | `(tactic| kt_at_item) => `(tactic| first
  | with_reducible refine hs_nil ?_
  | kt_at_notin
  | with_reducible refine hs_cons ?_
  | with_reducible refine hs_return ?_
  | with_reducible refine hs_if ?_
  | with_reducible refine hs_pass ?_
  | ((with_reducible refine hs_assign ?h ?hs); (case hs => (intro _; rfl)))
  | ((with_reducible refine hs_expr ?h ?hs); (case hs => (intro _; rfl)))
  | ((with_reducible show _ ≤ sizeLine ∧ _); refine ⟨Nat.le_of_ble_eq_true rfl, ?_⟩; kt_at_method)
  | ((with_reducible refine hs_assign_tuple ?h ?hs ?hw); (case hs => (intro _; rfl)); (case hw => (intro env h; cases env; cases h; rfl)))
  | ((with_reducible refine' hs_swap ?cl ?h ?hs ?hw); (case cl => rfl); (case hs => (intro _; rfl)); (case hw => (intro env h; cases env; cases h; rfl)))
  | ((with_reducible refine' bindT ?g ?l ?b); (case g => kt_at_get); (case l => rfl); dsimp only [BindL, tupNames, List.reverse, List.reverseAux])
  | ((with_reducible refine' ha_tuple ?c ?g ?h ?n ?s); (case c => rfl); (case g => kt_at_get); (case n => (intro _; rfl)); (case s => (intro _; rfl)); refine ⟨fun _ => rfl, ?_⟩)
  | ((with_reducible refine' ha_name (BindIs.loc rfl ?a) ?b); (case a => kt_at_get); kt_at_method)
  | ((with_reducible refine' ha_name (BindIs.cell rfl rfl ?a) ?b); (case a => kt_at_get); kt_at_method)
  | ((with_reducible show HaL _ _ _ _ _ (_ :: _) _ _); refine ⟨fun _ => rfl, ?_⟩)
  | ((with_reducible show HaL _ _ _ _ _ [] _ _); dsimp only [HaL])
  | ((with_reducible refine' hs_aug ?e ?h ?c); (case e => kt_at_in); (case c => decide +kernel))
  | with_reducible refine hx_joined ?_
  | with_reducible refine hx_fmt_int ?_
  | ((with_reducible refine hs_setitem ?h ?hs); (case hs => (intro _; rfl)))
  | ((with_reducible refine hs_setattr ?h ?hs); (case hs => (intro _; rfl)))
  | ((with_reducible refine hx_attr ?h ?he); (case he => (intro _; rfl)))
  | with_reducible refine hx_and ?_
  | with_reducible refine hx_or ?_
  | with_reducible refine hx_bool1 ?_
  | with_reducible refine hx_if ?_
  | with_reducible refine hx_binop ?_
  | with_reducible refine hx_unary ?_
  | ((with_reducible refine ht_cmp ?h ?hb); (case hb => rfl))
  | ((with_reducible refine hx_cmp ?h ?hb); (case hb => rfl))
  | with_reducible refine ht_not ?_
  | with_reducible refine ht_bool ?_
  | with_reducible refine hall_nil_and ?_
  | with_reducible refine hall_nil_or ?_
  | with_reducible refine hall_and ?_
  | with_reducible refine hall_or ?_
  | with_reducible refine hx_none ?_
  | with_reducible refine hx_bool ?_
  | with_reducible refine hx_int ?_
  | with_reducible refine hx_str ?_
  | with_reducible refine hx_bytes ?_
  | ((with_reducible refine' hx_name ?e ?h ?hc ?hd); (case e => kt_at_in); (case hc => decide +kernel); (case hd => decide +kernel))
  | with_reducible refine hx_tuple ?_
  | with_reducible refine hx_list ?_
  | with_reducible refine hx_slice ?_
  | ((with_reducible refine hx_index ?h ?hs); (case hs => (intro _ _; rfl)))
  | ((with_reducible refine hx_mcall ?h ?he ?hp ?hk); (case he => (intro _; exact ⟨_, rfl⟩)); (case hp => (intro _; rfl)); (case hk => rfl))
  | ((with_reducible refine hx_call ?h ?he ?hp ?hk); (case he => (intro _; rfl)); (case hp => (intro _; rfl)); (case hk => rfl))
  | with_reducible refine hl_nil ?_
  | ((with_reducible refine hl_cons ?h ?he); (case he => (intro _; rfl)))
  | ((with_reducible refine hk_nil ?_); (try dsimp only [kwNames, List.filterMap, List.zip, List.zipWith, List.nil_append, List.cons_append, List.filterMap_nil, List.zip_nil_left]))
  | with_reducible refine hk_cons ?_
  | with_reducible refine hp_none ?_
  | with_reducible refine hp_some ?_
  | with_reducible refine ex_int ?_
  | ((with_reducible refine' hx_glob_int ?g ?hk ?e ?h ?hd); (case g => assumption); (case hk => rfl); (case e => rfl); (case hd => decide +kernel))
  | ((with_reducible refine' hx_glob_str ?g ?hk ?e ?h ?hd); (case g => assumption); (case hk => rfl); (case e => rfl); (case hd => decide +kernel))
  | ((with_reducible refine' hx_glob ?g ?hk ?e ?h ?hd); (case g => assumption); (case hk => rfl); (case e => rfl); (case hd => decide +kernel))
  | ((with_reducible refine ht_val ?h ?he); (case he => (intro _; rfl)))
  | ((with_reducible refine tm_from_bytes ?e ?h); (case e => assumption); kt_at_method)
  | with_reducible refine tm_to_bytes ?_
  | ((with_reducible refine And.intro (keep_fb ?a) (tc_from_bytes ?b ?c ?d)); (case a => kt_at_get); (case b => kt_at_get); (case c => first | assumption | omega))
  | with_reducible refine ⟨keep_builtin, ?_⟩
  | with_reducible refine ⟨keep_type, ?_⟩
  | with_reducible refine ⟨get_str, ?_⟩
  | with_reducible refine ⟨get_bytes, ?_⟩
  | ((with_reducible refine' t2_ne_imm ?e ?h); (case e => rfl))
  | ((with_reducible refine' t2_eq_imm ?e ?h); (case e => rfl))
  | with_reducible refine t2_add_int ?_
  | with_reducible refine t2_sub_int ?_
  | with_reducible refine t2_iadd_int ?_
  | with_reducible refine t2_lt_int ?_
  | with_reducible refine t2_gt_int ?_
  | with_reducible refine t2_eq_bytes ?_
  | with_reducible refine t1_truth_bool ?_
  | with_reducible refine t1_truth_int ?_
  | with_reducible refine t1_truth_none ?_
  | with_reducible refine t1_not ?_
  | with_reducible refine t1_neg_int ?_
  | with_reducible refine t2_is_bool ?_
  | with_reducible refine t2_isnot_bool ?_)
/-- what a shorter state keeps -/
local macro_rules | `(tactic| tb_rel) => `(tactic| (repeat' first
  | exact Sh.nil
  | refine Sh.cons ?_ ?_
  | refine POr.ns ?_
  | exact OVsr.nil
  | refine OVsr.skip ?_
  | refine OVsr.keep ?_ ?_
  | exact POr.cellN
  | refine POr.cellS ?_
  | refine POr.list ?_
  | refine POr.dict ?_
  | exact EVsr.nil
  | refine EVsr.cons ?_ ?_
  | refine POr.tuple ?_
  | exact POr.barr
  | exact POr.raw
  | refine POr.rcd ?_
  | (refine POr.inst ?_; exact List.getElem?_range (by simp only [List.length_cons, List.length_nil]; omega))
  | exact PVsr.ints
  | exact PVsr.strs
  | exact PVsr.bools
  | exact PVsr.nil
  | refine PVsr.cons ?_ ?_
  | exact PVr.none
  | exact PVr.int _
  | exact PVr.str _
  | exact PVr.bool _
  | exact PVr.bytes _
  | exact PVr.lit _
  | exact Imm.pvr (by assumption)
  | exact PVr.obj (List.getElem?_range (by simp only [List.length_cons, List.length_nil]; omega))))
abbrev T04 : List Stmt := PySem.Challenge.pw_fe0188_04.main.body
abbrev T04m : List Stmt := getCls "Mnemonic" T04
abbrev tbl04 (K : Frag) : List (Str × Value) := [("len", .builtin "len"), ("abs", .builtin "abs"), ("range", .type "range"), ("map", .type "map"), ("_law_number", .ref (gaddr K "_law_number")), ("_law_word", .ref (gaddr K "_law_word")), ("Mnemonic", .ref (gaddr K "Mnemonic"))]
abbrev fnAt04 (C : Cx) (x : Str) : Prop := FunAt C.h₀ (gaddr C.K x) (getDef x T04).params (getDef x T04).body (getDef x T04).scope .none
structure P04 (C : Cx) : Prop where
  G : Globs C (tbl04 C.K)
  fb : findCls C.K (.type "int") (.type "type") (PySem.Str.ofString "from_bytes") = some (.get (.builtin "classmethod_descriptor.__get__") (.builtin "int.from_bytes") .none (.type "int"))
  O : ClsOk C.K (gaddr C.K "Mnemonic")
  kM : keepIn C.K (.ref (gaddr C.K "Mnemonic")) = true
  II : FunAt C.h₀ (metA C.K "__init__") (getDef "__init__" T04m).params (getDef "__init__" T04m).body (getDef "__init__" T04m).scope (.ref (dfltA C.K (metA C.K "__init__")))
  hI : findIn C.K (.ref (gaddr C.K "Mnemonic")) "__init__" = some (some (.ref (metA C.K "__init__")))
  tI : typeIn C.K (.ref (metA C.K "__init__")) = some (.type "function")
  dI : ∃ o n, C.K.lookup (dfltA C.K (metA C.K "__init__")) = some o ∧ o.data = .seq #[.int 2048 (dtok C.K (dfltA C.K (metA C.K "__init__"))), .none] n
  n_radix : findIn C.K (.ref (gaddr C.K "Mnemonic")) "radix" = some none
  n_language : findIn C.K (.ref (gaddr C.K "Mnemonic")) "language" = some none
  n_sha256 : findIn C.K (.ref (gaddr C.K "Mnemonic")) "sha256" = some none
  n_wordlist : findIn C.K (.ref (gaddr C.K "Mnemonic")) "wordlist" = some none
  n_delimiter : findIn C.K (.ref (gaddr C.K "Mnemonic")) "delimiter" = some none
  f_law_number : fnAt04 C "_law_number"
  k_law_number : keepIn C.K (.ref (gaddr C.K "_law_number")) = true
  f_law_word : fnAt04 C "_law_word"
  k_law_word : keepIn C.K (.ref (gaddr C.K "_law_word")) = true
  g_expand_word : specialIn C.K (.ref (metA C.K "expand_word")) "__get__" = some (some (.builtin "function.__get__"))
  tk_expand_word : takesIn C.K (.ref (metA C.K "expand_word")) = some false
  ty_expand_word : typeIn C.K (.ref (metA C.K "expand_word")) = some (.type "function")
  m_expand_word : FunAt C.h₀ (metA C.K "expand_word") (getDef "expand_word" T04m).params (getDef "expand_word" T04m).body (getDef "expand_word" T04m).scope .none
  i_expand_word : findIn C.K (.ref (gaddr C.K "Mnemonic")) "expand_word" = some (some (.ref (metA C.K "expand_word")))
  t_expand_word : isFn C.K (.ref (metA C.K "expand_word")) = true
  k_expand_word : keepIn C.K (.ref (metA C.K "expand_word")) = true
  m_expand : FunAt C.h₀ (metA C.K "expand") (getDef "expand" T04m).params (getDef "expand" T04m).body (getDef "expand" T04m).scope .none
  i_expand : findIn C.K (.ref (gaddr C.K "Mnemonic")) "expand" = some (some (.ref (metA C.K "expand")))
  t_expand : isFn C.K (.ref (metA C.K "expand")) = true
  k_expand : keepIn C.K (.ref (metA C.K "expand")) = true
theorem p04 {w : World} {prog p : Program} {loose : List Str} {mg mb : Str → Option Value} {h : Heap} (X : (hd04.heap_39 w.params).In h) : P04 ⟨prog, w, hd04.heap_39 w.params, p, loose, mg, mb, h⟩ where
  G := globs_all (by kernel_rfl)
  fb := by kernel_rfl
  O := ⟨by kernel_rfl, by kernel_rfl, by kernel_rfl, by kernel_rfl, by kernel_rfl⟩
  kM := by kernel_rfl
  II := funAt_fd X (by kernel_rfl) (by kernel_rfl)
  hI := by kernel_rfl
  tI := by kernel_rfl
  dI := seqIn_of (by kernel_rfl)
  n_radix := by kernel_rfl
  n_language := by kernel_rfl
  n_sha256 := by kernel_rfl
  n_wordlist := by kernel_rfl
  n_delimiter := by kernel_rfl
  f_law_number := funAt_fd X (by kernel_rfl) (by kernel_rfl)
  k_law_number := by kernel_rfl
  f_law_word := funAt_fd X (by kernel_rfl) (by kernel_rfl)
  k_law_word := by kernel_rfl
  g_expand_word := by kernel_rfl
  tk_expand_word := by kernel_rfl
  ty_expand_word := by kernel_rfl
  m_expand_word := funAt_fd X (by kernel_rfl) (by kernel_rfl)
  i_expand_word := by kernel_rfl
  t_expand_word := by kernel_rfl
  k_expand_word := by kernel_rfl
  m_expand := funAt_fd X (by kernel_rfl) (by kernel_rfl)
  i_expand := by kernel_rfl
  t_expand := by kernel_rfl
  k_expand := by kernel_rfl
section
variable {C : Cx} {σ : St}
theorem number_c04 {frs : List Nat} {cl : Bool} {l : Addr} {at_ : Nat} {xs : List Int} (P : P04 C) (g : BL C l xs) (hz : xs.length ≤ 1000) (ha : at_ ≤ 1000) : TF C 1 frs cl (gaddr C.K "_law_number") [.lit (.ref l), .int at_] [] σ (fun p σ' => σ' = σ ∧ p = .int (lawNum xs at_)) noE := by
  have F := P.f_law_number
  have G := P.G
  refine tf_imm (tf_def F (bindOk2 (x := "script") (y := "at") (fun _ _ _ _ _ _ _ _ _ _ _ _ _ _ _ => rfl)) (l₀ := [some (.lit (.ref l)), some (.int at_), none]) (cs₀ := []) (ci₀ := []) rfl rfl rfl ?_)
  conv => arg 4; whnf
  conv => arg 3; arg 1; whnf
  conv => arg 5; arg 2; arg 1; arg 1; whnf
  repeat kt_at_item
  refine tc_len_bl g (by omega) ?_
  repeat kt_at_item
  by_cases h : at_ < xs.length
  · rw [decide_eq_true (by omega), if_pos rfl]
    repeat kt_at_item
    refine ⟨get_bl g, t2_get_bl (x := xs[at_]) g (by omega) (by omega) (by simp [h]) ?_⟩
    exact ⟨pre_app, .int _, rfl, by unfold lawNum; rw [dif_pos h]⟩
  · rw [decide_eq_false (by omega), if_neg (by simp)]
    repeat kt_at_item
    refine t2_mul_int (.of_right (by decide)) ?_
    repeat kt_at_item
    exact ⟨pre_app, .int _, rfl, by unfold lawNum; rw [dif_neg h]⟩

theorem init4_c04 {frs : List Nat} {wl : Nat} {ws : List PV} {radix : Int} (P : P04 C) (hσ : Cl σ) (gw : σ[wl]? = some (.list ws)) (hr : (ws.length : Int) = radix) (hz : ws.length ≤ 100000) :
    TF C 1 frs true (metA C.K "__init__") [.obj (σ.length + 1), .str "plain", .obj wl, .int radix] [] (σ ++ [.dict [], .inst (gaddr C.K "Mnemonic") σ.length]) (fun p σ' => p = .none ∧ σ' = σ ++ [.dict (flds radix .none wl), .inst (gaddr C.K "Mnemonic") σ.length]) noE := by
  have F := P.II
  have G := P.G
  have hwl : wl < σ.length := (List.getElem?_eq_some_iff.mp gw).1
  refine tf_fall (tf_def F (full4i (p5 := .none) P.dI (fun _ => .none) fun _ _ _ _ _ _ _ _ _ _ _ _ _ _ _ _ _ => ⟨_, rfl, rfl⟩) (l₀ := [some (.obj (σ.length + 1)), some (.str "plain"), some (.obj wl), some (.int radix), some .none, none, none]) (cs₀ := []) (ci₀ := []) rfl rfl rfl ?_)
  conv => arg 4; whnf
  conv => arg 3; arg 1; whnf
  conv => arg 5; arg 2; arg 1; arg 1; whnf
  kt_at_method
  repeat kt_at_item
  refine ⟨_, _, _, _, rfl, P.O, by kt_at_get, by kt_at_get, P.n_radix, Nat.le_of_ble_eq_true rfl, ?_⟩
  kt_at_method
  repeat kt_at_item
  refine ⟨_, _, _, _, rfl, P.O, by kt_at_get, by kt_at_get, P.n_language, Nat.le_of_ble_eq_true rfl, ?_⟩
  kt_at_method
  repeat kt_at_item
  refine ⟨_, _, _, _, rfl, P.O, by kt_at_get, by kt_at_get, P.n_sha256, Nat.le_of_ble_eq_true rfl, ?_⟩
  kt_at_method
  repeat kt_at_item
  refine tc_len_list (by kt_at_get) (by omega) ?_
  repeat kt_at_item
  refine ⟨_, _, _, _, _, rfl, P.O, by kt_at_get, by kt_at_get, P.n_radix, rfl, rfl, ?_⟩
  repeat kt_at_item
  rw [hr, if_neg (by simp)]
  repeat kt_at_item
  refine ⟨_, _, _, _, rfl, P.O, by kt_at_get, by kt_at_get, P.n_wordlist, Nat.le_of_ble_eq_true rfl, ?_⟩
  kt_at_method
  repeat kt_at_item
  rw [if_neg (by decide)]
  repeat kt_at_item
  refine ⟨_, _, _, _, rfl, P.O, by kt_at_get, by kt_at_get, P.n_delimiter, Nat.le_of_ble_eq_true rfl, ?_⟩
  kt_at_method
  repeat kt_at_item
  refine ⟨σ ++ [.dict (flds radix .none wl), .inst (gaddr C.K "Mnemonic") σ.length], Shrink.app hσ ?_, by simp, .inl .none, rfl, rfl⟩
  unfold flds
  tb_rel

end
end Mine

set_option maxRecDepth 100000
set_option autoImplicit false
set_option linter.unusedVariables false
set_option maxHeartbeats 1000000
set_option exponentiation.threshold 10000
namespace Mine
open PySem PySem.W PyProof.Rows PySem.Calls PySem.SeqAt
set_option pp.deepTerms false
set_option pp.maxSteps 2000
/-- what stands in a state -/
local macro_rules | `(tactic| kt_at_get) => `(tactic| first
  | exact app_get0
  | exact app_get.trans rfl
  | assumption
  | (refine get_pre ?_; assumption)
  | (simp; done))
/-- what a name holds -/
local macro_rules | `(tactic| kt_at_in) => `(tactic| first
  | (refine' NameIs.loc rfl ?a ?b; (case a => kt_at_get); (case b => rfl))
  | (refine' NameIs.cell rfl (.inl rfl) rfl ?a; (case a => kt_at_get))
  | (refine' NameIs.cell rfl (.inr rfl) rfl ?a; (case a => kt_at_get)))
/-- a state written plainly -/
local macro_rules | `(tactic| kt_at_method) => `(tactic| ((try dsimp only [compSt, compPE, relabelP, kwNames, List.filterMap, List.zip, List.zipWith]); (try simp only [app_set0, app_set, List.set_cons_zero, List.set_cons_succ, List.append_assoc, List.cons_append, List.nil_append, List.length_append, List.length_cons, List.length_nil, Nat.add_assoc, Nat.reduceAdd, Nat.zero_add, Nat.add_zero])))
/-- a name is bound -/
local macro_rules | `(tactic| kt_at_notin) => `(tactic| first
  | ((with_reducible show ∃ _, _ ∧ _); (refine' Exists.intro _ (And.intro (BindIs.loc rfl ?a) ?b)); (case a => kt_at_get); kt_at_method)
  | ((with_reducible show ∃ _, _ ∧ _); (refine' Exists.intro _ (And.intro (BindIs.cell rfl rfl ?a) ?b)); (case a => kt_at_get); kt_at_method))
/-- a step of a tree -/
local macro_rules | `(tactic| kt_at_item) => `(tactic| first
  | with_reducible refine hs_nil ?_
  | kt_at_notin
  | with_reducible refine hs_cons ?_
  | with_reducible refine hs_return ?_
  | with_reducible refine hs_if ?_
  | with_reducible refine hs_pass ?_
  | ((with_reducible refine hs_assign ?h ?hs); (case hs => (intro _; rfl)))
  | ((with_reducible refine hs_expr ?h ?hs); (case hs => (intro _; rfl)))
  | ((with_reducible show _ ≤ sizeLine ∧ _); refine ⟨Nat.le_of_ble_eq_true rfl, ?_⟩; kt_at_method)
  | ((with_reducible refine hs_assign_tuple ?h ?hs ?hw); (case hs => (intro _; rfl)); (case hw => (intro env h; cases env; cases h; rfl)))
  | ((with_reducible refine' hs_swap ?cl ?h ?hs ?hw); (case cl => rfl); (case hs => (intro _; rfl)); (case hw => (intro env h; cases env; cases h; rfl)))
  | ((with_reducible refine' bindT ?g ?l ?b); (case g => kt_at_get); (case l => rfl); dsimp only [BindL, tupNames, List.reverse, List.reverseAux])
  | ((with_reducible refine' ha_tuple ?c ?g ?h ?n ?s); (case c => rfl); (case g => kt_at_get); (case n => (intro _; rfl)); (case s => (intro _; rfl)); refine ⟨fun _ => rfl, ?_⟩)
  | ((with_reducible refine' ha_name (BindIs.loc rfl ?a) ?b); (case a => kt_at_get); kt_at_method)
  | ((with_reducible refine' ha_name (BindIs.cell rfl rfl ?a) ?b); (case a => kt_at_get); kt_at_method)
  | ((with_reducible show HaL _ _ _ _ _ (_ :: _) _ _); refine ⟨fun _ => rfl, ?_⟩)
  | ((with_reducible show HaL _ _ _ _ _ [] _ _); dsimp only [HaL])
  | ((with_reducible refine' hs_aug ?e ?h ?c); (case e => kt_at_in); (case c => decide +kernel))
  | with_reducible refine hx_joined ?_
  | with_reducible refine hx_fmt_int ?_
  | ((with_reducible refine hs_setitem ?h ?hs); (case hs => (intro _; rfl)))
  | ((with_reducible refine hs_setattr ?h ?hs); (case hs => (intro _; rfl)))
  | ((with_reducible refine hx_attr ?h ?he); (case he => (intro _; rfl)))
  | with_reducible refine hx_and ?_
  | with_reducible refine hx_or ?_
  | with_reducible refine hx_bool1 ?_
  | with_reducible refine hx_if ?_
  | with_reducible refine hx_binop ?_
  | with_reducible refine hx_unary ?_
  | ((with_reducible refine ht_cmp ?h ?hb); (case hb => rfl))
  | ((with_reducible refine hx_cmp ?h ?hb); (case hb => rfl))
  | with_reducible refine ht_not ?_
  | with_reducible refine ht_bool ?_
  | with_reducible refine hall_nil_and ?_
  | with_reducible refine hall_nil_or ?_
  | with_reducible refine hall_and ?_
  | with_reducible refine hall_or ?_
  | with_reducible refine hx_none ?_
  | with_reducible refine hx_bool ?_
  | with_reducible refine hx_int ?_
  | with_reducible refine hx_str ?_
  | with_reducible refine hx_bytes ?_
  | ((with_reducible refine' hx_name ?e ?h ?hc ?hd); (case e => kt_at_in); (case hc => decide +kernel); (case hd => decide +kernel))
  | with_reducible refine hx_tuple ?_
  | with_reducible refine hx_list ?_
  | with_reducible refine hx_slice ?_
  | ((with_reducible refine hx_index ?h ?hs); (case hs => (intro _ _; rfl)))
  | ((with_reducible refine hx_mcall ?h ?he ?hp ?hk); (case he => (intro _; exact ⟨_, rfl⟩)); (case hp => (intro _; rfl)); (case hk => rfl))
  | ((with_reducible refine hx_call ?h ?he ?hp ?hk); (case he => (intro _; rfl)); (case hp => (intro _; rfl)); (case hk => rfl))
  | with_reducible refine hl_nil ?_
  | ((with_reducible refine hl_cons ?h ?he); (case he => (intro _; rfl)))
  | ((with_reducible refine hk_nil ?_); (try dsimp only [kwNames, List.filterMap, List.zip, List.zipWith, List.nil_append, List.cons_append, List.filterMap_nil, List.zip_nil_left]))
  | with_reducible refine hk_cons ?_
  | with_reducible refine hp_none ?_
  | with_reducible refine hp_some ?_
  | with_reducible refine ex_int ?_
  | ((with_reducible refine' hx_glob_int ?g ?hk ?e ?h ?hd); (case g => assumption); (case hk => rfl); (case e => rfl); (case hd => decide +kernel))
  | ((with_reducible refine' hx_glob_str ?g ?hk ?e ?h ?hd); (case g => assumption); (case hk => rfl); (case e => rfl); (case hd => decide +kernel))
  | ((with_reducible refine' hx_glob ?g ?hk ?e ?h ?hd); (case g => assumption); (case hk => rfl); (case e => rfl); (case hd => decide +kernel))
  | ((with_reducible refine ht_val ?h ?he); (case he => (intro _; rfl)))
  | ((with_reducible refine tm_from_bytes ?e ?h); (case e => assumption); kt_at_method)
  | with_reducible refine tm_to_bytes ?_
  | ((with_reducible refine And.intro (keep_fb ?a) (tc_from_bytes ?b ?c ?d)); (case a => kt_at_get); (case b => kt_at_get); (case c => first | assumption | omega))
  | with_reducible refine ⟨keep_builtin, ?_⟩
  | with_reducible refine ⟨keep_type, ?_⟩
  | with_reducible refine ⟨get_str, ?_⟩
  | with_reducible refine ⟨get_bytes, ?_⟩
  | ((with_reducible refine' t2_ne_imm ?e ?h); (case e => rfl))
  | ((with_reducible refine' t2_eq_imm ?e ?h); (case e => rfl))
  | with_reducible refine t2_add_int ?_
  | with_reducible refine t2_sub_int ?_
  | with_reducible refine t2_iadd_int ?_
  | with_reducible refine t2_lt_int ?_
  | with_reducible refine t2_gt_int ?_
  | with_reducible refine t2_eq_bytes ?_
  | with_reducible refine t1_truth_bool ?_
  | with_reducible refine t1_truth_int ?_
  | with_reducible refine t1_truth_none ?_
  | with_reducible refine t1_not ?_
  | with_reducible refine t1_neg_int ?_
  | with_reducible refine t2_is_bool ?_
  | with_reducible refine t2_isnot_bool ?_)
/-- what a shorter state keeps -/
local macro_rules | `(tactic| tb_rel) => `(tactic| (repeat' first
  | exact Sh.nil
  | refine Sh.cons ?_ ?_
  | refine POr.ns ?_
  | exact OVsr.nil
  | refine OVsr.skip ?_
  | refine OVsr.keep ?_ ?_
  | exact POr.cellN
  | refine POr.cellS ?_
  | refine POr.list ?_
  | refine POr.dict ?_
  | exact EVsr.nil
  | refine EVsr.cons ?_ ?_
  | refine POr.tuple ?_
  | exact POr.barr
  | exact POr.raw
  | refine POr.rcd ?_
  | (refine POr.inst ?_; exact List.getElem?_range (by simp only [List.length_cons, List.length_nil]; omega))
  | exact PVsr.ints
  | exact PVsr.strs
  | exact PVsr.bools
  | exact PVsr.nil
  | refine PVsr.cons ?_ ?_
  | exact PVr.none
  | exact PVr.int _
  | exact PVr.str _
  | exact PVr.bool _
  | exact PVr.bytes _
  | exact PVr.lit _
  | exact Imm.pvr (by assumption)
  | exact PVr.obj (List.getElem?_range (by simp only [List.length_cons, List.length_nil]; omega))))
section
variable {C : Cx} {σ : St}
def AB (w : Str) : Prop := ∀ c ∈ w.cps.toList, c = 97 ∨ c = 98
theorem AB.app {a b : Str} (h : AB a) (g : AB b) : AB (a ++ b) := by
  intro c hc
  have e : (a ++ b).cps.toList = a.cps.toList ++ b.cps.toList := Array.toList_append
  rw [e] at hc
  rcases List.mem_append.mp hc with q | q
  · exact h c q
  · exact g c q
abbrev NW04 : List (Str × NameKind) := [("number", .local), ("found", .local), ("rest", .local), ("turn", .local), ("abs", .globalImplicit), ("range", .globalImplicit)]
theorem word_c04 {frs : List Nat} {n : Int} (P : P04 C) : TF C 1 frs true (gaddr C.K "_law_word") [.int n] [] σ (fun p σ' => σ' = σ ∧ ∃ w, p = .str w ∧ AB w ∧ w.length ≤ 4) noE := by
  have F := P.f_law_word
  have G := P.G
  refine tf_cl fun hσ => tf_imm (tf_def F (bindOk1 (x := "number") (fun _ _ _ _ _ _ _ _ _ _ _ _ _ _ => rfl)) (l₀ := [some (.int n), none, none, none, none, none]) (cs₀ := []) (ci₀ := []) rfl rfl rfl ?_)
  conv => arg 4; whnf
  conv => arg 3; arg 1; whnf
  conv => arg 5; arg 2; arg 1; arg 1; whnf
  repeat kt_at_item
  refine tc_abs ?_
  repeat kt_at_item
  refine hs_for rfl (hit_range1 ?_ ?_)
  · repeat kt_at_item
    exact ⟨rfl, rfl⟩
  repeat kt_at_item
  refine t2_mod_pos (by decide) ?_
  repeat kt_at_item
  obtain ⟨m, hm, em⟩ : ∃ m : Nat, m ≤ 4 ∧ 1 + ((n.natAbs : Int) % 4) = (m : Int) := ⟨1 + n.natAbs % 4, by omega, by omega⟩
  rw [em]
  refine ⟨by omega, by omega, List.prefix_refl _, (fun h => nomatch h), ?_⟩
  refine loop_ind (fun i ps st => ∃ (y1 : Option PV) (w : Str) (r : Nat), ps = (rangeP 0 (m : Int)).drop i ∧ i ≤ m ∧ AB w ∧ w.length = i ∧ st = σ ++ [.ns NW04 [some (.int n), some (.str w), some (.int r), y1, none, none], .tuple [PV.str (Str.ofString ""), PV.int n.natAbs]]) ?_ ?_ _ _ _ ⟨none, Str.ofString "", n.natAbs, rfl, Nat.zero_le _, (by intro c hc; rw [show (Str.ofString "").cps.toList = [] by decide +kernel] at hc; cases hc), rfl, rfl⟩
  · rintro i st ⟨y1, w, r, h1, h2, h3, h4, rfl⟩
    refine ⟨trivial, ?_⟩
    repeat kt_at_item
    exact ⟨pre_app, .str _, trivial, w, rfl, h3, by omega⟩
  · rintro i p ps st ⟨y1, w, r, h1, h2, h3, h4, rfl⟩
    obtain ⟨hi, rfl, rfl⟩ := rangeP_cons h1
    refine ⟨trivial, ?_⟩
    dsimp only [PIt.val, PIt.st]
    repeat kt_at_item
    refine t2_div_pos (by decide) (by decide) ?_
    repeat kt_at_item
    refine t2_mod_pos (by decide) ?_
    have h9 : ∀ d : Fin 2, (Str.ofString "ab").cps[d.val]? = some (97 + d.val) := by decide +kernel
    have e2 : ((r : Int) / 4 % 2) = ((r / 4 % 2 : Nat) : Int) := by omega
    have h2' : r / 4 % 2 < 2 := Nat.mod_lt _ (by decide)
    rw [e2]
    repeat kt_at_item
    refine t2_get_str (by omega) (by omega) (h9 ⟨_, h2'⟩) ?_
    refine t2_add_str (by rw [sizeLine_eq, h4]; show i + 1 ≤ _; omega) ?_
    repeat kt_at_item
    refine t2_div_pos (by decide) (by decide) ?_
    repeat kt_at_item
    refine ⟨σ ++ [.ns NW04 [some (.int n), some (.str (w ++ ⟨#[97 + r / 4 % 2]⟩)), some (.int ((r / 2 : Nat) : Int)), some (.int (i : Int)), none, none], .tuple [PV.str (Str.ofString ""), PV.int n.natAbs]], Shrink.app hσ ?_, by simp, some (.int (i : Int)), w ++ ⟨#[97 + r / 4 % 2]⟩, r / 2, by first | rfl | trivial, by omega, h3.app (fun c hc => ?_), ?_, rfl⟩
    · tb_rel
    · have := List.mem_singleton.mp hc
      omega
    · rw [strLen_append, h4]; rfl
def oneOf (p : Str) : List Str → Str
  | [m] => m
  | _ => p
def expW (ws : List Str) (p : Str) : Str := if ws.any (· == p) then p else oneOf p (ws.filter (fun w => Txt.startswith w p))
def fpre (p : Str) : Nat → PV → Option PV := fun _ q => match q with | .str w => if Txt.startswith w p then some (.str w) else none | _ => none
theorem fpre_res (p : Str) : ∀ (i : Nat) (ws : List Str), compRes (fpre p) i (ws.map .str) = (ws.filter fun w => Txt.startswith w p).map .str
  | _, [] => rfl
  | i, w :: ws => by
    have ih := fpre_res p (i + 1) ws
    rw [List.map_cons, List.filter_cons]
    unfold compRes fpre
    by_cases h : Txt.startswith w p = true
    · simp only [h, if_true, List.map_cons]
      exact congrArg _ ih
    · simp only [h, if_false]
      exact ih
theorem expand_word_c04 {frs : List Nat} {o d wl : Nat} {radix : Int} {ws : List Str} {p : Str} (P : P04 C) (go : σ[o]? = some (.inst (gaddr C.K "Mnemonic") d)) (gd : σ[d]? = some (.dict (flds radix .none wl))) (gw : σ[wl]? = some (.list (ws.map .str))) (hz : ws.length ≤ 1000) :
    TF C 1 frs true (metA C.K "expand_word") [.obj o, .str p] [] σ (fun q σ' => σ' = σ ∧ q = .str (expW ws p)) noE := by
  have F := P.m_expand_word
  have G := P.G
  refine tf_imm (tf_def F (bindOk2 (x := "self") (y := "prefix") (fun _ _ _ _ _ _ _ _ _ _ _ _ _ _ _ => rfl)) (l₀ := [some (.obj o), none, none, none]) (cs₀ := [.cell (some (.str p))]) (ci₀ := [("prefix", σ.length + 1)]) rfl rfl rfl ?_)
  conv => arg 4; whnf
  conv => arg 3; arg 1; whnf
  conv => arg 5; arg 2; arg 1; arg 1; whnf
  repeat kt_at_item
  refine ⟨_, _, _, _, _, rfl, P.O, by kt_at_get, by kt_at_get, P.n_wordlist, rfl, rfl, ?_⟩
  refine t2_in_list (by kt_at_get) (anyEq_strs p ws) ?_
  repeat kt_at_item
  by_cases hin : ws.any (· == p) = true
  · rw [if_pos hin]
    repeat kt_at_item
    exact ⟨pre_app, .str _, by trivial, by unfold expW; rw [if_pos hin]⟩
  · rw [if_neg hin]
    repeat kt_at_item
    refine hs_compV [(".0", .local), ("word", .local), ("prefix", .cell)] [("prefix", σ.length + 1)] rfl rfl rfl (by intro env h; cases env; cases h; rfl) ?_
    repeat kt_at_item
    refine ⟨_, _, _, _, _, rfl, P.O, by kt_at_get, by kt_at_get, P.n_wordlist, rfl, rfl, ?_⟩
    refine ⟨_, fpre p, IterOf.list (by kt_at_get), List.prefix_refl _, by simp only [PIt.items, List.length_map]; omega, fun cl => ?_, ?_⟩
    · intro i q ys hp
      simp only [PIt.items, List.getElem?_map] at hp
      obtain ⟨w, hw, rfl⟩ := Option.map_eq_some_iff.mp hp
      simp only [PIt.val, PIt.st, List.map_cons, List.map_nil]
      kt_at_method
      repeat kt_at_item
      refine hifs_one ?_
      repeat kt_at_item
      refine tm_str PySem.F.slot_str_startswith PySem.F.type_str_startswith ?_
      repeat kt_at_item
      refine tc_startswith ?_
      repeat kt_at_item
      by_cases h : Txt.startswith w p = true
      · rw [h, if_pos rfl]
        repeat kt_at_item
        exact ⟨_, [], rfl, rfl, .str _, by unfold fpre; simp only [h, if_true]⟩
      · rw [if_neg h]
        exact ⟨_, [], rfl, rfl, by unfold fpre; simp only [h]; rfl⟩
    simp only [PIt.items]
    rw [fpre_res]
    kt_at_method
    repeat kt_at_item
    refine tc_len_list (by kt_at_get) (by rw [List.length_map]; exact Nat.le_trans (List.length_filter_le _ _) (by omega)) ?_
    rw [List.length_map]
    repeat kt_at_item
    generalize hfl : ws.filter (fun w => Txt.startswith w p) = fl at *
    have hx : expW ws p = oneOf p fl := by unfold expW; rw [if_neg hin, hfl]
    rw [hx]
    match fl with
    | [] =>
      rw [if_neg (by simp)]
      repeat kt_at_item
      exact ⟨pre_app, .str _, by trivial, rfl⟩
    | [m] =>
      rw [if_pos (by simp)]
      repeat kt_at_item
      refine ⟨get_list (by kt_at_get), t2_get_list (x := .str m) (by kt_at_get) (by decide) (by decide) rfl ?_⟩
      repeat kt_at_item
      exact ⟨pre_app, .str _, by trivial, rfl⟩
    | m :: m' :: r =>
      rw [if_neg (by simp; omega)]
      repeat kt_at_item
      exact ⟨pre_app, .str _, by trivial, rfl⟩
theorem expand_c04 {frs : List Nat} {o d wl : Nat} {radix : Int} {ws : List Str} {x : Str} (P : P04 C) (go : σ[o]? = some (.inst (gaddr C.K "Mnemonic") d)) (gd : σ[d]? = some (.dict (flds radix .none wl))) (gw : σ[wl]? = some (.list (ws.map .str))) (hz : ws.length ≤ 1000) (hws : ∀ w ∈ ws, w.length ≤ 100) (hx : x.length ≤ 16000000) (hn : (Txt.split x " ").length ≤ 100) (hps : ∀ p ∈ Txt.split x " ", p.length ≤ 100) :
    TF C 4 frs true (metA C.K "expand") [.obj o, .str x] [] σ (fun q σ' => σ' = σ ∧ q = .str (Txt.join " " ((Txt.split x " ").map (expW ws)))) noE := by
  have F := P.m_expand
  have G := P.G
  refine tf_imm (tf_def F (bindOk2 (x := "self") (y := "mnemonic") (fun _ _ _ _ _ _ _ _ _ _ _ _ _ _ _ => rfl)) (l₀ := [some (.obj o), some (.str x), none]) (cs₀ := []) (ci₀ := []) rfl rfl rfl ?_)
  conv => arg 4; whnf
  conv => arg 3; arg 1; whnf
  conv => arg 5; arg 2; arg 1; arg 1; whnf
  repeat kt_at_item
  refine tm_str PySem.F.slot_str_join PySem.F.type_str_join ?_
  iterate 4 kt_at_item
  refine hx_attr_m ?_ (by intro _; rfl)
  repeat kt_at_item
  refine ⟨_, _, _, _, _, rfl, P.O, by kt_at_get, by kt_at_get, P.i_expand_word, P.g_expand_word, P.tk_expand_word, P.ty_expand_word, by decide +kernel, rfl, ?_⟩
  kt_at_method
  repeat kt_at_item
  refine tm_str PySem.F.slot_str_split PySem.F.type_str_split ?_
  repeat kt_at_item
  refine tc_split (by decide +kernel) (by omega) ?_
  kt_at_method
  repeat kt_at_item
  refine tc_map (by kt_at_get) ?_
  kt_at_method
  repeat kt_at_item
  have ho : o < σ.length := (List.getElem?_eq_some_iff.mp go).1
  have hd : d < σ.length := (List.getElem?_eq_some_iff.mp gd).1
  have hw : wl < σ.length := (List.getElem?_eq_some_iff.mp gw).1
  refine tc_join_map (t := σ.length + 4) (i := σ.length + 3) (l := σ.length + 2) (pf := .obj (σ.length + 1)) (xs := (Txt.split x " ").map .str) (n := (Txt.split x " ").length) (P := fun j y => ∃ p, (Txt.split x " ")[j]? = some p ∧ y = expW ws p) rfl (by rw [List.length_map]) (by omega) (by kt_at_get) (by kt_at_get) (by kt_at_get) (by kt_at_get) (fun j y ys hj hl hP => ?_) (fun c σ' h => h.2.elim) (fun zs hl hz => ?_)
  · rw [List.getElem?_map] at hj
    obtain ⟨p, hp, rfl⟩ := Option.map_eq_some_iff.mp hj
    refine tc_bound (mst_get (by kt_at_get) (by omega)) ?_
    refine ((expand_word_c04 P (mst_get (by kt_at_get) (by omega)) (mst_get (by kt_at_get) (by omega)) (mst_get (by kt_at_get) (by omega)) hz).mono (fun q σ' h => ?_) (fun _ _ h => h.elim))
    exact ⟨h.1, _, h.2, p, hp, rfl⟩
  · have ez : zs = (Txt.split x " ").map (expW ws) := by
      apply List.ext_getElem?
      intro j
      rw [List.getElem?_map]
      cases hzj : zs[j]? with
      | none => rw [List.getElem?_eq_none (by have := List.getElem?_eq_none_iff.mp hzj; omega)]; rfl
      | some y =>
        obtain ⟨p, hp, rfl⟩ := hz j y hzj
        rw [hp]; rfl
    subst ez
    refine ⟨joinOk_small (n := 100) (fun w hw' => ?_) (by rw [List.length_map, show (Str.ofString " ").length = 1 by decide +kernel]; omega), ?_⟩
    · obtain ⟨p, hp, rfl⟩ := List.mem_map.mp hw'
      unfold expW
      split
      · exact hps p hp
      · have : oneOf p (ws.filter fun w => Txt.startswith w p) = p ∨ oneOf p (ws.filter fun w => Txt.startswith w p) ∈ ws.filter fun w => Txt.startswith w p := by
          generalize ws.filter (fun w => Txt.startswith w p) = fl
          match fl with
          | [] => exact .inl rfl
          | [m] => exact .inr (by simp [oneOf])
          | _ :: _ :: _ => exact .inl rfl
        rcases this with h | h
        · rw [h]; exact hps p hp
        · exact hws _ (List.mem_filter.mp h).1
    · refine ⟨?_, .str _, by trivial, rfl⟩
      unfold mstE
      kt_at_method
      exact pre_app
theorem AB.cuts {a : Str} {lo hi : Option Int} (h : AB a) : AB (cutS a lo hi) := fun c hc => h c (by
  unfold cutS cut at hc
  simp only at hc
  exact List.mem_of_mem_drop (List.mem_of_mem_take hc))
theorem cutS_len {a : Str} {hi : Option Int} : (cutS a none hi).length ≤ a.length := by
  unfold cutS cut
  show (List.take _ _).toArray.size ≤ a.cps.size
  rw [List.size_toArray, List.length_take]
  simp only [Option.elim, List.drop_zero, Array.length_toList]
  omega
theorem pre_eq (w p : Str) : (cutS w none (some (p.length : Int)) == p) = Txt.startswith w p := by
  have e : cutS w none (some (p.length : Int)) = ⟨(w.cps.toList.take p.length).toArray⟩ := by
    unfold cutS cut
    simp only [Option.elim, clip_nat, Nat.sub_zero, List.drop_zero]
    congr 2
    rw [Nat.min_def]
    split
    · rfl
    · rw [List.take_of_length_le (by omega), List.take_of_length_le (by omega)]
  rw [e]
  unfold Txt.startswith
  rw [StrLaws.subAt_eq, List.drop_zero, Nat.zero_add]
  rw [Bool.eq_iff_iff]
  simp only [beq_iff_eq, Bool.and_eq_true, decide_eq_true_eq]
  constructor
  · intro h
    have h1 : w.cps.toList.take p.length = p.cps.toList := by
      have := congrArg (fun x : Str => x.cps.toList) h
      simpa using this
    refine ⟨?_, h1⟩
    have h2 := congrArg List.length h1
    rw [List.length_take, Array.length_toList, Array.length_toList] at h2
    show p.cps.size ≤ w.cps.size
    have : p.length = p.cps.size := rfl
    omega
  · rintro ⟨_, h⟩
    rw [h]
def fone (p : Str) : Nat → PV → Option PV := fun _ q => match q with | .str w => if (cutS w none (some (p.length : Int)) == p) then some (.str w) else none | _ => none
theorem fone_eq (p : Str) : fone p = fpre p := by
  funext i q
  cases q <;> try rfl
  show (if _ then _ else _) = (if _ then _ else _)
  rw [pre_eq]
abbrev NL04 : List (Str × NameKind) := [("script", .local), ("words", .local), ("at", .local), ("word", .cell), ("own", .local), ("parts", .local), ("due", .local), ("drawn", .local), ("some", .local), ("range", .globalImplicit), ("_law_number", .globalImplicit), ("_law_word", .globalImplicit), ("Mnemonic", .globalImplicit), ("len", .globalImplicit)]
theorem law_c04 {frs : List Nat} {l f : Addr} {xs : List Int} (P : P04 C) (FL : FunAt C.h₀ f (getDef "law" T04).params (getDef "law" T04).body (getDef "law" T04).scope .none) (g : BL C l xs) (hz : xs.length ≤ 63) (hw : ∀ x ∈ xs, x.natAbs < 2 ^ 1048576) :
    TF C 6 frs true f [.lit (.ref l)] [] σ (fun p σ' => σ' = σ ∧ p = .bool true) noE := by
  have F := FL
  have G := P.G
  refine tf_cl fun hσ => tf_imm (tf_def F (bindOk1 (x := "script") (fun _ _ _ _ _ _ _ _ _ _ _ _ _ _ => rfl)) (l₀ := some (.lit (.ref l)) :: List.replicate 13 none) (cs₀ := [.cell none]) (ci₀ := [("word", σ.length + 1)]) rfl rfl rfl ?_)
  conv => arg 4; whnf
  conv => arg 3; arg 1; whnf
  conv => arg 5; arg 2; arg 1; arg 1; whnf
  dsimp only [List.replicate]
  repeat kt_at_item
  refine hs_for rfl (hit_range1 ?_ ?_)
  · repeat kt_at_item
    exact ⟨rfl, rfl⟩
  repeat kt_at_item
  refine ⟨keep_K P.k_law_number, tc_fun ((number_c04 P g (by omega) (by decide)).less (by decide)) ?_⟩
  repeat kt_at_item
  refine t2_mod_pos (by decide) ?_
  repeat kt_at_item
  obtain ⟨m, hm, hm0, em⟩ : ∃ m : Nat, m ≤ 8 ∧ 0 < m ∧ 1 + (lawNum xs 0 % 8) = (m : Int) := ⟨(1 + (lawNum xs 0 % 8)).toNat, by omega, by omega, by omega⟩
  rw [em]
  refine ⟨by omega, by omega, List.prefix_refl _, (fun h => nomatch h), ?_⟩
  refine loop_ind (fun i ps st => ∃ (ws : List Str), ps = (rangeP 0 (m : Int)).drop i ∧ i ≤ m ∧ ws.length ≤ i ∧ (0 < i → ws ≠ []) ∧ (∀ w ∈ ws, AB w ∧ w.length ≤ 4) ∧ st = σ ++ [.ns NL04 [some (.lit (.ref l)), some (.obj (σ.length + 2)), none, none, none, none, none, none, none, none, none, none, none, none], .cell none, .list (ws.map .str)]) ?_ ?_ _ _ _ ⟨[], rfl, Nat.zero_le _, Nat.le_refl _, (by omega), (by simp), rfl⟩
  rotate_left
  · rintro i p ps st ⟨ws, h1, h2, h3, h4, h5, rfl⟩
    obtain ⟨hi, rfl, rfl⟩ := rangeP_cons h1
    refine ⟨trivial, ?_⟩
    dsimp only [PIt.val, PIt.st]
    repeat kt_at_item
    rw [show (i : Int) + 1 = ((i + 1 : Nat) : Int) by omega]
    refine ⟨keep_K P.k_law_number, tc_fun ((number_c04 P g (by omega) (by omega)).less (by decide)) ?_⟩
    repeat kt_at_item
    refine ⟨keep_K P.k_law_word, tc_of (((word_c04 P).less (by decide)).mono (fun q s hq => ?_) (fun _ _ h => h.elim))⟩
    obtain ⟨rfl, w, rfl, hab, hl⟩ := hq
    repeat kt_at_item
    refine t2_notin_list (by kt_at_get) (anyEq_strs w ws) ?_
    repeat kt_at_item
    by_cases hin : ws.any (· == w) = true
    · rw [hin, if_neg (by simp)]
      repeat kt_at_item
      refine ⟨σ ++ [.ns NL04 [some (.lit (.ref l)), some (.obj (σ.length + 2)), none, none, none, none, none, none, none, none, none, none, none, none], .cell none, .list (ws.map .str)], Shrink.app hσ ?_, by simp, ws, by first | rfl | trivial, by omega, by omega, (fun _ h => by subst h; simp at hin), h5, rfl⟩
      tb_rel
    · have hin' : ws.any (· == w) = false := Bool.eq_false_iff.mpr hin
      rw [hin', if_pos (by rfl)]
      repeat kt_at_item
      refine tm_append (by kt_at_get) ?_
      repeat kt_at_item
      refine tc_append (by kt_at_get) (by simp; omega) ?_
      rw [show ws.map PV.str ++ [PV.str w] = (ws ++ [w]).map PV.str by simp]
      kt_at_method
      repeat kt_at_item
      refine ⟨σ ++ [.ns NL04 [some (.lit (.ref l)), some (.obj (σ.length + 2)), none, none, none, none, none, none, none, none, none, none, none, none], .cell none, .list ((ws ++ [w]).map .str)], Shrink.app hσ ?_, by simp, ws ++ [w], by first | rfl | trivial, by omega, by simp; omega, (fun _ h => by simp at h), (fun v hv => ?_), rfl⟩
      · tb_rel
      · rcases List.mem_append.mp hv with hv | hv
        · exact h5 v hv
        · rw [List.mem_singleton.mp hv]; exact ⟨hab, hl⟩
  rintro i st ⟨ws, h1, h2, h3, h4, h5, rfl⟩
  obtain rfl := rangeP_nil h1 h2
  have hne := h4 hm0
  refine ⟨trivial, ?_⟩
  repeat kt_at_item
  refine tc_len_list (by kt_at_get) (by rw [List.length_map]; omega) ?_
  rw [List.length_map]
  repeat kt_at_item
  refine ⟨keep_K P.kM, Mine.tc_cl fun hσ' => tc_cls P.O P.hI P.tI (((init4_c04 P hσ' (by kt_at_get) (by simp) (by simp; omega)).less (by decide)).mono (fun p σ' hp => ?_) fun c σ' hc => hc.elim)⟩
  obtain ⟨rfl, rfl⟩ := hp
  refine ⟨rfl, ?_⟩
  kt_at_method
  repeat kt_at_item
  refine hs_for rfl (hit_range1 ?_ ?_)
  · repeat kt_at_item
    exact ⟨rfl, rfl⟩
  repeat kt_at_item
  refine ⟨keep_K P.k_law_number, tc_fun ((number_c04 P g (by omega) (by decide)).less (by decide)) ?_⟩
  repeat kt_at_item
  refine t2_mod_pos (by decide) ?_
  obtain ⟨n, hn, en⟩ : ∃ n : Nat, n ≤ 6 ∧ (lawNum xs 9 % 7) = (n : Int) := ⟨(lawNum xs 9 % 7).toNat, by omega, by omega⟩
  rw [en]
  repeat kt_at_item
  refine ⟨by omega, by omega, List.prefix_refl _, (fun h => nomatch h), ?_⟩
  refine loop_ind (fun i ps st => ∃ (pa : List Str), ps = (rangeP 0 (n : Int)).drop i ∧ i ≤ n ∧ pa.length = i ∧ (∀ w ∈ pa, AB w ∧ w.length ≤ 10) ∧ st = σ ++ [.ns NL04 [some (.lit (.ref l)), some (.obj (σ.length + 2)), none, none, some (.obj (σ.length + 4)), some (.obj (σ.length + 5)), some (.obj (σ.length + 6)), none, none, none, none, none, none, none], .cell none, .list (ws.map .str),
      .dict (flds ws.length .none (σ.length + 2)), .inst (gaddr C.K "Mnemonic") (σ.length + 3), .list (pa.map .str), .list ((pa.map (expW ws)).map .str), .tuple [.obj (σ.length + 5), .obj (σ.length + 6)]]) ?_ ?_ _ _ _ ⟨[], rfl, Nat.zero_le _, rfl, (by simp), rfl⟩
  rotate_left
  · rintro i p ps st ⟨pa, e1, e2, e3, e4, rfl⟩
    obtain ⟨hi, rfl, rfl⟩ := rangeP_cons e1
    refine ⟨trivial, ?_⟩
    dsimp only [PIt.val, PIt.st]
    repeat kt_at_item
    rw [show (10 : Int) + (i : Int) = ((10 + i : Nat) : Int) by omega]
    refine ⟨keep_K P.k_law_number, tc_fun ((number_c04 P g (by omega) (by omega)).less (by decide)) ?_⟩
    generalize lawNum xs (10 + i) = dr
    iterate 2 kt_at_item
    refine hs_assign (hx_one (fun q => ∃ w, q = .str w ∧ AB w ∧ w.length ≤ 10) ?_ (fun q h => ?_)) (by intro _; rfl)
    · repeat kt_at_item
      refine t2_mod_pos (by decide) ?_
      repeat kt_at_item
      by_cases h3 : (0 : Int) < dr % 3
      · rw [decide_eq_true h3, if_pos rfl]
        repeat kt_at_item
        refine t2_div_pos (by decide) (by decide) ?_
        repeat kt_at_item
        refine tc_len_list (by kt_at_get) (by rw [List.length_map]; omega) ?_
        rw [List.length_map]
        have hl0 : 0 < ws.length := List.length_pos_iff.mpr hne
        refine t2_mod_pos (by omega) ?_
        have hd : (dr / 3 % (ws.length : Int)).toNat < ws.length := by
          have h1 := Int.emod_lt_of_pos (dr / 3) (show (0 : Int) < (ws.length : Int) by omega)
          have h0 := Int.emod_nonneg (dr / 3) (show (ws.length : Int) ≠ 0 by omega)
          omega
        have hd0 := Int.emod_nonneg (dr / 3) (show (ws.length : Int) ≠ 0 by omega)
        obtain ⟨hb1, hb2⟩ := h5 _ (List.getElem_mem hd)
        refine ⟨get_list (by kt_at_get), t2_get_list (x := .str ws[(dr / 3 % (ws.length : Int)).toNat]) (by kt_at_get) hd0 (by omega) (by rw [List.getElem?_map, List.getElem?_eq_getElem hd]; rfl) ?_⟩
        generalize ws[(dr / 3 % (ws.length : Int)).toNat] = w0 at *
        have h2' : (Str.ofString "ab").length = 2 := by decide +kernel
        repeat kt_at_item
        refine t2_add_str (by rw [sizeLine_eq, h2']; omega) ?_
        repeat kt_at_item
        refine t2_div_pos (by decide) (by decide) ?_
        repeat kt_at_item
        refine t2_mod_pos (by decide) ?_
        repeat kt_at_item
        have hl2 : (w0 ++ Str.ofString "ab").length ≤ 6 := by rw [strLen_append, h2']; omega
        refine tsl_str (by omega) ?_
        refine ⟨rfl, _, rfl, AB.cuts (hb1.app (fun c hc => by rw [show (Str.ofString "ab").cps.toList = [97, 98] by decide +kernel] at hc; simpa using hc)), Nat.le_trans cutS_len (by omega)⟩
      · rw [decide_eq_false h3, if_neg (by simp)]
        repeat kt_at_item
        refine t2_div_pos (by decide) (by decide) ?_
        repeat kt_at_item
        refine ⟨keep_K P.k_law_word, tc_of (((word_c04 P).less (by decide)).mono (fun q s hq => ?_) (fun _ _ h => h.elim))⟩
        obtain ⟨rfl, w, rfl, hab, hl⟩ := hq
        exact ⟨rfl, w, rfl, hab, by omega⟩
    obtain ⟨w, rfl, hab, hwl⟩ := h
    repeat kt_at_item
    refine hs_compV [(".0", .local), ("one", .local), ("len", .globalImplicit), ("word", .cell)] [("word", σ.length + 1)] rfl rfl rfl (by intro env h; cases env; cases h; rfl) ?_
    repeat kt_at_item
    refine ⟨_, fone w, IterOf.list (by kt_at_get), List.prefix_refl _, by simp only [PIt.items, List.length_map]; omega, fun cl => ?_, ?_⟩
    · intro j q ys hp
      simp only [PIt.items, List.getElem?_map] at hp
      obtain ⟨v, hv, rfl⟩ := Option.map_eq_some_iff.mp hp
      have hvl := (h5 v (List.mem_of_getElem? hv)).2
      simp only [PIt.val, PIt.st, List.map_cons, List.map_nil]
      kt_at_method
      repeat kt_at_item
      refine hifs_one ?_
      repeat kt_at_item
      refine tc_len_str (by omega) ?_
      repeat kt_at_item
      refine tsl_str (by omega) ?_
      repeat kt_at_item
      by_cases h : (cutS v none (some (w.length : Int)) == w) = true
      · rw [h, if_pos rfl]
        repeat kt_at_item
        exact ⟨_, [], rfl, rfl, .str _, by unfold fone; simp only [h, if_true]⟩
      · rw [if_neg h]
        exact ⟨_, [], rfl, rfl, by unfold fone; simp only [h]; rfl⟩
    simp only [PIt.items]
    rw [fone_eq, fpre_res]
    kt_at_method
    repeat kt_at_item
    refine tm_append (by kt_at_get) ?_
    repeat kt_at_item
    refine tc_append (by kt_at_get) (by simp; omega) ?_
    rw [show pa.map PV.str ++ [PV.str w] = (pa ++ [w]).map PV.str by simp]
    kt_at_method
    repeat kt_at_item
    refine tm_append (by kt_at_get) ?_
    refine hl_cons (hx_one (fun q => q = .str (expW ws w)) ?_ (fun q h => ?_)) (by intro _; rfl)
    · repeat kt_at_item
      refine t2_notin_list (by kt_at_get) (anyEq_strs w ws) ?_
      repeat kt_at_item
      by_cases hin : ws.any (· == w) = true
      · rw [hin, if_neg (by simp)]
        repeat kt_at_item
        rw [if_neg (by simp)]
        repeat kt_at_item
        exact ⟨rfl, by unfold expW; rw [if_pos hin]⟩
      · have hin' : ws.any (· == w) = false := Bool.eq_false_iff.mpr hin
        rw [hin', if_pos (by rfl)]
        repeat kt_at_item
        refine tc_len_list (by kt_at_get) (by rw [List.length_map]; exact Nat.le_trans (List.length_filter_le _ _) (by omega)) ?_
        rw [List.length_map]
        repeat kt_at_item
        have hx : expW ws w = oneOf w (ws.filter fun v => Txt.startswith v w) := by unfold expW; rw [if_neg hin]
        rw [hx]
        generalize ws.filter (fun v => Txt.startswith v w) = fl at *
        match fl with
        | [] =>
          rw [if_neg (by simp)]
          repeat kt_at_item
          rw [if_neg (by simp)]
          repeat kt_at_item
          exact ⟨rfl, rfl⟩
        | [m] =>
          rw [if_pos (by simp)]
          repeat kt_at_item
          rw [if_pos (by rfl)]
          repeat kt_at_item
          refine ⟨get_list (by kt_at_get), t2_get_list (x := .str m) (by kt_at_get) (by decide) (by decide) rfl ?_⟩
          exact ⟨rfl, rfl⟩
        | m :: m' :: r =>
          rw [if_neg (by simp; omega)]
          repeat kt_at_item
          rw [if_neg (by simp)]
          repeat kt_at_item
          exact ⟨rfl, rfl⟩
    subst h
    repeat kt_at_item
    refine tc_append (by kt_at_get) (by simp; omega) ?_
    rw [show (pa.map (expW ws)).map PV.str ++ [PV.str (expW ws w)] = ((pa ++ [w]).map (expW ws)).map PV.str by simp]
    kt_at_method
    repeat kt_at_item
    refine tm_inst P.O (by kt_at_get) (by kt_at_get) P.i_expand_word P.t_expand_word rfl ?_
    repeat kt_at_item
    refine ⟨keep_K P.k_expand_word, tc_fun ((expand_word_c04 P (by kt_at_get) (by kt_at_get) (by kt_at_get) (by omega)).less (by decide)) ?_⟩
    repeat kt_at_item
    refine ⟨get_list (by kt_at_get), t2_get_last (x := .str (expW ws w)) (by kt_at_get) (by simp; omega) (by simp) ?_⟩
    repeat kt_at_item
    rw [if_neg (by simp)]
    repeat kt_at_item
    refine ⟨σ ++ [.ns NL04 [some (.lit (.ref l)), some (.obj (σ.length + 2)), none, none, some (.obj (σ.length + 4)), some (.obj (σ.length + 5)), some (.obj (σ.length + 6)), none, none, none, none, none, none, none], .cell none, .list (ws.map .str),
      .dict (flds ws.length .none (σ.length + 2)), .inst (gaddr C.K "Mnemonic") (σ.length + 3), .list ((pa ++ [w]).map .str), .list (((pa ++ [w]).map (expW ws)).map .str), .tuple [.obj (σ.length + 5), .obj (σ.length + 6)]], Shrink.app hσ ?_, by simp, pa ++ [w], by first | rfl | trivial, by omega, by simp [e3], (fun v hv => ?_), rfl⟩
    · unfold flds
      tb_rel
    · rcases List.mem_append.mp hv with hv | hv
      · exact e4 v hv
      · rw [List.mem_singleton.mp hv]; exact ⟨hab, hwl⟩
  rintro j st ⟨pa, e1, e2, e3, e4, rfl⟩
  obtain rfl := rangeP_nil e1 e2
  refine ⟨trivial, ?_⟩
  repeat kt_at_item
  refine hs_for rfl (hit_val ?_)
  repeat kt_at_item
  refine ⟨_, _, IterOf.list (by kt_at_get), .inl ⟨Shrink.refl _, by simp⟩, by kt_at_get, (fun h => by obtain ⟨_, h⟩ := h; cases h), ?_⟩
  refine loop_ind (fun i ps st => ∃ (done rest : List Str), ws = done ++ rest ∧ ps = rest.map .str ∧ st = σ ++ [.ns NL04 [some (.lit (.ref l)), some (.obj (σ.length + 2)), none, none, some (.obj (σ.length + 4)), some (.obj (σ.length + 5)), some (.obj (σ.length + 6)), none, none, none, none, none, none, none], .cell none, .list (ws.map .str),
      .dict (flds ws.length .none (σ.length + 2)), .inst (gaddr C.K "Mnemonic") (σ.length + 3), .list (pa.map .str), .list ((pa.map (expW ws)).map .str), .tuple [.obj (σ.length + 5), .obj (σ.length + 6)]]) ?_ ?_ _ _ _ ⟨[], ws, rfl, rfl, rfl⟩
  rotate_left
  · rintro i p ps st ⟨done, rest, q1, q2, rfl⟩
    cases rest with
    | nil => cases q2
    | cons w rest =>
      cases q2
      refine ⟨by kt_at_get, ?_⟩
      dsimp only [PIt.val, PIt.st]
      repeat kt_at_item
      refine tm_inst P.O (by kt_at_get) (by kt_at_get) P.i_expand_word P.t_expand_word rfl ?_
      repeat kt_at_item
      refine ⟨keep_K P.k_expand_word, tc_fun ((expand_word_c04 P (by kt_at_get) (by kt_at_get) (by kt_at_get) (by omega)).less (by decide)) ?_⟩
      repeat kt_at_item
      have hin : ws.any (· == w) = true := by rw [q1]; simp
      rw [show expW ws w = w by unfold expW; rw [if_pos hin], if_neg (by simp)]
      repeat kt_at_item
      refine ⟨σ ++ [.ns NL04 [some (.lit (.ref l)), some (.obj (σ.length + 2)), none, none, some (.obj (σ.length + 4)), some (.obj (σ.length + 5)), some (.obj (σ.length + 6)), none, none, none, none, none, none, none], .cell none, .list (ws.map .str),
      .dict (flds ws.length .none (σ.length + 2)), .inst (gaddr C.K "Mnemonic") (σ.length + 3), .list (pa.map .str), .list ((pa.map (expW ws)).map .str), .tuple [.obj (σ.length + 5), .obj (σ.length + 6)]], Shrink.app hσ ?_, by simp, done ++ [w], rest, by simpa using q1, rfl, rfl⟩
      unfold flds
      tb_rel
  rintro k st ⟨done, rest, q1, q2, rfl⟩
  refine ⟨by kt_at_get, ?_⟩
  repeat kt_at_item
  have esp : (Str.ofString " ") = ⟨#[32]⟩ := by decide +kernel
  have hpl : ∀ v ∈ pa, 32 ∉ v.cps.toList := fun v hv hc => by
    have := (e4 v hv).1 32 hc
    omega
  have hexp : ∀ v, v.length ≤ 10 → (expW ws v).length ≤ 10 := fun v hv => by
    unfold expW
    split
    · exact hv
    · have : oneOf v (ws.filter fun w => Txt.startswith w v) = v ∨ oneOf v (ws.filter fun w => Txt.startswith w v) ∈ ws.filter fun w => Txt.startswith w v := by
        generalize ws.filter (fun w => Txt.startswith w v) = fl
        match fl with
        | [] => exact .inl rfl
        | [m] => exact .inr (by simp [oneOf])
        | _ :: _ :: _ => exact .inl rfl
      rcases this with h | h
      · rw [h]; exact hv
      · have := (h5 _ (List.mem_filter.mp h).1).2; omega
  refine tm_inst P.O (by kt_at_get) (by kt_at_get) P.i_expand P.t_expand rfl ?_
  repeat kt_at_item
  refine tm_str PySem.F.slot_str_join PySem.F.type_str_join ?_
  repeat kt_at_item
  have l1 : (Str.ofString " ").length = 1 := by decide +kernel
  refine tc_join (by kt_at_get) (joinOk_small (n := 10) (fun v hv => (e4 v hv).2) (by rw [l1]; omega)) ?_
  repeat kt_at_item
  have hjl : (Txt.join (Str.ofString " ") pa).length ≤ 16000000 := by
    have := join_len (sep := Str.ofString " ") (xs := pa) (n := 10) fun v hv => (e4 v hv).2
    rw [l1] at this; omega
  by_cases hp0 : pa = []
  · subst hp0
    have es : Txt.split (Txt.join (Str.ofString " ") []) (Str.ofString " ") = [Str.empty] := by decide +kernel
    refine ⟨keep_K P.k_expand, tc_fun ((expand_c04 P (by kt_at_get) (by kt_at_get) (by kt_at_get) (by omega) (fun v hv => by have := (h5 v hv).2; omega) hjl (by rw [es]; decide) (by rw [es]; intro p hp; rw [List.mem_singleton.mp hp]; decide +kernel)).less (by decide)) ?_⟩
    rw [es]
    repeat kt_at_item
    refine t2_ne_list (by kt_at_get) (by kt_at_get) (eqAll_strs [] []) ?_
    repeat kt_at_item
    rw [if_neg (by simp)]
    repeat kt_at_item
    refine tm_inst P.O (by kt_at_get) (by kt_at_get) P.i_expand_word P.t_expand_word rfl ?_
    repeat kt_at_item
    refine ⟨keep_K P.k_expand_word, tc_fun ((expand_word_c04 P (by kt_at_get) (by kt_at_get) (by kt_at_get) (by omega)).less (by decide)) ?_⟩
    repeat kt_at_item
    refine ⟨pre_app, .bool _, by trivial, ?_⟩
    have ej : Txt.join (Str.ofString " ") [expW ws Str.empty] = expW ws (Str.ofString "") := by
      rw [show Txt.join (Str.ofString " ") [expW ws Str.empty] = Str.join (Str.ofString " ") [expW ws Str.empty] from StrLaws.glued_eq_join _ _]
      rfl
    rw [List.map_cons, List.map_nil, ej]
    simp
  · have es : Txt.split (Txt.join (Str.ofString " ") pa) (Str.ofString " ") = pa := by rw [esp]; exact split_join hp0 hpl
    refine ⟨keep_K P.k_expand, tc_fun ((expand_c04 P (by kt_at_get) (by kt_at_get) (by kt_at_get) (by omega) (fun v hv => by have := (h5 v hv).2; omega) hjl (by rw [es]; omega) (by rw [es]; intro p hp; have := (e4 p hp).2; omega)).less (by decide)) ?_⟩
    rw [es]
    repeat kt_at_item
    refine t2_ne_list (by kt_at_get) (by kt_at_get) (eqAll_strs pa []) ?_
    have hb : (pa == []) = false := by cases pa with | nil => exact absurd rfl hp0 | cons _ _ => rfl
    rw [hb]
    repeat kt_at_item
    rw [if_pos (by rfl)]
    repeat kt_at_item
    refine tm_str PySem.F.slot_str_join PySem.F.type_str_join ?_
    repeat kt_at_item
    refine tc_join (by kt_at_get) (joinOk_small (n := 10) (fun v hv => by obtain ⟨u, hu, rfl⟩ := List.mem_map.mp hv; exact hexp u (e4 u hu).2) (by rw [l1, List.length_map]; omega)) ?_
    repeat kt_at_item
    refine ⟨pre_app, .bool _, by trivial, ?_⟩
    simp
end
end Mine

set_option maxRecDepth 100000
set_option maxHeartbeats 4000000
set_option exponentiation.threshold 10000
open PySem PySem.W PyProof.Rows PySem.Calls PySem.SeqAt in
open Mine in
theorem PySem.Challenge.cw_fe0188_04_holds : PySem.Challenge.rw_fe0188_04.Holds := by
  refine hd04 ?_
  w_strict (
    k_fill
    intro w s₀ s₁ mg mb G Y fa o pm cd doc dV kV ho hd hcd hD hmg hg args vals as hpre hlay hrd hwl hlo
    have KX : (hd04.heap_39 w.params).In s₁.heap := by first | exact kIn_of Y | exact km_in_of Y
    refine Ground.open G ?_
    intro T B D TE TW
    wrow_args hpre hlay hrd hwl hlo
    rename_i xs _ _ hL0 _ _ _ _ l vs _ hL _ _ _ hI _ hc _
    refine law_entry KX T hL hI hg (fun B _ => ?_) (by decide : 6 ≤ 12) (fun _ => rfl) (by kernel_rfl)
    have e : fa = gaddr (hd04.heap_39 w.params) "law" := law_at KX T hmg (by kernel_rfl)
    exact (law_c04 (p04 KX) (by rw [e]; exact funAt_fd KX (by kernel_rfl) (by kernel_rfl)) B (by omega) (scr_small hL0)).mono (fun _ _ h => h.2) (fun _ _ h => h))
