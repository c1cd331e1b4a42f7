import PyProof.Rows.All
import Wide.All
import OpenK.AllK
import Wide.FinOn
import Lean
import PySem.Challenge.RW_xl0010_03

set_option Elab.async false
section
open PySem PySem.W PyProof.Rows
set_option Elab.async false
set_option maxRecDepth 100000
namespace Mine

/-! ## values and objects, told without tokens and addresses -/
inductive AV where
  | none | bool (b : Bool) | int (i : Int) | str (s : List Nat) | bytes (b : List UInt8) | tup (l : List AV) | obj (k : Nat)
/-- a text by its signs -/
abbrev S (l : List Nat) : Str := ⟨l.toArray⟩
inductive AO where
  | lst (xs : List AV)
  | acc (xs : List AV) (dk : Nat)
  | idict (i : Int)
  | edict
  | tab (i : Nat)
  | frz (xs : List AV)

abbrev tupO (vs : List Value) (n : Nat) : Obj := { cls := .type "tuple", data := .seq vs.toArray n }
abbrev lstO (vs : List Value) (n : Nat) : Obj := { cls := .type "list", data := .seq vs.toArray n }
abbrev accO (C d : Addr) (vs : List Value) (n : Nat) : Obj := { cls := .ref C, dict := some d, data := .seq vs.toArray n }
abbrev sizeN : Str := Str.ofString "_initial_size"

mutual
inductive Rel (h : Heap) (ρ : List Addr) : AV → Value → Prop
  | none : Rel h ρ .none .none
  | bool (b) : Rel h ρ (.bool b) (.bool b)
  | int (i t) : Rel h ρ (.int i) (.int i t)
  | str (s t) : Rel h ρ (.str s) (.str (S s) t)
  | bytes (s t) : Rel h ρ (.bytes s) (.bytes s.toArray t)
  | obj (k a) : ρ[k]? = some a → Rel h ρ (.obj k) (.ref a)
  | tup (l a vs n) : h.get? a = some (tupO vs n) → RelL h ρ l vs → Rel h ρ (.tup l) (.ref a)
inductive RelL (h : Heap) (ρ : List Addr) : List AV → List Value → Prop
  | nil : RelL h ρ [] []
  | cons {a v l vs} : Rel h ρ a v → RelL h ρ l vs → RelL h ρ (a :: l) (v :: vs)
end

structure Wd where
  prog : Program
  w : World
  base : Heap
  mg : Str → Option Value
  mb : Str → Option Value
  C : Addr
  os : OsState
  TabIs : Nat → Heap → Addr → Prop

def Solid (o : Obj) : Prop := (o.cls = .type "tuple" ∧ ∃ xs n, o.data = .seq xs n) ∨ (o.cls = .type "code" ∧ ∃ vs, o.data = .fields vs)
theorem solid_tup (vs : List Value) (n : Nat) : Solid (tupO vs n) := .inl ⟨rfl, _, _, rfl⟩

structure WdOk (W : Wd) : Prop where
  g : W.base.Ns mainGlobals W.mg
  b : W.base.Ns builtinsNs W.mb
  bi : ∀ x : Str, x ≠ "__name__" → W.mb x = bootBuiltins x
  nolimit : W.base.NoLimit
  tabKeep : ∀ i h h' a, W.TabIs i h a → (∀ o, h.get? a = some o → h'.get? a = some o) → (∀ b o, Solid o → h.get? b = some o → h'.get? b = some o) → W.TabIs i h' a
  tabCls : ∀ i h a, W.TabIs i h a → ∃ vs, h.get? a = some { cls := .none, data := .fields vs }

def ObjIs (W : Wd) (h : Heap) (ρ : List Addr) (a : Addr) : AO → Prop
  | .lst xs => ∃ vs n, h.get? a = some (lstO vs n) ∧ RelL h ρ xs vs
  | .acc xs dk => ∃ vs n d, h.get? a = some (accO W.C d vs n) ∧ ρ[dk]? = some d ∧ RelL h ρ xs vs
  | .idict i => ∃ hs tk t ep, h.get? a = some { cls := .type "dict", data := .dict #[⟨hs, .str sizeN tk, .int i t⟩] ep }
  | .edict => ∃ ep, h.get? a = some { cls := .type "dict", data := .dict #[] ep }
  | .tab i => W.TabIs i h a
  | .frz xs => ∃ vs, h.get? a = some (lstO vs 0) ∧ RelL h ρ xs vs

def ObjsAre (W : Wd) (h : Heap) (ρ : List Addr) (os : List AO) : Prop := ∀ (k : Nat) (o : AO), os[k]? = some o → ∃ a : Addr, ρ[k]? = some a ∧ ObjIs W h ρ a o

structure AbsO (W : Wd) (os : List AO) (ρ : List Addr) (s : Shared) : Prop where
  keep : ∀ b o, W.base.get? b = some o → s.heap.get? b = some o
  nd : ρ.Nodup
  len : ρ.length = os.length
  off : ∀ (k : Nat) (a : Addr), ρ[k]? = some a → W.base.get? a = none ∨ ∃ xs, os[k]? = some (.frz xs)
  objs : ObjsAre W s.heap ρ os
  gens : AllBare s.gens
  os : s.os = W.os

/-- what a step may change: the objects of ρ, those of U, and new ones -/
structure Trans (U : List Addr) (s s' : Shared) (ρ ρ' : List Addr) : Prop where
  pre : ∃ r, ρ' = ρ ++ r ∧ ∀ a ∈ r, s.heap.get? a = none
  kept : ∀ a o, a ∉ U → a ∉ ρ → s.heap.get? a = some o → s'.heap.get? a = some o
  solid : ∀ a o, Solid o → s.heap.get? a = some o → s'.heap.get? a = some o
  live : ∀ a, s'.heap.get? a = none → s.heap.get? a = none

theorem live_of {h h' : Heap} (hk : ∀ b o, h.get? b = some o → h'.get? b = some o) : ∀ a, h'.get? a = none → h.get? a = none := fun a e => by
  cases q : h.get? a with
  | none => rfl
  | some o => rw [hk a o q] at e; cases e
theorem ne_none {h : Heap} {a : Addr} {o : Obj} (e : h.get? a = some o) (n : h.get? a = none) : False := by rw [e] at n; cases n
theorem Trans.refl (U s ρ) : Trans U s s ρ ρ := ⟨⟨[], by simp, fun _ h => nomatch h⟩, fun _ _ _ _ h => h, fun _ _ _ h => h, fun _ h => h⟩
theorem Trans.trans {U s s₁ s₂ ρ ρ₁ ρ₂} (x : Trans U s s₁ ρ ρ₁) (y : Trans U s₁ s₂ ρ₁ ρ₂) : Trans U s s₂ ρ ρ₂ := by
  obtain ⟨r, rfl, h1⟩ := x.pre
  obtain ⟨r', rfl, h2⟩ := y.pre
  refine ⟨⟨r ++ r', by simp, fun a ha => ?_⟩, fun a o h3 h4 h5 => y.kept a o h3 (fun h => ?_) (x.kept a o h3 h4 h5), fun a o h3 h4 => y.solid a o h3 (x.solid a o h3 h4), fun a h => x.live a (y.live a h)⟩
  · rcases List.mem_append.mp ha with h | h
    · exact h1 a h
    · exact x.live a (h2 a h)
  · rcases List.mem_append.mp h with h | h
    · exact h4 h
    · exact ne_none h5 (h1 a h)
theorem Trans.weak {U U' s s' ρ ρ'} (x : Trans U s s' ρ ρ') (h : ∀ a ∈ U, a ∈ U') : Trans U' s s' ρ ρ' :=
  ⟨x.pre, fun a o h1 => x.kept a o fun h2 => h1 (h a h2), x.solid, x.live⟩
theorem Trans.get {U s s'} {ρ ρ' : List Addr} {k : Nat} {a : Addr} (x : Trans U s s' ρ ρ') (h : ρ[k]? = some a) : ρ'[k]? = some a := by
  obtain ⟨r, rfl, _⟩ := x.pre
  rw [List.getElem?_append_left (List.getElem?_eq_some_iff.mp h).1]; exact h

mutual
theorem Rel.mono {h h' : Heap} {ρ ρ' : List Addr} (hs : ∀ a o, Solid o → h.get? a = some o → h'.get? a = some o) (hr : ∀ (k : Nat) (a : Addr), ρ[k]? = some a → ρ'[k]? = some a) :
    ∀ {a : AV} {v : Value}, Rel h ρ a v → Rel h' ρ' a v
  | _, _, .none => .none
  | _, _, .bool b => .bool b
  | _, _, .int i t => .int i t
  | _, _, .str i t => .str i t
  | _, _, .bytes i t => .bytes i t
  | _, _, .obj k a e => .obj k a (hr _ _ e)
  | _, _, .tup l a vs n e r => .tup l a vs n (hs _ _ (solid_tup _ _) e) (RelL.mono hs hr r)
theorem RelL.mono {h h' : Heap} {ρ ρ' : List Addr} (hs : ∀ a o, Solid o → h.get? a = some o → h'.get? a = some o) (hr : ∀ (k : Nat) (a : Addr), ρ[k]? = some a → ρ'[k]? = some a) :
    ∀ {l : List AV} {vs : List Value}, RelL h ρ l vs → RelL h' ρ' l vs
  | _, _, .nil => .nil
  | _, _, .cons r rs => .cons (Rel.mono hs hr r) (RelL.mono hs hr rs)
end
theorem Rel.tr {U s s' ρ ρ'} (x : Trans U s s' ρ ρ') {a v} (r : Rel s.heap ρ a v) : Rel s'.heap ρ' a v := r.mono x.solid fun _ _ => x.get
theorem RelL.tr {U s s' ρ ρ'} (x : Trans U s s' ρ ρ') {a v} (r : RelL s.heap ρ a v) : RelL s'.heap ρ' a v := r.mono x.solid fun _ _ => x.get
theorem RelL.length {h ρ} : ∀ {l : List AV} {vs : List Value}, RelL h ρ l vs → vs.length = l.length
  | _, _, .nil => rfl
  | _, _, .cons _ rs => by simp [rs.length]
theorem RelL.get {h ρ} : ∀ {l : List AV} {vs : List Value}, RelL h ρ l vs → ∀ {i : Nat} {a : AV}, l[i]? = some a → ∃ v, vs[i]? = some v ∧ Rel h ρ a v
  | _, _, .cons r _, 0, _, e => by simp at e; subst e; exact ⟨_, rfl, r⟩
  | _, _, .cons _ rs, i + 1, _, e => by simpa using rs.get (by simpa using e)
theorem RelL.append {h ρ} : ∀ {l l' : List AV} {vs vs' : List Value}, RelL h ρ l vs → RelL h ρ l' vs' → RelL h ρ (l ++ l') (vs ++ vs')
  | _, _, _, _, .nil, h => h
  | _, _, _, _, .cons r rs, h => .cons r (rs.append h)
theorem RelL.set {h ρ} : ∀ {l : List AV} {vs : List Value}, RelL h ρ l vs → ∀ (i : Nat) {a : AV} {v : Value}, Rel h ρ a v → RelL h ρ (l.set i a) (vs.set i v)
  | _, _, .nil, _, _, _, _ => .nil
  | _, _, .cons _ rs, 0, _, _, q => .cons q rs
  | _, _, .cons r rs, i + 1, _, _, q => .cons r (rs.set i q)

section
variable {W : Wd} {os os' : List AO} {ρ ρ' : List Addr} {s s' : Shared}
theorem AbsO.get (H : AbsO W os ρ s) {k : Nat} {o : AO} (e : os[k]? = some o) : ∃ a : Addr, ρ[k]? = some a ∧ ObjIs W s.heap ρ a o := H.objs k o e
theorem AbsO.notSolid (O : WdOk W) (H : AbsO W os ρ s) {a o} (ha : a ∈ ρ) (e : s.heap.get? a = some o) : ¬ Solid o := by
  obtain ⟨k, hk⟩ := List.mem_iff_getElem?.mp ha
  have hk' : k < os.length := by rw [← H.len]; exact (List.getElem?_eq_some_iff.mp hk).1
  obtain ⟨b, hb, hi⟩ := H.objs k os[k] (by simp [hk'])
  rw [hk] at hb; cases hb
  have key : ∃ oc od : _, s.heap.get? a = some oc ∧ (oc.cls = .type "list" ∨ oc.cls = .ref W.C ∨ oc.cls = .type "dict" ∨ oc.cls = .none) ∧ od = oc.cls := by
    cases hc : os[k] with
    | lst xs => rw [hc] at hi; obtain ⟨vs, n, e, _⟩ := hi; exact ⟨_, _, e, .inl rfl, rfl⟩
    | acc xs dk => rw [hc] at hi; obtain ⟨vs, n, d, e, _⟩ := hi; exact ⟨_, _, e, .inr (.inl rfl), rfl⟩
    | idict i => rw [hc] at hi; obtain ⟨_, _, _, _, e⟩ := hi; exact ⟨_, _, e, .inr (.inr (.inl rfl)), rfl⟩
    | edict => rw [hc] at hi; obtain ⟨_, e⟩ := hi; exact ⟨_, _, e, .inr (.inr (.inl rfl)), rfl⟩
    | tab i => rw [hc] at hi; obtain ⟨vs, e⟩ := O.tabCls _ _ _ hi; exact ⟨_, _, e, .inr (.inr (.inr rfl)), rfl⟩
    | frz xs => rw [hc] at hi; obtain ⟨vs, e, _⟩ := hi; exact ⟨_, _, e, .inl rfl, rfl⟩
  obtain ⟨oc, od, e', h, _⟩ := key
  rw [e] at e'; cases e'
  rintro (⟨hc, _⟩ | ⟨hc, _⟩) <;> rw [hc] at h <;> simp at h

theorem ObjIs.mono (O : WdOk W) {h h' : Heap} {ρ ρ' : List Addr} {a : Addr} (hs : ∀ a o, Solid o → h.get? a = some o → h'.get? a = some o) (hr : ∀ (k : Nat) (a : Addr), ρ[k]? = some a → ρ'[k]? = some a)
    (ha : ∀ o, h.get? a = some o → h'.get? a = some o) : ∀ {o : AO}, ObjIs W h ρ a o → ObjIs W h' ρ' a o
  | .lst _, ⟨vs, n, e, r⟩ => ⟨vs, n, ha _ e, r.mono hs hr⟩
  | .acc _ _, ⟨vs, n, d, e, hd, r⟩ => ⟨vs, n, d, ha _ e, hr _ _ hd, r.mono hs hr⟩
  | .idict _, ⟨a1, a2, a3, a4, e⟩ => ⟨a1, a2, a3, a4, ha _ e⟩
  | .edict, ⟨a1, e⟩ => ⟨a1, ha _ e⟩
  | .tab _, e => O.tabKeep _ _ _ _ e ha hs
  | .frz _, ⟨vs, e, r⟩ => ⟨vs, ha _ e, r.mono hs hr⟩
theorem AbsO.there (H : AbsO W os ρ s) (O : WdOk W) {a} (ha : a ∈ ρ) : ∃ o, s.heap.get? a = some o := by
  obtain ⟨k, hk⟩ := List.mem_iff_getElem?.mp ha
  have hk' : k < os.length := by rw [← H.len]; exact (List.getElem?_eq_some_iff.mp hk).1
  obtain ⟨b, hb, hi⟩ := H.objs k os[k] (by simp [hk'])
  rw [hk] at hb; cases hb
  cases hc : os[k] with
  | lst xs => rw [hc] at hi; obtain ⟨vs, n, e, _⟩ := hi; exact ⟨_, e⟩
  | acc xs dk => rw [hc] at hi; obtain ⟨vs, n, d, e, _⟩ := hi; exact ⟨_, e⟩
  | idict i => rw [hc] at hi; obtain ⟨_, _, _, _, e⟩ := hi; exact ⟨_, e⟩
  | edict => rw [hc] at hi; obtain ⟨_, e⟩ := hi; exact ⟨_, e⟩
  | tab i => rw [hc] at hi; obtain ⟨vs, e⟩ := O.tabCls _ _ _ hi; exact ⟨_, e⟩
  | frz xs => rw [hc] at hi; obtain ⟨vs, e, _⟩ := hi; exact ⟨_, e⟩

/-- a step that keeps every object (and may make new ones that nobody tracks) -/
theorem AbsO.grow (O : WdOk W) (H : AbsO W os ρ s) (hk : ∀ b o, s.heap.get? b = some o → s'.heap.get? b = some o) (hg : AllBare s'.gens) (ho : s'.os = s.os) :
    AbsO W os ρ s' ∧ Trans [] s s' ρ ρ :=
  ⟨⟨fun b o e => hk b o (H.keep b o e), H.nd, H.len, H.off, fun k o e => by obtain ⟨a, h1, h2⟩ := H.objs k o e; exact ⟨a, h1, h2.mono O (fun a o _ => hk a o) (fun _ _ h => h) (hk a)⟩, hg, ho.trans H.os⟩,
   ⟨⟨[], by simp, fun _ h => nomatch h⟩, fun a o _ _ => hk a o, fun a o _ => hk a o, live_of hk⟩⟩

theorem nodup_inj {l : List Addr} (h : l.Nodup) {i j : Nat} {a : Addr} {l1 : i < l.length} {l2 : j < l.length} (e1 : l[i] = a) (e2 : l[j] = a) : i = j := by
  have hp := List.pairwise_iff_getElem.mp h
  rcases Nat.lt_trichotomy i j with h1 | h1 | h1
  · exact absurd (e1.trans e2.symm) (hp i j l1 l2 h1)
  · exact h1
  · exact absurd (e2.trans e1.symm) (hp j i l2 l1 h1)

/-- a step that changes the object k alone -/
theorem AbsO.upd (O : WdOk W) (H : AbsO W os ρ s) {k : Nat} {a : Addr} {o' : AO} (ha : ρ[k]? = some a) (hz' : ∀ xs, os[k]? ≠ some (.frz xs)) (hk : ∀ b o, b ≠ a → s.heap.get? b = some o → s'.heap.get? b = some o) (hz : s'.heap.get? a ≠ none)
    (hn : ObjIs W s'.heap ρ a o') (hg : AllBare s'.gens) (ho : s'.os = s.os) : AbsO W (os.set k o') ρ s' ∧ Trans [] s s' ρ ρ := by
  have ham : a ∈ ρ := List.mem_of_getElem? ha
  have hs : ∀ b o, Solid o → s.heap.get? b = some o → s'.heap.get? b = some o := fun b o so e => hk b o (fun h => H.notSolid O ham (h ▸ e) so) e
  have hkl : k < ρ.length := (List.getElem?_eq_some_iff.mp ha).1
  refine ⟨⟨fun b o e => hk b o (fun h => ?_) (H.keep b o e), H.nd, by simp [H.len], fun j b hb => ?_, fun j o e => ?_, hg, ho.trans H.os⟩, ⟨⟨[], by simp, fun _ h => nomatch h⟩, fun b o _ hb e => hk b o (fun h => hb (h ▸ ham)) e, hs, fun b e => ?_⟩⟩
  · rcases H.off k a ha with q | ⟨xs, q⟩
    · rw [← h, e] at q; cases q
    · exact hz' xs q
  · by_cases hj : k = j
    · subst hj
      rcases H.off k b hb with q | ⟨xs, q⟩
      · exact .inl q
      · exact (hz' xs q).elim
    · rw [List.getElem?_set_ne hj]; exact H.off j b hb
  · by_cases hj : k = j
    · subst hj
      rw [List.getElem?_set_self (by rw [← H.len]; exact hkl)] at e
      cases e
      exact ⟨a, ha, hn⟩
    · rw [List.getElem?_set_ne hj] at e
      obtain ⟨b, h1, h2⟩ := H.objs j o e
      refine ⟨b, h1, h2.mono O hs (fun _ _ h => h) fun o' => hk b o' fun h => ?_⟩
      subst h
      obtain ⟨l1, e1⟩ := List.getElem?_eq_some_iff.mp ha
      obtain ⟨l2, e2⟩ := List.getElem?_eq_some_iff.mp h1
      exact hj (nodup_inj H.nd e1 e2)
  · by_cases hb : b = a
    · exact absurd (hb ▸ e) hz
    · cases q : s.heap.get? b with
      | none => rfl
      | some o => exact (ne_none (hk b o hb q) e).elim

/-- a step that keeps every object and makes a new one that is tracked from now on -/
theorem AbsO.new (O : WdOk W) (H : AbsO W os ρ s) {a : Addr} {o' : AO} (ha : s.heap.get? a = none) (hk : ∀ b o, s.heap.get? b = some o → s'.heap.get? b = some o)
    (hn : ObjIs W s'.heap (ρ ++ [a]) a o') (hg : AllBare s'.gens) (ho : s'.os = s.os) : AbsO W (os ++ [o']) (ρ ++ [a]) s' ∧ Trans [] s s' ρ (ρ ++ [a]) := by
  have hr : ∀ (k : Nat) (b : Addr), ρ[k]? = some b → (ρ ++ [a])[k]? = some b := fun k b e => by rw [List.getElem?_append_left (List.getElem?_eq_some_iff.mp e).1]; exact e
  have hna : a ∉ ρ := fun h => by obtain ⟨o, e⟩ := H.there O h; exact ne_none e ha
  refine ⟨⟨fun b o e => hk b o (H.keep b o e), ?_, by simp [H.len], fun j b hb => ?_, fun j o e => ?_, hg, ho.trans H.os⟩, ⟨⟨[a], rfl, fun b hb => by rw [List.mem_singleton.mp hb]; exact ha⟩, fun b o _ _ => hk b o, fun b o _ => hk b o, live_of hk⟩⟩
  · rw [List.nodup_append]
    exact ⟨H.nd, by simp, fun x hx y hy => by rw [List.mem_singleton.mp hy]; rintro rfl; exact hna hx⟩
  · by_cases hj : j < ρ.length
    · rw [List.getElem?_append_left hj] at hb
      rw [List.getElem?_append_left (by rw [← H.len]; exact hj)]
      exact H.off j b hb
    · have : j = ρ.length := by
        have := (List.getElem?_eq_some_iff.mp hb).1
        simp at this; omega
      subst this
      simp at hb
      subst hb
      refine .inl ?_
      cases q : W.base.get? a with
      | none => rfl
      | some o => exact (ne_none (H.keep _ _ q) ha).elim
  · by_cases hj : j < os.length
    · rw [List.getElem?_append_left hj] at e
      obtain ⟨b, h1, h2⟩ := H.objs j o e
      exact ⟨b, hr _ _ h1, h2.mono O (fun a o _ => hk a o) hr (hk b)⟩
    · have : j = os.length := by
        have := (List.getElem?_eq_some_iff.mp e).1
        simp at this; omega
      subst this
      simp at e
      subst e
      exact ⟨a, by rw [← H.len]; simp, hn⟩

/-! forgetting the last objects -/
mutual
def AV.bel (n : Nat) : AV → Prop
  | .tup l => AV.belL n l
  | .obj k => k < n
  | .none => True
  | .bool _ => True
  | .int _ => True
  | .str _ => True
  | .bytes _ => True
def AV.belL (n : Nat) : List AV → Prop
  | [] => True
  | a :: l => a.bel n ∧ AV.belL n l
end
def AO.bel (n : Nat) : AO → Prop
  | .lst xs => AV.belL n xs
  | .acc xs dk => AV.belL n xs ∧ dk < n
  | .idict _ => True
  | .edict => True
  | .tab _ => True
  | .frz xs => AV.belL n xs
mutual
theorem Rel.cut {h : Heap} {ρ : List Addr} {n : Nat} : ∀ {a : AV} {v : Value}, Rel h ρ a v → a.bel n → Rel h (ρ.take n) a v
  | _, _, .none, _ => .none
  | _, _, .bool b, _ => .bool b
  | _, _, .int i t, _ => .int i t
  | _, _, .str i t, _ => .str i t
  | _, _, .bytes i t, _ => .bytes i t
  | _, _, .obj k a e, b => .obj k a (by rw [List.getElem?_take_of_lt (by simpa [AV.bel] using b)]; exact e)
  | _, _, .tup l a vs m e r, b => .tup l a vs m e (RelL.cut r (by simpa [AV.bel] using b))
theorem RelL.cut {h : Heap} {ρ : List Addr} {n : Nat} : ∀ {l : List AV} {vs : List Value}, RelL h ρ l vs → AV.belL n l → RelL h (ρ.take n) l vs
  | _, _, .nil, _ => .nil
  | _, _, .cons r rs, b => .cons (Rel.cut r (by simp only [AV.belL] at b; exact b.1)) (RelL.cut rs (by simp only [AV.belL] at b; exact b.2))
end
theorem ObjIs.cut {h : Heap} {ρ : List Addr} {n : Nat} {a : Addr} : ∀ {o : AO}, o.bel n → ObjIs W h ρ a o → ObjIs W h (ρ.take n) a o
  | .lst _, b, ⟨vs, n, e, r⟩ => ⟨vs, n, e, r.cut b⟩
  | .acc _ _, b, ⟨vs, n, d, e, hd, r⟩ => ⟨vs, n, d, e, by rw [List.getElem?_take_of_lt b.2]; exact hd, r.cut b.1⟩
  | .idict _, _, e => e
  | .edict, _, e => e
  | .tab _, _, e => e
  | .frz _, b, ⟨vs, e, r⟩ => ⟨vs, e, r.cut b⟩
theorem AbsO.cut (H : AbsO W os ρ s) (n : Nat) (hb : ∀ o ∈ os.take n, o.bel n) : AbsO W (os.take n) (ρ.take n) s :=
  ⟨H.keep, H.nd.sublist (List.take_sublist ..), by simp [H.len], fun k a ha => by
    have hk : k < n := by have := (List.getElem?_eq_some_iff.mp ha).1; simp at this; omega
    rw [List.getElem?_take_of_lt hk] at ha ⊢
    exact H.off k a ha, fun k o e => by
    have hk : k < n := by have := (List.getElem?_eq_some_iff.mp e).1; simp at this; omega
    have e' : os[k]? = some o := by rw [List.getElem?_take_of_lt hk] at e; exact e
    obtain ⟨a, h1, h2⟩ := H.objs k o e'
    exact ⟨a, by rw [List.getElem?_take_of_lt hk]; exact h1, h2.cut (hb o (List.mem_of_getElem? e))⟩, H.gens, H.os⟩
end

/-- a statement's step: the first p objects stay tracked -/
structure TransP (p : Nat) (U : List Addr) (s s' : Shared) (ρ ρ' : List Addr) : Prop where
  pre : ρ'.take p = ρ.take p
  mem : ∀ a ∈ ρ', a ∈ ρ ∨ s.heap.get? a = none
  kept : ∀ a o, a ∉ U → a ∉ ρ → s.heap.get? a = some o → s'.heap.get? a = some o
  solid : ∀ a o, Solid o → s.heap.get? a = some o → s'.heap.get? a = some o
  live : ∀ a, s'.heap.get? a = none → s.heap.get? a = none
theorem Trans.P {p U s s'} {ρ ρ' : List Addr} (x : Trans U s s' ρ ρ') (hp : p ≤ ρ.length) : TransP p U s s' ρ ρ' := by
  obtain ⟨r, rfl, h⟩ := x.pre
  exact ⟨by rw [List.take_append_of_le_length hp], fun a ha => (List.mem_append.mp ha).imp id (h a), x.kept, x.solid, x.live⟩
theorem TransP.trans {p U s s₁ s₂ ρ ρ₁ ρ₂} (x : TransP p U s s₁ ρ ρ₁) (y : TransP p U s₁ s₂ ρ₁ ρ₂) : TransP p U s s₂ ρ ρ₂ :=
  ⟨y.pre.trans x.pre, fun a ha => (y.mem a ha).elim (fun h => x.mem a h) fun h => .inr (x.live a h),
   fun a o h1 h2 h3 => y.kept a o h1 (fun h => (x.mem a h).elim h2 fun h4 => ne_none h3 h4) (x.kept a o h1 h2 h3),
   fun a o h1 h2 => y.solid a o h1 (x.solid a o h1 h2), fun a h => x.live a (y.live a h)⟩
theorem TransP.refl (p U s ρ) : TransP p U s s ρ ρ := ⟨rfl, fun _ h => .inl h, fun _ _ _ _ h => h, fun _ _ _ h => h, fun _ h => h⟩
theorem TransP.full {p U s s'} {ρ ρ' : List Addr} (x : TransP p U s s' ρ ρ') (hp : p = ρ.length) (hn : ρ'.Nodup) : Trans U s s' ρ ρ' := by
  subst hp
  have e : ρ'.take ρ.length = ρ := by rw [x.pre]; simp
  refine ⟨⟨ρ'.drop ρ.length, ?_, fun a ha => ?_⟩, x.kept, x.solid, x.live⟩
  · conv => lhs; rw [← List.take_append_drop ρ.length ρ', e]
  · rcases x.mem a (List.mem_of_mem_drop ha) with h | h
    · exfalso
      rw [← List.take_append_drop ρ.length ρ', e, List.nodup_append] at hn
      exact hn.2.2 a h a ha rfl
    · exact h

end Mine
end

section
open PySem PySem.W PyProof.Rows
set_option Elab.async false
set_option maxRecDepth 100000
set_option linter.unusedVariables false
namespace Mine

def Room (n : Nat) (A : Around) : Prop := A.handled = none ∧ A.depth + n < recursionLimit ∧ A.units + 10 * n + 20 < cLine
theorem Room.in1 {n : Nat} {A : Around} (h : Room (n + 1) A) : Room n A.in1 := ⟨h.1, by have := h.2.1; show A.depth + n < _; omega, by have := h.2.2; show A.units + 1 + 10 * n + 20 < _; omega⟩
theorem Room.deeper {n : Nat} {A : Around} {env : Env} (h : Room (n + 1) A) : Room n (A.deeper env) :=
  ⟨h.1, by have := h.2.1; show A.depth + 1 + n < _; omega, by have := h.2.2; show A.units + 3 + 10 * n + 20 < _; omega⟩
theorem Room.depth {n : Nat} {A : Around} (h : Room n A) : A.depth < recursionLimit := by have := h.2.1; omega
theorem Room.units {n : Nat} {A : Around} (h : Room n A) : A.units < cLine := by have := h.2.2; omega

abbrev NoE : Value → Shared → Prop := fun _ _ => False

/-- the frame at hand: its names that are locals, its cells, its globals; p objects are the caller's -/
structure Ev where
  env : Env
  nm : List Str
  cn : List (Str × Addr)
  gn : List Str
  A : Around
  p : Nat
structure St where
  fr : List (Option AV)
  cr : List (Option AV)
  os : List AO

structure EvOk (Γ : Ev) (n : Nat) : Prop where
  kind : Γ.env.scope.kind = .function
  loc : ∀ x ∈ Γ.nm, Γ.env.kindOf x = some .local
  nd : Γ.nm.Nodup
  glob : Γ.env.globals = mainGlobals
  bins : Γ.env.builtins = builtinsNs
  gl : ∀ x ∈ Γ.gn, Γ.env.kindOf x = some .globalImplicit
  cel : ∀ p ∈ Γ.cn, True
  celnd : (Γ.cn.map (·.2)).Nodup
  room : Room n Γ.A
  dbg : ∀ x ∈ Γ.nm ++ Γ.gn ++ Γ.cn.map (·.1), (x == ("__debug__" : Str)) = false

def LocalsAre (h : Heap) (ρ : List Addr) (m : Str → Option Value) : List Str → List (Option AV) → Prop
  | x :: ns, o :: fr => (∀ av, o = some av → ∃ v, m x = some v ∧ Rel h ρ av v) ∧ LocalsAre h ρ m ns fr
  | _, _ => True
def CellsAre (h : Heap) (ρ : List Addr) : List (Str × Addr) → List (Option AV) → Prop
  | p :: cn, o :: cr => (∃ vo, h.IsCell p.2 vo ∧ ∀ av, o = some av → ∃ v, vo = some v ∧ Rel h ρ av v) ∧ CellsAre h ρ cn cr
  | [], _ => True
  | _ :: _, [] => False

theorem LocalsAre.mono {h h' : Heap} {ρ ρ' : List Addr} {m : Str → Option Value} (hr : ∀ a v, Rel h ρ a v → Rel h' ρ' a v) : ∀ {ns fr}, LocalsAre h ρ m ns fr → LocalsAre h' ρ' m ns fr
  | [], _, _ => trivial
  | _ :: _, [], _ => trivial
  | _ :: _, _ :: _, ⟨x, y⟩ => ⟨fun av e => by obtain ⟨v, h1, h2⟩ := x av e; exact ⟨v, h1, hr _ _ h2⟩, y.mono hr⟩
theorem CellsAre.mono {h h' : Heap} {ρ ρ' : List Addr} (hr : ∀ a v, Rel h ρ a v → Rel h' ρ' a v) : ∀ {cn cr}, (∀ p ∈ cn, ∀ o, h.get? p.2 = some o → h'.get? p.2 = some o) → CellsAre h ρ cn cr → CellsAre h' ρ' cn cr
  | [], _, _, _ => trivial
  | _ :: _, [], _, y => y
  | p :: cn, o :: cr, hk, ⟨⟨vo, ⟨ob, e1, e2⟩, x⟩, y⟩ => ⟨⟨vo, ⟨ob, hk p (.head _) _ e1, e2⟩, fun av e => by obtain ⟨v, h1, h2⟩ := x av e; exact ⟨v, h1, hr _ _ h2⟩⟩, y.mono hr fun q hq => hk q (.tail _ hq)⟩
theorem CellsAre.cell {h : Heap} {ρ : List Addr} : ∀ {cn cr}, CellsAre h ρ cn cr → ∀ p ∈ cn, ∃ vo, h.IsCell p.2 vo
  | p :: _, _ :: _, ⟨⟨vo, x, _⟩, _⟩, _, .head _ => ⟨vo, x⟩
  | _ :: _, _ :: _, ⟨_, y⟩, q, .tail _ hq => y.cell q hq

abbrev Ev.U (Γ : Ev) : List Addr := Γ.env.locals :: Γ.cn.map (·.2)

structure FrameIs (W : Wd) (Γ : Ev) (fr cr : List (Option AV)) (ρ : List Addr) (h : Heap) : Prop where
  ex : ∃ m, Fr W.base Γ.env.locals h m ∧ LocalsAre h ρ m Γ.nm fr
  cells : CellsAre h ρ Γ.cn cr
  off : ∀ a ∈ Γ.U, a ∉ ρ
  coff : ∀ p ∈ Γ.cn, p.2 ≠ Γ.env.locals ∧ W.base.get? p.2 = none

def Abs (W : Wd) (Γ : Ev) (σ : St) (ρ : List Addr) (s : Shared) : Prop := AbsO W σ.os ρ s ∧ FrameIs W Γ σ.fr σ.cr ρ s.heap ∧ Γ.p ≤ ρ.length

section
variable {W : Wd} {Γ : Ev} {fr cr : List (Option AV)} {os os' : List AO} {σ : St} {ρ ρ' : List Addr} {s s' : Shared} {h : Heap}

theorem FrameIs.there (F : FrameIs W Γ fr cr ρ h) : ∀ a ∈ Γ.U, ∃ o, h.get? a = some o := by
  intro a ha
  rcases List.mem_cons.mp ha with rfl | ha
  · obtain ⟨m, x, _⟩ := F.ex; obtain ⟨o, _, _, e, _⟩ := x.ns; exact ⟨o, e⟩
  · obtain ⟨p, hp, rfl⟩ := List.mem_map.mp ha
    obtain ⟨vo, o, e, _⟩ := F.cells.cell p hp
    exact ⟨o, e⟩
theorem FrameIs.notSolid (F : FrameIs W Γ fr cr ρ h) {a o} (ha : a ∈ Γ.U) (e : h.get? a = some o) : ¬ Solid o := by
  rcases List.mem_cons.mp ha with rfl | ha
  · obtain ⟨m, x, _⟩ := F.ex
    obtain ⟨o', es, ep, e', hd, _⟩ := x.ns
    rw [e] at e'; cases e'
    rintro (⟨_, xs, n, h⟩ | ⟨_, vs, h⟩) <;> rw [hd] at h <;> cases h
  · obtain ⟨p, hp, rfl⟩ := List.mem_map.mp ha
    obtain ⟨vo, o', e', hd⟩ := F.cells.cell p hp
    rw [e] at e'; cases e'
    rintro (⟨_, xs, n, h⟩ | ⟨_, vs, h⟩) <;> rw [hd] at h <;> cases h

/-- the frame stands where its own objects are kept -/
theorem FrameIs.tr (F : FrameIs W Γ fr cr ρ s.heap) (H : ∀ b o, W.base.get? b = some o → s'.heap.get? b = some o) (T : Trans [] s s' ρ ρ') : FrameIs W Γ fr cr ρ' s'.heap := by
  obtain ⟨m, x, y⟩ := F.ex
  have hk : ∀ a ∈ Γ.U, ∀ o, s.heap.get? a = some o → s'.heap.get? a = some o := fun a ha o => T.kept a o (by simp) (F.off a ha)
  obtain ⟨o', es, ep, e', r⟩ := x.ns
  refine ⟨⟨m, ⟨⟨o', es, ep, hk _ (.head _) _ e', r⟩, H, x.above⟩, y.mono fun _ _ r => r.tr T⟩, F.cells.mono (fun _ _ r => r.tr T) (fun p hp o => hk _ (.tail _ (List.mem_map_of_mem hp)) o), fun a ha hr => ?_, F.coff⟩
  obtain ⟨r', rfl, hf⟩ := T.pre
  rcases List.mem_append.mp hr with h1 | h1
  · exact F.off a ha h1
  · obtain ⟨o, e⟩ := F.there a ha; exact ne_none e (hf a h1)

/-- an object-level step under a frame -/
theorem Abs.step (H : Abs W Γ σ ρ s) (H' : AbsO W os' ρ' s') (T : Trans [] s s' ρ ρ') : Abs W Γ { σ with os := os' } ρ' s' ∧ Trans Γ.U s s' ρ ρ' := by
  refine ⟨⟨H', H.2.1.tr H'.keep T, Nat.le_trans H.2.2 ?_⟩, T.weak fun _ h => nomatch h⟩
  obtain ⟨r, rfl, _⟩ := T.pre
  simp

theorem Abs.grow (O : WdOk W) (H : Abs W Γ σ ρ s) (hk : ∀ b o, s.heap.get? b = some o → s'.heap.get? b = some o) (hg : AllBare s'.gens) (ho : s'.os = s.os) : Abs W Γ σ ρ s' ∧ Trans Γ.U s s' ρ ρ := by
  obtain ⟨a, b⟩ := H.1.grow O hk hg ho
  exact H.step a b
end

/-! ## the judgements -/
section
variable (W : Wd) (Γ : Ev)
def RV (s : Shared) (ρ : List Addr) (K : AV → St → Prop) : Value → Shared → Prop := fun v s' => ∃ ρ' av σ', Abs W Γ σ' ρ' s' ∧ Trans Γ.U s s' ρ ρ' ∧ Rel s'.heap ρ' av v ∧ K av σ'
def RVs (s : Shared) (ρ : List Addr) (K : List AV → St → Prop) : List Value → Shared → Prop := fun v s' => ∃ ρ' av σ', Abs W Γ σ' ρ' s' ∧ Trans Γ.U s s' ρ ρ' ∧ RelL s'.heap ρ' av v ∧ K av σ'
def RB (s : Shared) (ρ : List Addr) (K : Bool → St → Prop) : Bool → Shared → Prop := fun b s' => ∃ ρ' σ', Abs W Γ σ' ρ' s' ∧ Trans Γ.U s s' ρ ρ' ∧ K b σ'
def RU (s : Shared) (ρ : List Addr) (K : St → Prop) : Unit → Shared → Prop := fun _ s' => ∃ ρ' σ', Abs W Γ σ' ρ' s' ∧ Trans Γ.U s s' ρ ρ' ∧ K σ'
/-- a tree that gives a value -/
def SV (t : Sem Value) (σ : St) (K : AV → St → Prop) : Prop := ∀ s ρ, Abs W Γ σ ρ s → wpAny (model W.prog W.w) Γ.A t (RV W Γ s ρ K) NoE s
def EV (e : Expr) (σ : St) (K : AV → St → Prop) : Prop := SV W Γ (eval e Γ.env) σ K
def EVs (es : List Expr) (σ : St) (K : List AV → St → Prop) : Prop := ∀ pos s ρ, Abs W Γ σ ρ s → wpAny (model W.prog W.w) Γ.A (spliced (backTo pos (starEach es Γ.env))) (RVs W Γ s ρ K) NoE s
def TE (e : Expr) (σ : St) (K : Bool → St → Prop) : Prop := ∀ s ρ, Abs W Γ σ ρ s → wpAny (model W.prog W.w) Γ.A (isTrue e Γ.env (eval e Γ.env)) (RB W Γ s ρ K) NoE s
inductive AFlow where
  | next | brk | cont | ret (v : AV)
inductive FlowIs (h : Heap) (ρ : List Addr) : AFlow → Flow → Prop
  | next : FlowIs h ρ .next .next
  | brk : FlowIs h ρ .brk .brk
  | cont : FlowIs h ρ .cont .cont
  | ret (a v) : Rel h ρ a v → FlowIs h ρ (.ret a) (.ret v)
def RF (s : Shared) (ρ : List Addr) (K : AFlow → St → Prop) : Flow → Shared → Prop := fun f s' => ∃ ρ' af σ', Abs W Γ σ' ρ' s' ∧ TransP Γ.p Γ.U s s' ρ ρ' ∧ FlowIs s'.heap ρ' af f ∧ K af σ'
def SX (t : Sem Flow) (σ : St) (K : AFlow → St → Prop) : Prop := ∀ s ρ, Abs W Γ σ ρ s → wpAny (model W.prog W.w) Γ.A t (RF W Γ s ρ K) NoE s
def EX (ss : List Stmt) (σ : St) (K : AFlow → St → Prop) : Prop := SX W Γ (execs ss Γ.env) σ K
def EX1 (st : Stmt) (σ : St) (K : AFlow → St → Prop) : Prop := SX W Γ (exec st Γ.env) σ K
/-- assign a value to a target -/
def AS (t : Expr) (a : AV) (σ : St) (K : St → Prop) : Prop := ∀ s ρ v, Abs W Γ σ ρ s → Rel s.heap ρ a v → wpAny (model W.prog W.w) Γ.A (assign t Γ.env v) (RU W Γ s ρ K) NoE s
end

/-! object level: trees that know nothing of a frame -/
section
variable (W : Wd)
def RO (s : Shared) (ρ : List Addr) (K : AV → List AO → Prop) : Value → Shared → Prop := fun v s' => ∃ ρ' av os', AbsO W os' ρ' s' ∧ Trans [] s s' ρ ρ' ∧ Rel s'.heap ρ' av v ∧ K av os'
def RBO (s : Shared) (ρ : List Addr) (K : Bool → List AO → Prop) : Bool → Shared → Prop := fun b s' => ∃ ρ' os', AbsO W os' ρ' s' ∧ Trans [] s s' ρ ρ' ∧ K b os'
def BinOk (n : Nat) (op : Operator) (a b : AV) (os : List AO) (K : AV → List AO → Prop) : Prop :=
  ∀ A s ρ v u, Room n A → AbsO W os ρ s → Rel s.heap ρ a v → Rel s.heap ρ b u → wpAny (model W.prog W.w) A (binaryOp op v u) (RO W s ρ K) NoE s
def CmpOk (n : Nat) (op : CmpOp) (a b : AV) (os : List AO) (K : AV → List AO → Prop) : Prop :=
  ∀ A s ρ v u, Room n A → AbsO W os ρ s → Rel s.heap ρ a v → Rel s.heap ρ b u → wpAny (model W.prog W.w) A (compareOp op v u) (RO W s ρ K) NoE s
def TruthOk (n : Nat) (a : AV) (os : List AO) (K : Bool → Prop) : Prop :=
  ∀ A s ρ v, Room n A → AbsO W os ρ s → Rel s.heap ρ a v → wpAny (model W.prog W.w) A (truthy v) (RBO W s ρ fun b os' => os' = os ∧ K b) NoE s
end

section
variable {W : Wd} {Γ : Ev} {n : Nat} {σ : St} {K : AV → St → Prop}

theorem RV.tr {s s₁ s₂ : Shared} {ρ ρ₁ : List Addr} {v : Value} (T : Trans Γ.U s s₁ ρ ρ₁) (h : RV W Γ s₁ ρ₁ K v s₂) : RV W Γ s ρ K v s₂ := by
  obtain ⟨ρ', av, σ', a, b, c, d⟩ := h
  exact ⟨ρ', av, σ', a, T.trans b, c, d⟩
theorem RF.tr {s s₁ s₂ : Shared} {ρ ρ₁ : List Addr} {f : Flow} {K : AFlow → St → Prop} (T : TransP Γ.p Γ.U s s₁ ρ ρ₁) (h : RF W Γ s₁ ρ₁ K f s₂) : RF W Γ s ρ K f s₂ := by
  obtain ⟨ρ', av, σ', a, b, c, d⟩ := h
  exact ⟨ρ', av, σ', a, T.trans b, c, d⟩
theorem RV.of_RO {s s₁ : Shared} {ρ : List Addr} {v : Value} (H : Abs W Γ σ ρ s) (h : RO W s ρ (fun a os' => K a { σ with os := os' }) v s₁) : RV W Γ s ρ K v s₁ := by
  obtain ⟨ρ', av, os', a, b, c, d⟩ := h
  obtain ⟨x, y⟩ := H.step a b
  exact ⟨ρ', av, _, x, y, c, d⟩
theorem SV.bind {t : Sem Value} {f : Value → Sem Value} {K' : AV → St → Prop} (h : SV W Γ t σ K') (hf : ∀ s ρ a σ' v, Abs W Γ σ' ρ s → Rel s.heap ρ a v → K' a σ' → wpAny (model W.prog W.w) Γ.A (f v) (RV W Γ s ρ K) NoE s) : SV W Γ (t >>= f) σ K := by
  intro s ρ H
  refine wpAny_bind (wpAny_mono (h s ρ H) (fun v s₁ h₁ => ?_) fun _ _ x => x)
  obtain ⟨ρ', av, σ', a, b, c, d⟩ := h₁
  exact wpAny_mono (hf s₁ ρ' av σ' v a c d) (fun v s₂ h₂ => h₂.tr b) fun _ _ x => x
theorem EV.mono {e : Expr} {K' : AV → St → Prop} (h : EV W Γ e σ K') (hk : ∀ a σ', K' a σ' → K a σ') : EV W Γ e σ K := fun s ρ H =>
  wpAny_mono (h s ρ H) (fun v s₁ ⟨ρ', av, σ', a, b, c, d⟩ => ⟨ρ', av, σ', a, b, c, hk _ _ d⟩) fun _ _ x => x
theorem SX.mono {t : Sem Flow} {K K' : AFlow → St → Prop} (h : SX W Γ t σ K') (hk : ∀ a σ', K' a σ' → K a σ') : SX W Γ t σ K := fun s ρ H =>
  wpAny_mono (h s ρ H) (fun v s₁ ⟨ρ', av, σ', a, b, c, d⟩ => ⟨ρ', av, σ', a, b, c, hk _ _ d⟩) fun _ _ x => x

/-! ### names and constants -/
inductive At : List Str → List (Option AV) → Str → AV → Prop
  | here {x ns a fr} : At (x :: ns) (some a :: fr) x a
  | there {x y ns o fr a} : At ns fr x a → At (y :: ns) (o :: fr) x a
inductive Put (x : Str) (a : AV) : List Str → List (Option AV) → List (Option AV) → Prop
  | here {ns o fr} : Put x a (x :: ns) (o :: fr) (some a :: fr)
  | there {y ns o fr fr'} : Put x a ns fr fr' → Put x a (y :: ns) (o :: fr) (o :: fr')
theorem At.d1 {x y0 : Str} {a : AV} {o0 : Option AV} {ns : List Str} {fr : List (Option AV)} : At (y0 :: x :: ns) (o0 :: some a :: fr) x a := .there .here
theorem Put.d1 {x y0 : Str} {a : AV} {o0 o : Option AV} {ns : List Str} {fr : List (Option AV)} : Put x a (y0 :: x :: ns) (o0 :: o :: fr) (o0 :: some a :: fr) := .there .here
theorem At.d2 {x y0 y1 : Str} {a : AV} {o0 o1 : Option AV} {ns : List Str} {fr : List (Option AV)} : At (y0 :: y1 :: x :: ns) (o0 :: o1 :: some a :: fr) x a := .there (.there .here)
theorem Put.d2 {x y0 y1 : Str} {a : AV} {o0 o1 o : Option AV} {ns : List Str} {fr : List (Option AV)} : Put x a (y0 :: y1 :: x :: ns) (o0 :: o1 :: o :: fr) (o0 :: o1 :: some a :: fr) := .there (.there .here)
theorem At.d3 {x y0 y1 y2 : Str} {a : AV} {o0 o1 o2 : Option AV} {ns : List Str} {fr : List (Option AV)} : At (y0 :: y1 :: y2 :: x :: ns) (o0 :: o1 :: o2 :: some a :: fr) x a := .there (.there (.there .here))
theorem Put.d3 {x y0 y1 y2 : Str} {a : AV} {o0 o1 o2 o : Option AV} {ns : List Str} {fr : List (Option AV)} : Put x a (y0 :: y1 :: y2 :: x :: ns) (o0 :: o1 :: o2 :: o :: fr) (o0 :: o1 :: o2 :: some a :: fr) := .there (.there (.there .here))
theorem At.d4 {x y0 y1 y2 y3 : Str} {a : AV} {o0 o1 o2 o3 : Option AV} {ns : List Str} {fr : List (Option AV)} : At (y0 :: y1 :: y2 :: y3 :: x :: ns) (o0 :: o1 :: o2 :: o3 :: some a :: fr) x a := .there (.there (.there (.there .here)))
theorem Put.d4 {x y0 y1 y2 y3 : Str} {a : AV} {o0 o1 o2 o3 o : Option AV} {ns : List Str} {fr : List (Option AV)} : Put x a (y0 :: y1 :: y2 :: y3 :: x :: ns) (o0 :: o1 :: o2 :: o3 :: o :: fr) (o0 :: o1 :: o2 :: o3 :: some a :: fr) := .there (.there (.there (.there .here)))
theorem At.skip {x y0 y1 y2 y3 y4 : Str} {a : AV} {o0 o1 o2 o3 o4 : Option AV} {ns : List Str} {fr : List (Option AV)} (h : At ns fr x a) : At (y0 :: y1 :: y2 :: y3 :: y4 :: ns) (o0 :: o1 :: o2 :: o3 :: o4 :: fr) x a := .there (.there (.there (.there (.there (h)))))
theorem Put.skip {x y0 y1 y2 y3 y4 : Str} {a : AV} {o0 o1 o2 o3 o4 : Option AV} {ns : List Str} {fr fr' : List (Option AV)} (h : Put x a ns fr fr') : Put x a (y0 :: y1 :: y2 :: y3 :: y4 :: ns) (o0 :: o1 :: o2 :: o3 :: o4 :: fr) (o0 :: o1 :: o2 :: o3 :: o4 :: fr') := .there (.there (.there (.there (.there (h)))))
theorem At.mem : ∀ {ns fr x a}, At ns fr x a → x ∈ ns
  | _, _, _, _, .here => .head _
  | _, _, _, _, .there h => .tail _ h.mem
theorem Put.mem {x : Str} {a : AV} : ∀ {ns fr fr'}, Put x a ns fr fr' → x ∈ ns
  | _, _, _, .here => .head _
  | _, _, _, .there h => .tail _ h.mem
theorem LocalsAre.at {h : Heap} {ρ : List Addr} {m : Str → Option Value} : ∀ {ns fr x a}, LocalsAre h ρ m ns fr → At ns fr x a → ∃ v, m x = some v ∧ Rel h ρ a v
  | _, _, _, _, l, .here => l.1 _ rfl
  | _, _, _, _, l, .there h => l.2.at h
theorem LocalsAre.other {h : Heap} {ρ : List Addr} {m : Str → Option Value} {x : Str} {v : Value} : ∀ {ns fr}, x ∉ ns → LocalsAre h ρ m ns fr → LocalsAre h ρ (fun y => if y = x then some v else m y) ns fr
  | [], _, _, _ => trivial
  | _ :: _, [], _, _ => trivial
  | y :: ns, o :: fr, hx, ⟨l, r⟩ => ⟨fun av e => by
      have : y ≠ x := fun e => hx (e ▸ .head _)
      simpa [this] using l av e, r.other fun h => hx (.tail _ h)⟩
theorem LocalsAre.put {h : Heap} {ρ : List Addr} {m : Str → Option Value} {x : Str} {a : AV} {v : Value} (hr : Rel h ρ a v) : ∀ {ns fr fr'}, ns.Nodup → LocalsAre h ρ m ns fr → Put x a ns fr fr' → LocalsAre h ρ (fun y => if y = x then some v else m y) ns fr'
  | _ :: ns, _ :: fr, _, hn, ⟨_, r⟩, .here => ⟨fun av e => ⟨v, by simp, by cases e; exact hr⟩, r.other (List.nodup_cons.mp hn).1⟩
  | y :: ns, _ :: fr, _, hn, ⟨l, r⟩, .there p => ⟨fun av e => by
      have : y ≠ x := by rintro rfl; exact (List.nodup_cons.mp hn).1 p.mem
      simpa [this] using l av e, LocalsAre.put hr (List.nodup_cons.mp hn).2 r p⟩

theorem E_local {x : Str} {pos : Pos} {a : AV} (Z : EvOk Γ n) (hx : At Γ.nm σ.fr x a) (h : K a σ) : EV W Γ (.Name x pos) σ K := by
  intro s ρ H
  obtain ⟨m, F, l⟩ := H.2.1.ex
  obtain ⟨v, hv, hr⟩ := l.at hx
  exact wpAny_Name (wpAny_loadName_local Z.kind (Z.loc x hx.mem) F.ns hv ⟨ρ, a, σ, H, .refl .., hr, h⟩) (Z.dbg x (by simp [hx.mem]))

theorem E_int {i : Int} {k : Nat} {pos : Pos} (O : WdOk W) (h : K (.int i) σ) : EV W Γ (.Constant (.int i) k pos) σ K := by
  intro s ρ H
  refine wpAny_Constant_int ?_
  obtain ⟨a, b⟩ := H.grow (s' := { s with toks := s.toks + 1 }) O (fun _ _ e => e) H.1.gens rfl
  exact ⟨ρ, .int i, σ, a, b, .int _ _, h⟩
theorem E_str {x : Str} {l : List Nat} {k : Nat} {pos : Pos} (hl : x = S l) (O : WdOk W) (h : K (.str l) σ) : EV W Γ (.Constant (.str x) k pos) σ K := by
  subst hl
  intro s ρ H
  refine wpAny_Constant_str ?_
  obtain ⟨a, b⟩ := H.grow (s' := { s with toks := s.toks + 1 }) O (fun _ _ e => e) H.1.gens rfl
  exact ⟨ρ, .str l, σ, a, b, .str _ _, h⟩
theorem E_bytes {x : List UInt8} {k : Nat} {pos : Pos} (O : WdOk W) (h : K (.bytes x) σ) : EV W Γ (.Constant (.bytes x) k pos) σ K := by
  intro s ρ H
  show wpAny _ _ (mkTextBytes x.toArray) _ _ _
  obtain ⟨a, b⟩ := H.grow (s' := { s with toks := s.toks + 1 }) O (fun _ _ e => e) H.1.gens rfl
  exact fun _ _ _ => ⟨ρ, .bytes x, σ, a, b, .bytes _ _, h⟩
theorem E_none {k : Nat} {pos : Pos} (h : K .none σ) : EV W Γ (.Constant .none k pos) σ K := fun s ρ H => fun _ _ _ => ⟨ρ, .none, σ, H, .refl .., .none, h⟩
theorem E_bool {b : Bool} {k : Nat} {pos : Pos} (h : K (.bool b) σ) : EV W Γ (.Constant (.bool b) k pos) σ K := fun s ρ H => fun _ _ _ => ⟨ρ, .bool b, σ, H, .refl .., .bool b, h⟩

/-! ### operators -/
theorem E_bin {l r : Expr} {op : Operator} {pos : Pos} (Z : EvOk Γ n) (h : EV W Γ l σ fun a σ₁ => EV W Γ r σ₁ fun b σ₂ => BinOk W n op a b σ₂.os fun c os' => K c { σ₂ with os := os' }) : EV W Γ (.BinOp l op r pos) σ K := by
  intro s ρ H
  refine wpAny_BinOp (wpAny_mono (h s ρ H) (fun a s₁ h₁ => ?_) fun _ _ x => x)
  obtain ⟨ρ₁, av, σ₁, H₁, T₁, R₁, k₁⟩ := h₁
  refine wpAny_mono (k₁ s₁ ρ₁ H₁) (fun b s₂ h₂ => ?_) fun _ _ x => x
  obtain ⟨ρ₂, bv, σ₂, H₂, T₂, R₂, k₂⟩ := h₂
  exact wpAny_mono (k₂ Γ.A s₂ ρ₂ a b Z.room H₂.1 (R₁.tr T₂) R₂) (fun v s₃ h₃ => ((RV.of_RO H₂ h₃).tr T₂).tr T₁) fun _ _ x => x
theorem E_cmp {l r : Expr} {op : CmpOp} {pos : Pos} (Z : EvOk Γ n) (h : EV W Γ l σ fun a σ₁ => EV W Γ r σ₁ fun b σ₂ => CmpOk W n op a b σ₂.os fun c os' => K c { σ₂ with os := os' })
    (hm : behindInMarks op r = false := by with_unfolding_all rfl) : EV W Γ (.Compare l [op] [r] pos) σ K := by
  intro s ρ H
  refine wpAny_Compare1 (wpAny_mono (h s ρ H) (fun a s₁ h₁ => ?_) fun _ _ x => x) hm
  obtain ⟨ρ₁, av, σ₁, H₁, T₁, R₁, k₁⟩ := h₁
  refine wpAny_mono (k₁ s₁ ρ₁ H₁) (fun b s₂ h₂ => ?_) fun _ _ x => x
  obtain ⟨ρ₂, bv, σ₂, H₂, T₂, R₂, k₂⟩ := h₂
  exact wpAny_mono (k₂ Γ.A s₂ ρ₂ a b Z.room H₂.1 (R₁.tr T₂) R₂) (fun v s₃ h₃ => ((RV.of_RO H₂ h₃).tr T₂).tr T₁) fun _ _ x => x

/-! ### tests -/
def bsel (c : Bool) (A B : Prop) : Prop := match c with
  | true => A
  | false => B
theorem bsel_true {A B : Prop} (h : A) : bsel true A B := h
theorem bsel_false {A B : Prop} (h : B) : bsel false A B := h
theorem bsel_dec {p : Prop} [Decidable p] {A B : Prop} (h1 : p → A) (h2 : ¬ p → B) : bsel (decide p) A B := by
  by_cases h : p
  · rw [decide_eq_true h]; exact h1 h
  · rw [decide_eq_false h]; exact h2 h
theorem bsel_case {c : Bool} {A B : Prop} (h1 : c = true → A) (h2 : c = false → B) : bsel c A B := by
  cases c
  · exact h2 rfl
  · exact h1 rfl
def seqK (W : Wd) (Γ : Ev) (r : List Stmt) (K : AFlow → St → Prop) : AFlow → St → Prop
  | .next, σ => EX W Γ r σ K
  | .brk, σ => K .brk σ
  | .cont, σ => K .cont σ
  | .ret a, σ => K (.ret a) σ
theorem seqK_next {r : List Stmt} {K : AFlow → St → Prop} {σ : St} (h : EX W Γ r σ K) : seqK W Γ r K .next σ := h
theorem seqK_ret {r : List Stmt} {K : AFlow → St → Prop} {σ : St} {a : AV} (h : K (.ret a) σ) : seqK W Γ r K (.ret a) σ := h
theorem seqK_brk {r : List Stmt} {K : AFlow → St → Prop} {σ : St} (h : K .brk σ) : seqK W Γ r K .brk σ := h
theorem seqK_cont {r : List Stmt} {K : AFlow → St → Prop} {σ : St} (h : K .cont σ) : seqK W Γ r K .cont σ := h
theorem T_value {e : Expr} {K : Bool → St → Prop} (Z : EvOk Γ n) (h : EV W Γ e σ fun a σ₁ => TruthOk W n a σ₁.os fun b => K b σ₁)
    (he : isTrue e Γ.env (eval e Γ.env) = (do let v ← eval e Γ.env; standAt e.pos; holding [v] (truthy v)) := by rfl) : TE W Γ e σ K := by
  intro s ρ H
  refine wpAny_isTrue_value (wpAny_mono (h s ρ H) (fun v s₁ h₁ => ?_) fun _ _ x => x) he
  obtain ⟨ρ₁, av, σ₁, H₁, T₁, R₁, k₁⟩ := h₁
  refine wpAny_mono (k₁ Γ.A s₁ ρ₁ v Z.room H₁.1 R₁) (fun b s₂ h₂ => ?_) fun _ _ x => x
  obtain ⟨ρ₂, os', H₂, T₂, rfl, k⟩ := h₂
  obtain ⟨x, y⟩ := H₁.step H₂ T₂
  exact ⟨ρ₂, _, x, T₁.trans y, k⟩
theorem T_cmp {l r : Expr} {op : CmpOp} {pos : Pos} {K : Bool → St → Prop} (Z : EvOk Γ n) (h : EV W Γ l σ fun a σ₁ => EV W Γ r σ₁ fun b σ₂ => CmpOk W n op a b σ₂.os fun c os' => ∃ t, c = .bool t ∧ K t { σ₂ with os := os' })
    (hm : behindInMarks op r = false := by with_unfolding_all rfl) : TE W Γ (.Compare l [op] [r] pos) σ K := by
  intro s ρ H
  refine wpAny_isTrue_Compare1 (wpAny_mono (h s ρ H) (fun a s₁ h₁ => ?_) fun _ _ x => x) hm
  obtain ⟨ρ₁, av, σ₁, H₁, T₁, R₁, k₁⟩ := h₁
  refine wpAny_mono (k₁ s₁ ρ₁ H₁) (fun b s₂ h₂ => ?_) fun _ _ x => x
  obtain ⟨ρ₂, bv, σ₂, H₂, T₂, R₂, k₂⟩ := h₂
  refine wpAny_mono (k₂ Γ.A s₂ ρ₂ a b Z.room H₂.1 (R₁.tr T₂) R₂) (fun v s₃ h₃ => ?_) fun _ _ x => x
  obtain ⟨ρ₃, cv, os', H₃, T₃, R₃, t, rfl, k₃⟩ := h₃
  cases R₃
  refine wpAny_truthy_bool ?_
  obtain ⟨x, y⟩ := H₂.step H₃ T₃
  exact ⟨ρ₃, _, x, T₁.trans (T₂.trans y), k₃⟩
theorem T_not {e : Expr} {pos : Pos} {K : Bool → St → Prop} (h : TE W Γ e σ fun b σ₁ => K (!b) σ₁) : TE W Γ (.UnaryOp .Not e pos) σ K := fun s ρ H =>
  wpAny_isTrue_Not (wpAny_mono (h s ρ H) (fun _ _ ⟨ρ', σ', a, b, c⟩ => ⟨ρ', σ', a, b, c⟩) fun _ _ x => x)

def TAnd (W : Wd) (Γ : Ev) : List Expr → St → (Bool → St → Prop) → Prop
  | [], σ, K => K true σ
  | e :: r, σ, K => TE W Γ e σ fun b σ₁ => bsel b (TAnd W Γ r σ₁ K) (K false σ₁)
def TOr (W : Wd) (Γ : Ev) : List Expr → St → (Bool → St → Prop) → Prop
  | [], σ, K => K false σ
  | e :: r, σ, K => TE W Γ e σ fun b σ₁ => bsel b (K true σ₁) (TOr W Γ r σ₁ K)
theorem tand_go {K : Bool → St → Prop} : ∀ {es σ}, TAnd W Γ es σ K → ∀ s ρ, Abs W Γ σ ρ s → wpAny (model W.prog W.w) Γ.A (allTrue .And es Γ.env) (RB W Γ s ρ K) NoE s
  | [], σ, h, s, ρ, H => wpAny_allTrue_And_nil ⟨ρ, σ, H, .refl .., h⟩
  | e :: r, σ, h, s, ρ, H => by
    refine wpAny_allTrue_And_cons (wpAny_mono (h s ρ H) (fun b s₁ h₁ => ?_) fun _ _ x => x)
    obtain ⟨ρ₁, σ₁, H₁, T₁, k₁⟩ := h₁
    cases b with
    | false => exact ⟨ρ₁, σ₁, H₁, T₁, k₁⟩
    | true =>
      refine wpAny_mono (tand_go (es := r) k₁ s₁ ρ₁ H₁) (fun b s₂ h₂ => ?_) fun _ _ x => x
      obtain ⟨ρ₂, σ₂, H₂, T₂, k₂⟩ := h₂
      exact ⟨ρ₂, σ₂, H₂, T₁.trans T₂, k₂⟩
theorem T_and {es : List Expr} {pos : Pos} {K : Bool → St → Prop} (h : TAnd W Γ es σ K) : TE W Γ (.BoolOp .And es pos) σ K := fun s ρ H => wpAny_isTrue_BoolOp (tand_go h s ρ H)
theorem tor_go {K : Bool → St → Prop} : ∀ {es σ}, TOr W Γ es σ K → ∀ s ρ, Abs W Γ σ ρ s → wpAny (model W.prog W.w) Γ.A (allTrue .Or es Γ.env) (RB W Γ s ρ K) NoE s
  | [], σ, h, s, ρ, H => wpAny_allTrue_Or_nil ⟨ρ, σ, H, .refl .., h⟩
  | e :: r, σ, h, s, ρ, H => by
    refine wpAny_allTrue_Or_cons (wpAny_mono (h s ρ H) (fun b s₁ h₁ => ?_) fun _ _ x => x)
    obtain ⟨ρ₁, σ₁, H₁, T₁, k₁⟩ := h₁
    cases b with
    | true => exact ⟨ρ₁, σ₁, H₁, T₁, k₁⟩
    | false =>
      refine wpAny_mono (tor_go (es := r) k₁ s₁ ρ₁ H₁) (fun b s₂ h₂ => ?_) fun _ _ x => x
      obtain ⟨ρ₂, σ₂, H₂, T₂, k₂⟩ := h₂
      exact ⟨ρ₂, σ₂, H₂, T₁.trans T₂, k₂⟩
theorem T_or {es : List Expr} {pos : Pos} {K : Bool → St → Prop} (h : TOr W Γ es σ K) : TE W Γ (.BoolOp .Or es pos) σ K := fun s ρ H => wpAny_isTrue_BoolOp (tor_go h s ρ H)

theorem E_ifexp {t b o : Expr} {pos : Pos} (h : TE W Γ t σ fun c σ₁ => bsel c (EV W Γ b σ₁ K) (EV W Γ o σ₁ K)) : EV W Γ (.IfExp t b o pos) σ K := by
  intro s ρ H
  refine wpAny_IfExp (wpAny_mono (h s ρ H) (fun c s₁ h₁ => ?_) fun _ _ x => x)
  obtain ⟨ρ₁, σ₁, H₁, T₁, k₁⟩ := h₁
  cases c with
  | true => exact wpAny_mono (show wpAny _ _ _ _ _ _ from k₁ s₁ ρ₁ H₁) (fun v s₂ h₂ => h₂.tr T₁) fun _ _ x => x
  | false => exact wpAny_mono (show wpAny _ _ _ _ _ _ from k₁ s₁ ρ₁ H₁) (fun v s₂ h₂ => h₂.tr T₁) fun _ _ x => x

/-! ### arguments -/
theorem Es_nil {K : List AV → St → Prop} (h : K [] σ) : EVs W Γ [] σ K := fun pos s ρ H => spliced_none ⟨ρ, [], σ, H, .refl .., .nil, h⟩
theorem Es_cons {e : Expr} {r : List Expr} {K : List AV → St → Prop} (h : EV W Γ e σ fun a σ₁ => EVs W Γ r σ₁ fun l σ₂ => K (a :: l) σ₂)
    (he : starEach (e :: r) Γ.env = (false, eval e Γ.env) :: starEach r Γ.env := by rfl) : EVs W Γ (e :: r) σ K := by
  intro pos s ρ H
  refine spliced_more (wpAny_mono (h s ρ H) (fun v s₁ h₁ => ?_) fun _ _ x => x) he
  obtain ⟨ρ₁, av, σ₁, H₁, T₁, R₁, k₁⟩ := h₁
  refine wpAny_mono (k₁ pos s₁ ρ₁ H₁) (fun b s₂ h₂ => ?_) fun _ _ x => x
  obtain ⟨ρ₂, bv, σ₂, H₂, T₂, R₂, k₂⟩ := h₂
  exact ⟨ρ₂, _, σ₂, H₂, T₁.trans T₂, .cons (R₁.tr T₂) R₂, k₂⟩

/-! ### statements -/
theorem X_nil {K : AFlow → St → Prop} (h : K .next σ) : EX W Γ [] σ K := fun s ρ H => wpAny_execs_nil ⟨ρ, .next, σ, H, .refl .., .next, h⟩
theorem X_cons {st : Stmt} {r : List Stmt} {K : AFlow → St → Prop} (h : EX1 W Γ st σ (seqK W Γ r K)) : EX W Γ (st :: r) σ K := by
  intro s ρ H
  refine wpAny_execs_cons (wpAny_mono (h s ρ H) (fun f s₁ h₁ => ?_) fun _ _ x => x)
  obtain ⟨ρ₁, af, σ₁, H₁, T₁, R₁, k₁⟩ := h₁
  cases R₁ with
  | next => exact wpAny_mono (show wpAny _ _ _ _ _ _ from k₁ s₁ ρ₁ H₁) (fun v s₂ h₂ => h₂.tr T₁) fun _ _ x => x
  | brk => exact ⟨ρ₁, .brk, σ₁, H₁, T₁, .brk, k₁⟩
  | cont => exact ⟨ρ₁, .cont, σ₁, H₁, T₁, .cont, k₁⟩
  | ret a v r => exact ⟨ρ₁, .ret a, σ₁, H₁, T₁, .ret a v r, k₁⟩
theorem X_ret {e : Expr} {pos : Pos} {K : AFlow → St → Prop} (h : EV W Γ e σ fun a σ₁ => K (.ret a) σ₁) : EX1 W Γ (.Return (some e) pos) σ K := by
  intro s ρ H
  refine wpAny_Return_some (wpAny_mono (h s ρ H) (fun v s₁ h₁ => ?_) fun _ _ x => x)
  obtain ⟨ρ₁, av, σ₁, H₁, T₁, R₁, k₁⟩ := h₁
  exact ⟨ρ₁, _, σ₁, H₁, T₁.P H.2.2, .ret _ _ R₁, k₁⟩
theorem X_if {t : Expr} {b o : List Stmt} {pos : Pos} {K : AFlow → St → Prop} (h : TE W Γ t σ fun c σ₁ => bsel c (EX W Γ b σ₁ K) (EX W Γ o σ₁ K)) : EX1 W Γ (.If t b o pos) σ K := by
  intro s ρ H
  refine wpAny_If (wpAny_mono (h s ρ H) (fun c s₁ h₁ => ?_) fun _ _ x => x)
  obtain ⟨ρ₁, σ₁, H₁, T₁, k₁⟩ := h₁
  cases c with
  | true => exact wpAny_mono (show wpAny _ _ _ _ _ _ from k₁ s₁ ρ₁ H₁) (fun v s₂ h₂ => h₂.tr (T₁.P H.2.2)) fun _ _ x => x
  | false => exact wpAny_mono (show wpAny _ _ _ _ _ _ from k₁ s₁ ρ₁ H₁) (fun v s₂ h₂ => h₂.tr (T₁.P H.2.2)) fun _ _ x => x
theorem X_expr {e : Expr} {pos : Pos} {K : AFlow → St → Prop} (Z : EvOk Γ n) (h : EV W Γ e σ fun _ σ₁ => K .next σ₁) (hs : swapsWith e none pos.line Γ.env = pure false := by rfl) : EX1 W Γ (.Expr e pos) σ K := by
  intro s ρ H
  refine wpAny_Expr_any (wpAny_mono (h s ρ H) (fun v s₁ h₁ => ?_) fun _ _ x => x) (by unfold interactive; rw [Z.kind]; rfl) hs
  obtain ⟨ρ₁, av, σ₁, H₁, T₁, R₁, k₁⟩ := h₁
  exact ⟨ρ₁, _, σ₁, H₁, T₁.P H.2.2, .next, k₁⟩

/-- a local is stored -/
theorem store_local {x : Str} {a : AV} {v : Value} {fr' : List (Option AV)} {s : Shared} {ρ : List Addr} {Q : Unit → Shared → Prop} (Z : EvOk Γ n) (hx : Put x a Γ.nm σ.fr fr') (H : Abs W Γ σ ρ s) (O : WdOk W) (R : Rel s.heap ρ a v)
    (h : ∀ s', Abs W Γ { σ with fr := fr' } ρ s' → Trans Γ.U s s' ρ ρ → Q () s') : wpAny (model W.prog W.w) Γ.A (storeName Γ.env x v) Q NoE s := by
  obtain ⟨m, F, l⟩ := H.2.1.ex
  refine wpAny_storeName_local (Z.loc x hx.mem) F.ns (fun h' hn hs => ?_) (by rw [Z.kind]; rfl)
  have hL : Γ.env.locals ∉ ρ := H.2.1.off _ (.head _)
  have hk : ∀ b o, b ≠ Γ.env.locals → s.heap.get? b = some o → h'.get? b = some o := fun b o hb e => (hs.2 b hb).trans e
  have hsol : ∀ b o, Solid o → s.heap.get? b = some o → h'.get? b = some o := fun b o so e => hk b o (fun q => H.2.1.notSolid (.head _) (q ▸ e) so) e
  have hz : ∀ a, h'.get? a = none → s.heap.get? a = none := fun a e => by
    by_cases hb : a = Γ.env.locals
    · obtain ⟨o, _, _, e', _⟩ := hn; exact (ne_none e' (hb ▸ e)).elim
    · exact (hs.2 a hb).symm.trans e
  have hrel : ∀ a v, Rel s.heap ρ a v → Rel h' ρ a v := fun a v r => r.mono hsol fun _ _ e => e
  refine h _ ⟨⟨fun b o e => ?_, H.1.nd, H.1.len, H.1.off, fun k o e => ?_, H.1.gens, H.1.os⟩, ⟨⟨_, F.set hn hs, LocalsAre.put (hrel _ _ R) Z.nd (l.mono hrel) hx⟩, ?_, H.2.1.off, H.2.1.coff⟩, H.2.2⟩ ⟨⟨[], by simp, fun _ h => nomatch h⟩, fun b o hb _ e => hk b o (fun q => hb (q ▸ .head _)) e, hsol, hz⟩
  · exact (F.set hn hs).keep b o e
  · obtain ⟨b, h1, h2⟩ := H.1.objs k o e
    exact ⟨b, h1, h2.mono O hsol (fun _ _ e => e) fun o' => hk b o' fun q => hL (q ▸ List.mem_of_getElem? h1)⟩
  · exact H.2.1.cells.mono hrel fun p hp o => hk _ o (H.2.1.coff p hp).1

theorem X_assign {x : Str} {p₁ pos : Pos} {e : Expr} {K : AFlow → St → Prop} (O : WdOk W) (Z : EvOk Γ n) (h : EV W Γ e σ fun a σ₁ => ∃ fr', Put x a Γ.nm σ₁.fr fr' ∧ K .next { σ₁ with fr := fr' })
    (hs : swapsWith e (some (.Name x p₁)) pos.line Γ.env = pure false := by rfl) : EX1 W Γ (.Assign [.Name x p₁] e pos) σ K := by
  intro s ρ H
  refine wpAny_Assign_Name (wpAny_mono (h s ρ H) (fun v s₁ h₁ => ?_) fun _ _ x => x) hs
  obtain ⟨ρ₁, av, σ₁, H₁, T₁, R₁, fr', hp, k₁⟩ := h₁
  exact store_local Z hp H₁ O R₁ fun s' H' T' => ⟨ρ₁, .next, _, H', (T₁.trans T').P H.2.2, .next, k₁⟩
theorem A_local {x : Str} {p₁ : Pos} {a : AV} {fr' : List (Option AV)} {K : St → Prop} (O : WdOk W) (Z : EvOk Γ n) (hp : Put x a Γ.nm σ.fr fr') (h : K { σ with fr := fr' }) : AS W Γ (.Name x p₁) a σ K := by
  intro s ρ v H R
  exact wpAny_assign_Name (store_local Z hp H O R fun s' H' T' => ⟨ρ, _, H', T', h⟩)
end

end Mine
end

section
open PySem PySem.W PyProof.Rows
set_option Elab.async false
set_option maxRecDepth 100000
set_option linter.unusedVariables false
namespace Mine

theorem sizeLine_num : sizeLine = 16777216 := sizeLine_eq
theorem S_len (l : List Nat) : (S l).length = l.length := by show (l.toArray).size = _; simp
theorem S_append (l l' : List Nat) : S l ++ S l' = S (l ++ l') := by
  apply Str.ext'
  show (l.toArray ++ l'.toArray) = (l ++ l').toArray
  simp
theorem S_inj {l l' : List Nat} (h : S l = S l') : l = l' := by
  have := congrArg (fun x : Str => x.cps.toList) h
  simpa using this
theorem S_beq (l l' : List Nat) : (S l == S l') = decide (l = l') := by
  rw [Bool.eq_iff_iff]
  simp only [beq_iff_eq, decide_eq_true_eq]
  exact ⟨S_inj, fun h => h ▸ rfl⟩
theorem S_bne (l l' : List Nat) : (S l != S l') = decide (l ≠ l') := by
  show (!(S l == S l')) = _
  rw [S_beq]; simp

section
variable {W : Wd} {n : Nat} {os : List AO} {ρ : List Addr} {s : Shared} {K : AV → List AO → Prop}

theorem RO.grown (O : WdOk W) (H : AbsO W os ρ s) {s' : Shared} {v : Value} {av : AV} (hk : ∀ b o, s.heap.get? b = some o → s'.heap.get? b = some o)
    (hg : s'.gens = s.gens) (ho : s'.os = s.os) (R : Rel s'.heap ρ av v) (h : K av os) : RO W s ρ K v s' := by
  obtain ⟨a, b⟩ := H.grow O hk (hg ▸ H.gens) ho
  exact ⟨ρ, av, os, a, b, R, h⟩
theorem RO.toks (O : WdOk W) (H : AbsO W os ρ s) {v : Value} {av : AV} {tk : Nat} (R : Rel s.heap ρ av v) (h : K av os) : RO W s ρ K v { s with toks := tk } := RO.grown O H (fun _ _ e => e) rfl rfl R h
theorem RO.same (O : WdOk W) (H : AbsO W os ρ s) {v : Value} {av : AV} (R : Rel s.heap ρ av v) (h : K av os) : RO W s ρ K v s := ⟨ρ, av, os, H, .refl .., R, h⟩
theorem RO.tr {s₁ s₂ : Shared} {ρ ρ₁ : List Addr} {v : Value} (T : Trans [] s s₁ ρ ρ₁) (h : RO W s₁ ρ₁ K v s₂) : RO W s ρ K v s₂ := by
  obtain ⟨ρ', av, os', a, b, c, d⟩ := h
  exact ⟨ρ', av, os', a, T.trans b, c, d⟩

/-! ### arithmetic -/
theorem B_add (O : WdOk W) {a b : Int} (h : K (.int (a + b)) os) : BinOk W n .Add (.int a) (.int b) os K := by
  intro A s ρ v u R H r1 r2; cases r1; cases r2
  exact PyProof.Rows.add_int (RO.toks O H (.int _ _) h)
theorem B_sub (O : WdOk W) {a b : Int} (h : K (.int (a - b)) os) : BinOk W n .Sub (.int a) (.int b) os K := by
  intro A s ρ v u R H r1 r2; cases r1; cases r2
  exact PyProof.Rows.sub_int (RO.toks O H (.int _ _) h)
theorem mulOk_of_nat {a b : Int} (hm : a.natAbs < 2 ^ 62 ∨ b.natAbs < 2 ^ 62) : IntMulOk a b := by
  have key : ∀ x : Int, x.natAbs < 2 ^ 62 → Builtin.Int.intBits x ≤ 64 := by
    intro x hx
    unfold Builtin.Int.intBits
    split
    · omega
    · rename_i h0
      have h1 : x ≠ 0 := by simpa using h0
      have : x.natAbs.log2 < 62 := (Nat.log2_lt (by omega)).mpr hx
      omega
  rcases hm with h | h
  · exact .of_left (key _ h)
  · exact .of_right (key _ h)
theorem B_mul (O : WdOk W) {a b : Int} (hm : a.natAbs < 2 ^ 62 ∨ b.natAbs < 2 ^ 62) (h : K (.int (a * b)) os) : BinOk W n .Mult (.int a) (.int b) os K := by
  intro A s ρ v u R H r1 r2; cases r1; cases r2
  exact PyProof.Rows.mul_int (RO.toks O H (.int _ _) h) (mulOk_of_nat hm)
theorem B_fdiv (O : WdOk W) {a b : Int} (hb : b ≠ 0) (hs : b.natAbs < 1073741824) (h : K (.int (a.fdiv b)) os) : BinOk W n .FloorDiv (.int a) (.int b) os K := by
  intro A s ρ v u R H r1 r2; cases r1; cases r2
  exact PyProof.Rows.floordiv_int hb (RO.toks O H (.int _ _) h) (.inl (PyProof.noPylong_small hs))
theorem B_mod (O : WdOk W) {a b : Int} (hb : b ≠ 0) (h : K (.int (a.fmod b)) os) : BinOk W n .Mod (.int a) (.int b) os K := by
  intro A s ρ v u R H r1 r2; cases r1; cases r2
  exact PyProof.Rows.mod_int hb (RO.toks O H (.int _ _) h)
theorem B_pow (O : WdOk W) {a b : Int} (hb : 0 ≤ b) (hb2 : b ≤ 1000000) (ha : a.natAbs < 2 ^ 64) (h : K (.int (a ^ b.toNat)) os) : BinOk W n .Pow (.int a) (.int b) os K := by
  intro A s ρ v u R H r1 r2; cases r1; cases r2
  exact PyProof.Rows.pow_int_small hb hb2 ha (RO.toks O H (.int _ _) h)
theorem B_cat (O : WdOk W) {a b : List Nat} (hs : a.length + b.length ≤ 16777216) (h : K (.str (a ++ b)) os) : BinOk W n .Add (.str a) (.str b) os K := by
  intro A s ρ v u R H r1 r2; cases r1; cases r2
  refine PyProof.Rows.add_str (fun t' tk => ?_) (by rw [S_len, S_len, sizeLine_num]; exact hs)
  rw [S_append]
  exact RO.toks O H (.str _ _) h

theorem reps_toList (c : List Nat) : ∀ (k : Nat) (acc : Array Nat), ((List.replicate k c.toArray).foldl (· ++ ·) acc).toList = acc.toList ++ (List.replicate k c).flatten
  | 0, acc => by simp
  | k + 1, acc => by
    rw [List.replicate_succ, List.foldl_cons, reps_toList c k]
    simp [List.replicate_succ]
theorem B_rep (O : WdOk W) {a : List Nat} {k : Int} (h0 : 0 ≤ k) (hk : k ≤ 100) (hs : a.length ≤ 1000) (h : K (.str (List.replicate k.toNat a).flatten) os) : BinOk W n .Mult (.str a) (.int k) os K := by
  intro A s ρ v u R H r1 r2; cases r1; cases r2
  rename_i t u
  have hp : a.length * k.toNat ≤ 1000 * 100 := Nat.mul_le_mul hs (by omega)
  refine PySem.P.mul_str (by simp; omega) (fun h1 _ => ?_) (fun _ _ => ?_) ?_
  · rw [S_len]
    have : (1000 : Int) ≤ (2 ^ 63 - 1) / k := by
      rw [Int.le_ediv_iff_mul_le (by omega)]; omega
    omega
  · rw [S_len]
    show decide (a.length * k.toNat > sizeLine) = false
    rw [sizeLine_num]
    exact decide_eq_false (by omega)
  · split
    · rename_i h1
      have : k.toNat = 0 := by omega
      rw [this] at h
      exact ⟨by decide, RO.toks O H (by exact Rel.str [] _) h⟩
    · split
      · rename_i h1 h2
        rw [S_len] at h2
        have : (List.replicate k.toNat a).flatten = a := by
          rcases Bool.or_eq_true_iff.mp h2 with q | q
          · have : k.toNat = 1 := by have := of_decide_eq_true q; omega
            rw [this]; simp
          · have : a = [] := List.length_eq_zero_iff.mp (by simpa using q)
            subst this; simp
        rw [this] at h
        exact RO.same O H (.str _ _) h
      · have e := reps_toList a k.toNat #[]
        have e2 : (⟨(List.replicate k.toNat (S a).cps).foldl (· ++ ·) #[]⟩ : Str) = S (List.replicate k.toNat a).flatten := by
          apply Str.ext'
          apply Array.ext'
          rw [e]; simp
        refine ⟨?_, ?_⟩
        · rw [e2, S_len, List.length_flatten, List.map_replicate, List.sum_replicate_nat, sizeLine_num]
          rw [Nat.mul_comm]; omega
        · rw [e2]
          exact RO.toks O H (.str _ _) h

/-! ### comparisons -/
theorem C_eq (O : WdOk W) {a b : Int} (h : K (.bool (decide (a = b))) os) : CmpOk W n .Eq (.int a) (.int b) os K := by
  intro A s ρ v u R H r1 r2; cases r1; cases r2
  exact PyProof.Rows.eq_int (RO.same O H (.bool _) h)
theorem C_ne (O : WdOk W) {a b : Int} (h : K (.bool (decide (a ≠ b))) os) : CmpOk W n .NotEq (.int a) (.int b) os K := by
  intro A s ρ v u R H r1 r2; cases r1; cases r2
  refine PyProof.Rows.ne_int ?_
  have : (a != b) = decide (a ≠ b) := by simp [bne, Bool.beq_eq_decide_eq]
  rw [this]
  exact RO.same O H (.bool _) h
theorem C_lt (O : WdOk W) {a b : Int} (h : K (.bool (decide (a < b))) os) : CmpOk W n .Lt (.int a) (.int b) os K := by
  intro A s ρ v u R H r1 r2; cases r1; cases r2
  exact PyProof.Rows.lt_int (RO.same O H (.bool _) h)
theorem C_gt (O : WdOk W) {a b : Int} (h : K (.bool (decide (b < a))) os) : CmpOk W n .Gt (.int a) (.int b) os K := by
  intro A s ρ v u R H r1 r2; cases r1; cases r2
  exact PyProof.Rows.gt_int (RO.same O H (.bool _) h)
theorem C_seq (O : WdOk W) {a b : List Nat} (h : K (.bool (decide (a = b))) os) : CmpOk W n .Eq (.str a) (.str b) os K := by
  intro A s ρ v u R H r1 r2; cases r1; cases r2
  refine PyProof.Rows.eq_str ?_
  rw [S_beq]
  exact RO.same O H (.bool _) h
theorem C_sne (O : WdOk W) {a b : List Nat} (h : K (.bool (decide (a ≠ b))) os) : CmpOk W n .NotEq (.str a) (.str b) os K := by
  intro A s ρ v u R H r1 r2; cases r1; cases r2
  refine PyProof.Rows.ne_str ?_
  rw [S_bne]
  exact RO.same O H (.bool _) h

/-! ### truth -/
theorem Tr_int {i : Int} {K : Bool → Prop} (h : K (decide (i ≠ 0))) : TruthOk W n (.int i) os K := by
  intro A s ρ v R H r; cases r
  refine PyProof.Rows.truthy_int ?_
  have : (i != 0) = decide (i ≠ 0) := by simp [bne, Bool.beq_eq_decide_eq]
  rw [this]
  exact ⟨ρ, os, H, .refl .., rfl, h⟩
theorem Tr_str (O : WdOk W) {l : List Nat} {K : Bool → Prop} (hl : l.length ≤ 16777216) (h : K (decide (l ≠ []))) : TruthOk W n (.str l) os K := by
  intro A s ρ v R H r; cases r
  refine PySem.P.truthy_str (by rw [S_len]; omega) ?_
  have : (((S l).length : Int) != 0) = decide (l ≠ []) := by
    rw [S_len, Bool.eq_iff_iff]
    simp [bne_iff_ne]
  rw [this]
  obtain ⟨a, b⟩ := H.grow O (s' := { s with toks := s.toks + 1 + 1 }) (fun _ _ e => e) H.gens rfl
  exact ⟨ρ, os, a, b, rfl, h⟩
end

end Mine
end

section
open PySem PySem.W PyProof.Rows
set_option Elab.async false
set_option maxRecDepth 100000
set_option linter.unusedVariables false
namespace Mine

/-! ## calls -/
inductive GlobIs (W : Wd) (x : Str) (v : Value) : Prop
  | own : W.mg x = some v → GlobIs W x v
  | boot : W.mg x = none → bootBuiltins x = some v → x ≠ "__name__" → GlobIs W x v

def CallV (W : Wd) (n : Nat) (f : Value) (avs : List AV) (os : List AO) (K : AV → List AO → Prop) : Prop :=
  ∀ A s ρ vs, Room n A → AbsO W os ρ s → RelL s.heap ρ avs vs → wpAny (model W.prog W.w) A (call f vs []) (RO W s ρ K) NoE s
def KeepOk (W : Wd) (f : Value) : Prop := ∀ A os ρ s, AbsO W os ρ s → wpAny (model W.prog W.w) A (keeperOf f) (fun _ s' => s' = s) NoE s

theorem keep_builtin {W : Wd} {id : String} : KeepOk W (.builtin id) := fun A os ρ s H => wpAny_pure rfl
theorem keep_type {W : Wd} {T : String} : KeepOk W (.type T) := fun A os ρ s H => wpAny_pure rfl
theorem keep_fn {W : Wd} {a : Addr} {o : Obj} {fd : FuncData} (ho : W.base.get? a = some o) (hd : o.data = .func fd) : KeepOk W (.ref a) := fun A os ρ s H => by
  unfold keeperOf
  refine wpAny_bind (wpAny_load (H.keep _ _ ho) ?_)
  rw [hd]
  exact wpAny_pure rfl

theorem callWith_any {M : Model} {A : Around} {E : Value → Shared → Prop} {s : Shared} {pos : Pos} {f : Value} {first : List Value} {args : List (Bool × Sem Value)} {Q : Value → Shared → Prop} (hplain : args.any (·.1) = false)
    (h : wpAny M A (evalArgs f true args []) (fun a s₁ => wpAny M A (keeperOf f) (fun _ s₂ => wpAny M A (call f (first ++ a.pos) a.kw) Q E s₂) E s₁) E s) : wpAny M A (callWith pos f first args []) Q E s := by
  unfold callWith
  refine wpAny_bind (wpAny_holding (wpAny_mono h (fun x s₁ h₁ => wpAny_bind (wpAny_standAt ?_)) fun _ _ x => x))
  have tail : ∀ {s₂ : Shared} {t : Sem Value}, wpAny M A t Q E s₂ → wpAny M A (t >>= fun r => holding [r] point >>= fun _ => pure r) Q E s₂ :=
    fun ht => wpAny_bind (wpAny_mono ht (fun r s₂ hr => wpAny_bind (wpAny_holding (wpAny_point (wpAny_pure hr)))) fun _ _ x => x)
  simp only [hplain, List.any_nil, Bool.or_false]
  refine wpAny_bind (m := keeperOf f) (wpAny_mono h₁ (fun k s₂ h₂ => ?_) fun _ _ x => x)
  cases k with
  | frame =>
    by_cases hc : args.length + 2 * ([] : List (Option Str × Sem Value)).length > 30
    · simp only [hc, if_true]; exact tail h₂
    · simp only [hc, if_false]; exact tail (by unfold callMarked; exact Calls.wpAny_keep h₂)
  | boundFrame =>
    by_cases hc : args.length + 2 * ([] : List (Option Str × Sem Value)).length > 30
    · simp only [hc, if_true]; exact tail h₂
    · simp only [hc, if_false]; exact tail (by unfold callMarked; exact Calls.wpAny_keep h₂)
  | machine => exact tail h₂
  | caller => exact tail (wpAny_operating h₂)

theorem evalArgs_of {M : Model} {A : Around} {E : Value → Shared → Prop} {s : Shared} {env : Env} {pos : Pos} {f : Value} {es : List Expr} {Q : Args → Shared → Prop} (hplain : (backTo pos (starEach es env)).any (·.1) = false)
    (h : wpAny M A (spliced (backTo pos (starEach es env))) (fun vs s₁ => Q ⟨vs, []⟩ s₁) E s) : wpAny M A (evalArgs f true (backTo pos (starEach es env)) []) Q E s := by
  generalize backTo pos (starEach es env) = t at h hplain ⊢
  match t, hplain with
  | [], _ =>
    unfold evalArgs
    show wpAny M A (spliced [] >>= _) Q E s
    refine wpAny_bind (wpAny_mono h (fun vs s₁ h₁ => ?_) fun _ _ x => x)
    refine wpAny_bind (wpAny_pure ?_)
    refine wpAny_holding ?_
    exact wpAny_bind (wpAny_pure (wpAny_bind (wpAny_pure (wpAny_pure h₁))))
  | (false, x) :: r, _ => exact Calls.evalArgs_plain h

section
variable {W : Wd} {Γ : Ev} {n : Nat} {σ : St} {K : AV → St → Prop}

theorem glob_load (O : WdOk W) (Z : EvOk Γ n) {x : Str} {v : Value} {s : Shared} {ρ : List Addr} {os : List AO} {Q : Value → Shared → Prop} (H : AbsO W os ρ s) (hx : GlobIs W x v) (h : Q v s) : wpAny (model W.prog W.w) Γ.A (loadGlobal Γ.env x) Q NoE s := by
  have hg : s.heap.Ns Γ.env.globals W.mg := by rw [Z.glob]; exact O.g.keeps H.keep
  cases hx with
  | own e => exact Calls.loadGlobal_global hg e h
  | boot e1 e2 e3 => exact Calls.loadGlobal_builtin hg e1 (by rw [Z.bins]; exact O.b.keeps H.keep) ((O.bi x e3).trans e2) h
theorem name_glob (O : WdOk W) (Z : EvOk Γ n) {x : Str} {pos : Pos} {v : Value} {s : Shared} {ρ : List Addr} {os : List AO} {Q : Value → Shared → Prop} (H : AbsO W os ρ s) (hm : x ∈ Γ.gn) (hx : GlobIs W x v) (h : Q v s) :
    wpAny (model W.prog W.w) Γ.A (eval (.Name x pos) Γ.env) Q NoE s :=
  Calls.Name_function_global Z.kind (Z.gl x hm) (glob_load O Z H hx h) (Z.dbg x (by simp [hm]))
theorem E_gint (O : WdOk W) (Z : EvOk Γ n) {x : Str} {pos : Pos} {i : Int} {t : Tok} (hm : x ∈ Γ.gn) (hx : GlobIs W x (.int i t)) (h : K (.int i) σ) : EV W Γ (.Name x pos) σ K :=
  fun s ρ H => name_glob O Z H.1 hm hx ⟨ρ, .int i, σ, H, .refl .., .int _ _, h⟩
theorem E_call (O : WdOk W) (Z : EvOk Γ n) {x : Str} {np pos : Pos} {es : List Expr} {f : Value} (hm : x ∈ Γ.gn) (hx : GlobIs W x f) (hk : KeepOk W f)
    (h : EVs W Γ es σ fun avs σ₁ => CallV W n f avs σ₁.os fun c os' => K c { σ₁ with os := os' }) (hp : ∀ pos, (backTo pos (starEach es Γ.env)).any (·.1) = false := by intro _; rfl) : EV W Γ (.Call (.Name x np) es [] pos) σ K := by
  intro s ρ H
  refine wpAny_Call_ofName (name_glob O Z H.1 hm hx ?_)
  refine callWith_any (hp pos) (evalArgs_of (hp pos) (wpAny_mono (h pos s ρ H) (fun vs s₁ h₁ => ?_) fun _ _ x => x))
  obtain ⟨ρ₁, avs, σ₁, H₁, T₁, R₁, k₁⟩ := h₁
  refine wpAny_mono (hk Γ.A σ₁.os ρ₁ s₁ H₁.1) (fun _ s₂ h₂ => ?_) fun _ _ x => x
  subst h₂
  exact wpAny_mono (k₁ Γ.A _ ρ₁ vs Z.room H₁.1 R₁) (fun v s₃ h₃ => (RV.of_RO H₁ h₃).tr T₁) fun _ _ x => x

/-! ## unary, or, tuples, lists -/
theorem E_neg (O : WdOk W) {e : Expr} {pos : Pos} (h : EV W Γ e σ fun a σ₁ => ∃ i, a = .int i ∧ K (.int (-i)) σ₁) : EV W Γ (.UnaryOp .USub e pos) σ K := by
  intro s ρ H
  refine wpAny_UnaryOp (wpAny_mono (h s ρ H) (fun v s₁ h₁ => ?_) fun _ _ x => x)
  obtain ⟨ρ₁, av, σ₁, H₁, T₁, R₁, i, rfl, k₁⟩ := h₁
  cases R₁
  refine PyProof.Rows.neg_int ?_
  obtain ⟨x, y⟩ := H₁.grow O (s' := { s₁ with toks := s₁.toks + 1 }) (fun _ _ e => e) H₁.1.gens rfl
  exact ⟨ρ₁, _, σ₁, x, T₁.trans y, .int _ _, k₁⟩

theorem E_or2 (Z : EvOk Γ n) {x y : Expr} {pos : Pos} (h : EV W Γ x σ fun a σ₁ => TruthOk W n a σ₁.os fun b => bsel b (K a σ₁) (EV W Γ y σ₁ K)) : EV W Γ (.BoolOp .Or [x, y] pos) σ K := by
  intro s ρ H
  refine wpAny_Or2 (wpAny_mono (h s ρ H) (fun v s₁ h₁ => ?_) fun _ _ x => x)
  obtain ⟨ρ₁, av, σ₁, H₁, T₁, R₁, k₁⟩ := h₁
  refine wpAny_mono (k₁ Γ.A s₁ ρ₁ v Z.room H₁.1 R₁) (fun b s₂ h₂ => ?_) fun _ _ x => x
  obtain ⟨ρ₂, os', H₂, T₂, rfl, k⟩ := h₂
  obtain ⟨x, y⟩ := H₁.step H₂ T₂
  cases b with
  | true => exact ⟨ρ₂, av, σ₁, x, T₁.trans y, R₁.tr y, k⟩
  | false => exact wpAny_mono (show wpAny _ _ _ _ _ _ from k s₂ ρ₂ x) (fun v s₃ h₃ => h₃.tr (T₁.trans y)) fun _ _ x => x

theorem push_old {h : Heap} (o : Obj) : ∀ b o', h.get? b = some o' → (h.push o).get? b = some o' := fun b o' e => Heap.get?_push_of_some o e
theorem none_at {h : Heap} : h.get? h.objs.size = none := by
  cases q : h.get? h.objs.size with
  | none => rfl
  | some o => exact absurd (Heap.lt_size q) (Nat.lt_irrefl _)

theorem E_tuple (O : WdOk W) {es : List Expr} {k : Nat} {pos : Pos} (hl : es.length ≤ 1000) (h : EVs W Γ es σ fun l σ₁ => l.length ≤ 1000 ∧ K (.tup l) σ₁) : EV W Γ (.Tuple es k pos) σ K := by
  intro s ρ H
  refine wpAny_Tuple (wpAny_mono (h pos s ρ H) (fun vs s₁ h₁ => ?_) fun _ _ x => x)
  obtain ⟨ρ₁, l, σ₁, H₁, T₁, R₁, hl, k₁⟩ := h₁
  refine ⟨by rw [R₁.length, sizeLine_num]; omega, ?_⟩
  obtain ⟨x, y⟩ := H₁.grow O (s' := { s₁ with heap := s₁.heap.push (tupO vs 0) }) (push_old _) H₁.1.gens rfl
  exact ⟨ρ₁, .tup l, σ₁, x, T₁.trans y, .tup l _ vs 0 (Heap.get?_push_size _ rfl) (R₁.tr y), k₁⟩

theorem E_list (O : WdOk W) {es : List Expr} {pos : Pos} (h : EVs W Γ es σ fun l σ₁ => l.length ≤ 1000 ∧ K (.obj σ₁.os.length) { σ₁ with os := σ₁.os ++ [.lst l] }) : EV W Γ (.List es pos) σ K := by
  intro s ρ H
  refine wpAny_List (wpAny_mono (h pos s ρ H) (fun vs s₁ h₁ => ?_) fun _ _ x => x)
  obtain ⟨ρ₁, l, σ₁, H₁, T₁, R₁, hl, k₁⟩ := h₁
  refine ⟨by rw [R₁.length, sizeLine_num]; omega, ?_⟩
  have e : (s₁.heap.push (lstO vs 0)).get? s₁.heap.objs.size = some (lstO vs 0) := Heap.get?_push_size _ rfl
  obtain ⟨x, y⟩ := H₁.1.new O (a := s₁.heap.objs.size) (o' := .lst l) (s' := { s₁ with heap := s₁.heap.push (lstO vs 0) }) none_at (push_old _)
    ⟨vs, 0, e, R₁.mono (fun a o _ => push_old _ a o) (fun k b e => by rw [List.getElem?_append_left (List.getElem?_eq_some_iff.mp e).1]; exact e)⟩ H₁.1.gens rfl
  obtain ⟨x', y'⟩ := H₁.step x y
  exact ⟨_, .obj σ₁.os.length, _, x', T₁.trans y', .obj _ _ (by rw [← H₁.1.len]; simp), k₁⟩

/-! ## subscripts -/
def ItemOk (W : Wd) (n : Nat) (a b : AV) (os : List AO) (K : AV → List AO → Prop) : Prop :=
  ∀ A s ρ v u, Room n A → AbsO W os ρ s → Rel s.heap ρ a v → Rel s.heap ρ b u → (∃ T id, s.TypeIs v T ∧ typeLookup (.type T) "__getitem__" = pure (some (.builtin id))) ∧ wpAny (model W.prog W.w) A (getItem v u) (RO W s ρ K) NoE s

theorem sub_go {prog : Program} {w : World} {A : Around} {E : Value → Shared → Prop} {s : Shared} {value slice : Expr} {o i : Value} {T id : String} {Q : Value → Shared → Prop} (hT : s.TypeIs o T)
    (hl : typeLookup (.type T) "__getitem__" = pure (some (.builtin id))) (hs : ∃ l, subscripted slice false o i = operate l (getItem o i)) (h : wpAny (model prog w) A (getItem o i) Q E s) : wpAny (model prog w) A (subscriptTail value slice o i) Q E s := by
  unfold subscriptTail
  obtain ⟨l, hs⟩ := hs
  refine wpAny_bind ?_
  rw [getitemInPython_of_ne hT.not_modules]
  refine wpAny_bind (wpAny_specialOf hT hl ?_)
  refine wpAny_pure ?_
  show wpAny _ _ (subscripted slice false o i >>= _) _ _ _
  rw [hs]
  exact wpAny_bind (wpAny_operating (wpAny_mono h (fun r s₃ h₃ => wpAny_bind (wpAny_letTemporaryGo (wpAny_pure h₃))) fun _ _ x => x))

theorem E_sub (Z : EvOk Γ n) {value slice : Expr} {pos : Pos} (h : EV W Γ value σ fun o σ₁ => EV W Γ slice σ₁ fun i σ₂ => ItemOk W n o i σ₂.os fun c os' => K c { σ₂ with os := os' })
    (hs : ∀ o i, ∃ l, subscripted slice false o i = operate l (getItem o i) := by intro _ _; exact ⟨_, rfl⟩) : EV W Γ (.Subscript value slice pos) σ K := by
  intro s ρ H
  refine Subscript_ (wpAny_mono (h s ρ H) (fun a s₁ h₁ => ?_) fun _ _ x => x)
  obtain ⟨ρ₁, av, σ₁, H₁, T₁, R₁, k₁⟩ := h₁
  refine wpAny_mono (k₁ s₁ ρ₁ H₁) (fun b s₂ h₂ => ?_) fun _ _ x => x
  obtain ⟨ρ₂, bv, σ₂, H₂, T₂, R₂, k₂⟩ := h₂
  obtain ⟨⟨T, id, hT, hl⟩, hg⟩ := k₂ Γ.A s₂ ρ₂ a b Z.room H₂.1 (R₁.tr T₂) R₂
  exact sub_go hT hl (hs a b) (wpAny_mono hg (fun v s₃ h₃ => ((RV.of_RO H₂ h₃).tr T₂).tr T₁) fun _ _ x => x)

theorem It_str (O : WdOk W) {l : List Nat} {i : Int} {c j : Nat} {os : List AO} {K : AV → List AO → Prop} (hi : i = (j : Int) ∨ i = (j : Int) - l.length) (hc : l[j]? = some c) (hl : l.length ≤ 16777216) (h : K (.str [c]) os) : ItemOk W n (.str l) (.int i) os K := by
  intro A s ρ v u R H r1 r2; cases r1; cases r2
  have hj : j < l.length := (List.getElem?_eq_some_iff.mp hc).1
  refine ⟨⟨_, _, typeIs_str _ _ _, F.slot_str_getitem.lookup⟩, PyProof.Rows.getItem_str (c := c) ?_ ?_ ?_⟩
  · simp; omega
  · have : seqIndex? i (S l).length = some j := by
      rw [S_len]
      unfold seqIndex?
      rcases hi with rfl | rfl
      · simp only
        split <;> (try split) <;> first | rfl | omega | (simp; omega) | simp_all
      · simp only
        split <;> (try split) <;> first | rfl | omega | (simp; omega) | simp_all
    rw [this]
    show (S l).cps[j]? = some c
    simpa using hc
  · exact RO.toks O H (Rel.str [c] _) h
end

end Mine
end

section
open PySem PySem.W PyProof.Rows
set_option Elab.async false
set_option maxRecDepth 100000
set_option linter.unusedVariables false
namespace Mine

/-! ## for loops -/
def forK (C : St → Prop) (K : AFlow → St → Prop) (nx : St → Prop) : AFlow → St → Prop
  | .next, σ => C σ ∧ nx σ
  | .cont, σ => C σ ∧ nx σ
  | .brk, σ => K .next σ
  | .ret v, σ => K (.ret v) σ
theorem forK_next {C : St → Prop} {K : AFlow → St → Prop} {nx : St → Prop} {σ : St} (hc : C σ) (h : nx σ) : forK C K nx .next σ := ⟨hc, h⟩
def whileK (K : AFlow → St → Prop) (nx : St → Prop) : AFlow → St → Prop
  | .next, σ => nx σ
  | .cont, σ => nx σ
  | .brk, σ => K .next σ
  | .ret v, σ => K (.ret v) σ
theorem whileK_next {K : AFlow → St → Prop} {nx : St → Prop} {σ : St} (h : nx σ) : whileK K nx .next σ := h
def ForG (W : Wd) (Γ : Ev) (C : St → Prop) (tgt : Expr) (body : List Stmt) (K : AFlow → St → Prop) : List AV → St → Prop
  | [], σ => K .next σ
  | x :: r, σ => AS W Γ tgt x σ fun σ₁ => EX W Γ body σ₁ (forK C K (ForG W Γ C tgt body K r))

theorem noE {M : Model} {A : Around} {α : Type} {t : Sem α} {Q : α → Shared → Prop} {E : Value → Shared → Prop} {s : Shared} (h : wpAny M A t Q NoE s) : wpAny M A t Q E s := wpAny_mono h (fun _ _ x => x) fun _ _ x => x.elim

structure Moved (it : Addr) (s s' : Shared) : Prop where
  kept : ∀ b o, b ≠ it → s.heap.get? b = some o → s'.heap.get? b = some o
  gens : AllBare s'.gens
  os : s'.os = s.os

section
variable {W : Wd} {Γ : Ev} {n : Nat}

theorem Abs.moved (O : WdOk W) {σ : St} {ρ ρ₀ : List Addr} {s₀ s s' : Shared} {it : Addr} (H : Abs W Γ σ ρ s) (M : Moved it s s') (h0 : s₀.heap.get? it = none) (hb : ∀ b o, W.base.get? b = some o → s₀.heap.get? b = some o)
    (T : TransP Γ.p Γ.U s₀ s ρ₀ ρ) (hr : it ∉ ρ) (hu : it ∉ Γ.U) (hs : ∀ o, s.heap.get? it = some o → ¬ Solid o) : Abs W Γ σ ρ s' ∧ TransP Γ.p Γ.U s₀ s' ρ₀ ρ := by
  have hsol : ∀ b o, Solid o → s.heap.get? b = some o → s'.heap.get? b = some o := fun b o so e => M.kept b o (fun q => hs o (q ▸ e) so) e
  have hrel : ∀ a v, Rel s.heap ρ a v → Rel s'.heap ρ a v := fun a v r => r.mono hsol fun _ _ e => e
  have ne0 : ∀ {a o}, s₀.heap.get? a = some o → a ≠ it := fun e q => ne_none e (q ▸ h0)
  obtain ⟨m, F, l⟩ := H.2.1.ex
  obtain ⟨oL, es, ep, e', r'⟩ := F.ns
  have hkeep : ∀ b o, W.base.get? b = some o → s'.heap.get? b = some o := fun b o e => M.kept b o (ne0 (hb b o e)) (H.1.keep b o e)
  refine ⟨⟨⟨hkeep, H.1.nd, H.1.len, H.1.off, fun k o e => ?_, M.gens, M.os.trans H.1.os⟩, ⟨⟨m, ⟨⟨oL, es, ep, M.kept _ _ (fun q => hu (q ▸ .head _)) e', r'⟩, hkeep, F.above⟩, l.mono hrel⟩, ?_, H.2.1.off, H.2.1.coff⟩, H.2.2⟩, ⟨T.pre, T.mem, fun a o h1 h2 h3 => M.kept a o (ne0 h3) (T.kept a o h1 h2 h3), fun a o h1 h2 => M.kept a o (ne0 h2) (T.solid a o h1 h2), fun a e => ?_⟩⟩
  · obtain ⟨b, h1, h2⟩ := H.1.objs k o e
    exact ⟨b, h1, h2.mono O hsol (fun _ _ e => e) fun o' => M.kept b o' fun q => hr (q ▸ List.mem_of_getElem? h1)⟩
  · exact H.2.1.cells.mono hrel fun p hp o => M.kept _ o fun q => hu (q ▸ .tail _ (List.mem_map_of_mem hp))
  · by_cases hi : a = it
    · rw [hi]; exact h0
    · refine T.live a ?_
      cases q : s.heap.get? a with
      | none => rfl
      | some o => exact (ne_none (M.kept a o hi q) e).elim

theorem for_gen (O : WdOk W) {C : St → Prop} {tgt : Expr} {body : List Stmt} {K : AFlow → St → Prop} {it : Addr} {items : List AV} {J : Nat → List Addr → Heap → Prop} {s₀ : Shared} {ρ₀ : List Addr} (h0 : s₀.heap.get? it = none) (hb : ∀ b o, W.base.get? b = some o → s₀.heap.get? b = some o)
    (next : ∀ i σ ρ s, Abs W Γ σ ρ s → J i ρ s.heap → C σ → wpAny (model W.prog W.w) Γ.A (pyNext (.ref it)) (fun r s' => Moved it s s' ∧ match items[i]? with
      | some x => ∃ v, r = some v ∧ Rel s'.heap ρ x v ∧ J (i + 1) ρ s'.heap
      | none => r = none) NoE s)
    (keep : ∀ i ρ ρ' h h', J i ρ h → (∀ o, h.get? it = some o → h'.get? it = some o) → ρ'.take Γ.p = ρ.take Γ.p → J i ρ' h')
    (itObj : ∀ i ρ h, J i ρ h → ∃ o, h.get? it = some o ∧ ¬ Solid o) (hlo : ∀ v, letOwnedTupleGo tgt (.ref it) v = pure ())
    {σ : St} {ρ : List Addr} {s : Shared} (H : Abs W Γ σ ρ s) (hJ : J 0 ρ s.heap) (hC : C σ) (T : TransP Γ.p Γ.U s₀ s ρ₀ ρ) (hr : it ∉ ρ) (hu : it ∉ Γ.U) (h : ForG W Γ C tgt body K items σ) :
    codeAny (model W.prog W.w) Γ.A (.forLoop tgt (.ref it) body [] Γ.env) (fun r s' => match r with | .ok f => RF W Γ s₀ ρ₀ K f s' | .error _ => False) s := by
  refine codeAny_forLoop (I := fun m s => ∃ i σ ρ, m = items.length - i ∧ i ≤ items.length ∧ Abs W Γ σ ρ s ∧ J i ρ s.heap ∧ C σ ∧ TransP Γ.p Γ.U s₀ s ρ₀ ρ ∧ it ∉ ρ ∧ ForG W Γ C tgt body K (items.drop i) σ) (fun m s hI => ?_) items.length ⟨0, σ, ρ, rfl, Nat.zero_le _, H, hJ, hC, T, hr, h⟩ hlo
  obtain ⟨i, σ, ρ, rfl, hi, H, hJ, hC, T, hr, hF⟩ := hI
  refine noE (wpAny_mono (next i σ ρ s H hJ hC) (fun r s₁ h₁ => ?_) fun _ _ x => x)
  obtain ⟨M, hx⟩ := h₁
  obtain ⟨o, ho, hns⟩ := itObj i ρ s.heap hJ
  obtain ⟨H₁, T₁⟩ := H.moved O M h0 hb T hr hu (fun o' e => by rw [ho] at e; cases e; exact hns)
  cases hc : items[i]? with
  | none =>
    rw [hc] at hx
    subst hx
    have : items.drop i = [] := List.drop_eq_nil_of_le (List.getElem?_eq_none_iff.mp hc)
    rw [this] at hF
    exact wpAny_execs_nil ⟨ρ, .next, σ, H₁, T₁, .next, hF⟩
  | some x =>
    rw [hc] at hx
    obtain ⟨v, rfl, R, hJ₁⟩ := hx
    have hlt : i < items.length := (List.getElem?_eq_some_iff.mp hc).1
    have hd : items.drop i = x :: items.drop (i + 1) := by
      rw [List.drop_eq_getElem_cons hlt]
      congr 1
      exact (List.getElem?_eq_some_iff.mp hc).2
    rw [hd] at hF
    refine noE (wpAny_mono (hF s₁ ρ v H₁ R) (fun _ s₂ h₂ => ?_) fun _ _ x => x)
    obtain ⟨ρ₂, σ₂, H₂, T₂, k₂⟩ := h₂
    have T₂' := T₂.P H₁.2.2
    refine noE (wpAny_mono (k₂ s₂ ρ₂ H₂) (fun f s₃ h₃ => ?_) fun _ _ x => x)
    obtain ⟨ρ₃, af, σ₃, H₃, T₃, R₃, k₃⟩ := h₃
    have T₂₃ := T₂'.trans T₃
    have Tall := T₁.trans T₂₃
    obtain ⟨o₁, ho₁, _⟩ := itObj _ _ _ hJ₁
    have hit : ∀ o, s₁.heap.get? it = some o → s₃.heap.get? it = some o := fun o e => T₂₃.kept it o hu hr e
    have hr₃ : it ∉ ρ₃ := fun q => (T₂₃.mem it q).elim hr fun q => ne_none ho₁ q
    have again : C σ₃ ∧ ForG W Γ C tgt body K (items.drop (i + 1)) σ₃ → ∃ m, m < items.length - i ∧ ∃ i σ ρ, m = items.length - i ∧ i ≤ items.length ∧ Abs W Γ σ ρ s₃ ∧ J i ρ s₃.heap ∧ C σ ∧ TransP Γ.p Γ.U s₀ s₃ ρ₀ ρ ∧ it ∉ ρ ∧ ForG W Γ C tgt body K (items.drop i) σ :=
      fun hk => ⟨items.length - (i + 1), by omega, i + 1, σ₃, ρ₃, rfl, hlt, H₃, keep _ _ _ _ _ hJ₁ hit T₂₃.pre, hk.1, Tall, hr₃, hk.2⟩
    cases R₃ with
    | next => exact again k₃
    | cont => exact again k₃
    | brk => exact ⟨ρ₃, .next, σ₃, H₃, Tall, .next, k₃⟩
    | ret a v r => exact ⟨ρ₃, .ret a, σ₃, H₃, Tall, .ret a v r, k₃⟩

/-- the first m objects are protected too -/
abbrev Ev.prot (Γ : Ev) (m : Nat) : Ev := { Γ with p := max Γ.p m }
theorem EvOk.prot {m : Nat} (Z : EvOk Γ n) : EvOk (Γ.prot m) n := ⟨Z.kind, Z.loc, Z.nd, Z.glob, Z.bins, Z.gl, Z.cel, Z.celnd, Z.room, Z.dbg⟩
theorem Abs.prot {m : Nat} {σ : St} {ρ : List Addr} {s : Shared} (H : Abs W Γ σ ρ s) (hm : m ≤ ρ.length) : Abs W (Γ.prot m) σ ρ s := ⟨H.1, ⟨H.2.1.ex, H.2.1.cells, H.2.1.off, H.2.1.coff⟩, Nat.max_le.mpr ⟨H.2.2, hm⟩⟩
theorem Abs.unprot {m : Nat} {σ : St} {ρ : List Addr} {s : Shared} (H : Abs W (Γ.prot m) σ ρ s) : Abs W Γ σ ρ s := ⟨H.1, ⟨H.2.1.ex, H.2.1.cells, H.2.1.off, H.2.1.coff⟩, Nat.le_trans (Nat.le_max_left ..) H.2.2⟩
theorem take_le {l l' : List Addr} {a b : Nat} (h : l.take b = l'.take b) (hab : a ≤ b) : l.take a = l'.take a := by
  have := congrArg (List.take a) h
  rwa [List.take_take, List.take_take, Nat.min_eq_left hab] at this
theorem RF.unprot {m : Nat} {K : AFlow → St → Prop} {s s' : Shared} {ρ : List Addr} {f : Flow} (h : RF W (Γ.prot m) s ρ K f s') : RF W Γ s ρ K f s' := by
  obtain ⟨ρ', af, σ', a, b, c, d⟩ := h
  exact ⟨ρ', af, σ', a.unprot, ⟨take_le b.pre (Nat.le_max_left ..), b.mem, b.kept, b.solid, b.live⟩, c, d⟩

/-- for over a list that the body leaves as it is -/
theorem X_for_seq (O : WdOk W) (Z : EvOk Γ n) (F : List AV → AO) (hFF : ∀ h ρ a xs, ObjIs W h ρ a (F xs) → ∃ vs m, h.get? a = some (lstO vs m) ∧ RelL h ρ xs vs) {σ : St} {tgt iter : Expr} {body : List Stmt} {pos : Pos} {K : AFlow → St → Prop}
    (h : EV W Γ iter σ fun a σ₁ => ∃ k xs, a = .obj k ∧ σ₁.os[k]? = some (F xs) ∧ ForG W (Γ.prot (k + 1)) (fun σ => σ.os[k]? = some (F xs)) tgt body K xs σ₁)
    (hs : ∀ x, foldedSetIterable iter Γ.env x = pure x := by intro _; rfl) (hlo : ∀ it v, letOwnedTupleGo tgt (.ref it) v = pure () := by intro _ _; rfl) : EX1 W Γ (.For tgt iter body [] pos) σ K := by
  intro s ρ H
  refine wpAny_For (wpAny_mono (h s ρ H) (fun a s₁ h₁ => ?_) fun _ _ x => x) hs
  obtain ⟨ρ₁, av, σ₁, H₁, T₁, R₁, k, xs, rfl, hk, hF⟩ := h₁
  cases R₁
  rename_i l hl
  obtain ⟨l', hl', hob⟩ := H₁.1.objs k _ hk
  rw [hl] at hl'; cases hl'
  obtain ⟨vs, nn, ho, hR⟩ := hFF _ _ _ _ hob
  have hlr : l ∈ ρ₁ := List.mem_of_getElem? hl
  refine wpAny_pyIter_list (items := vs.toArray) ⟨_, ho, rfl, nn, rfl⟩ ?_
  have hklt : k + 1 ≤ ρ₁.length := (List.getElem?_eq_some_iff.mp hl).1
  generalize hI : s₁.heap.objs.size = I
  have hI0 : s₁.heap.get? I = none := hI ▸ none_at
  have hgI : (s₁.heap.push { cls := .type "list_iterator", data := .fields #[.ref l, rawInt 0] }).get? I = some { cls := .type "list_iterator", data := .fields #[.ref l, rawInt 0] } := hI ▸ Heap.get?_push_size _ rfl
  obtain ⟨H₂, T₂⟩ := H₁.grow O (s' := { s₁ with heap := s₁.heap.push { cls := .type "list_iterator", data := .fields #[.ref l, rawInt 0] } }) (push_old _) H₁.1.gens rfl
  have hnr : I ∉ ρ₁ := fun q => by obtain ⟨o, e⟩ := H₁.1.there O q; exact ne_none e hI0
  have hnu : I ∉ Γ.U := fun q => by obtain ⟨o, e⟩ := H₁.2.1.there I q; exact ne_none e hI0
  refine codeAny_mono (for_gen (Γ := Γ.prot (k + 1)) O (K := K) (J := fun i ρ h => h.IsListIter I l i ∧ ρ[k]? = some l) (items := xs) hI0 (fun b o e => H₁.1.keep b o e) ?_ ?_ ?_ (hlo I) (H₂.prot hklt) ⟨⟨_, hgI, rfl, rfl⟩, hl⟩ hk ((T₂.P (Nat.max_le.mpr ⟨H₁.2.2, hklt⟩) : TransP (Γ.prot (k + 1)).p Γ.U _ _ _ _)) hnr hnu hF) (fun r s' hr => ?_)
  · rintro i σ' ρ' s' H' ⟨J1, J2⟩ hc
    obtain ⟨l', hl', hob'⟩ := H'.1.objs k _ hc
    rw [J2] at hl'; cases hl'
    obtain ⟨vs', n', ho', hR'⟩ := hFF _ _ _ _ hob'
    cases hx : xs[i]? with
    | some x =>
      obtain ⟨v, hv, hr⟩ := hR'.get hx
      refine wpAny_pyNext_list_item J1 (items := vs'.toArray) ⟨_, ho', rfl, n', rfl⟩ (x := v) (by simpa using hv) (fun h' e1 e2 => ?_)
      have hsol : ∀ a o, Solid o → s'.heap.get? a = some o → h'.get? a = some o := fun a o so e => (e2.2 a fun q => by
        obtain ⟨oi, z1, z2, z3⟩ := J1
        rw [q, z1] at e; cases e
        rcases so with ⟨c, _⟩ | ⟨c, _⟩ <;> exact absurd (z2.symm.trans c) (by simp)).trans e
      exact ⟨⟨fun b o hb e => (e2.2 b hb).trans e, H'.1.gens, rfl⟩, v, rfl, hr.mono hsol fun _ _ e => e, e1, J2⟩
    | none =>
      refine wpAny_pyNext_list_end Z.room.1 J1 (items := vs'.toArray) ⟨_, ho', rfl, n', rfl⟩ ?_ (fun h' e => ⟨⟨fun b o hb e' => e b o hb e', H'.1.gens, rfl⟩, rfl⟩)
      have := hR'.length
      rw [List.getElem?_eq_none_iff] at hx
      simp; omega
  · rintro i ρ' ρ'' h h' ⟨⟨oi, z1, z2⟩, J2⟩ hk' hp
    refine ⟨⟨oi, hk' _ z1, z2⟩, ?_⟩
    have := congrArg (fun l : List Addr => l[k]?) (take_le hp (Nat.le_max_right ..) : ρ''.take (k + 1) = ρ'.take (k + 1))
    simp only [List.getElem?_take_of_lt (Nat.lt_succ_self k)] at this
    exact this.trans J2
  · rintro i ρ' h ⟨⟨oi, z1, z2, _⟩, _⟩
    refine ⟨oi, z1, ?_⟩
    rintro (⟨c, _⟩ | ⟨c, _⟩) <;> exact absurd (z2.symm.trans c) (by simp)
  · cases r with
    | ok f => exact RF.tr (T₁.P H.2.2) (RF.unprot hr)
    | error e => exact hr.elim

theorem X_for_list (O : WdOk W) (Z : EvOk Γ n) {σ : St} {tgt iter : Expr} {body : List Stmt} {pos : Pos} {K : AFlow → St → Prop}
    (h : EV W Γ iter σ fun a σ₁ => ∃ k xs, a = .obj k ∧ σ₁.os[k]? = some (.lst xs) ∧ ForG W (Γ.prot (k + 1)) (fun σ => σ.os[k]? = some (.lst xs)) tgt body K xs σ₁)
    (hs : ∀ x, foldedSetIterable iter Γ.env x = pure x := by intro _; rfl) (hlo : ∀ it v, letOwnedTupleGo tgt (.ref it) v = pure () := by intro _ _; rfl) : EX1 W Γ (.For tgt iter body [] pos) σ K :=
  X_for_seq O Z .lst (fun h ρ a xs x => x) h hs hlo
theorem X_for_frz (O : WdOk W) (Z : EvOk Γ n) {σ : St} {tgt iter : Expr} {body : List Stmt} {pos : Pos} {K : AFlow → St → Prop}
    (h : EV W Γ iter σ fun a σ₁ => ∃ k xs, a = .obj k ∧ σ₁.os[k]? = some (.frz xs) ∧ ForG W (Γ.prot (k + 1)) (fun σ => σ.os[k]? = some (.frz xs)) tgt body K xs σ₁)
    (hs : ∀ x, foldedSetIterable iter Γ.env x = pure x := by intro _; rfl) (hlo : ∀ it v, letOwnedTupleGo tgt (.ref it) v = pure () := by intro _ _; rfl) : EX1 W Γ (.For tgt iter body [] pos) σ K :=
  X_for_seq O Z .frz (fun h ρ a xs x => by obtain ⟨vs, e, r⟩ := x; exact ⟨vs, 0, e, r⟩) h hs hlo
/-! ## while loops -/
def WL (W : Wd) (Γ : Ev) (test : Expr) (body : List Stmt) (σ : St) (K : AFlow → St → Prop) : Prop :=
  ∀ s ρ, Abs W Γ σ ρ s → codeAny (model W.prog W.w) Γ.A (.whileLoop test body [] Γ.env) (fun r s' => match r with | .ok f => RF W Γ s ρ K f s' | .error _ => False) s
theorem X_while {σ : St} {test : Expr} {body : List Stmt} {pos : Pos} {K : AFlow → St → Prop} (h : WL W Γ test body σ K) : EX1 W Γ (.While test body [] pos) σ K :=
  fun s ρ H => wpAny_While (codeAny_mono (h s ρ H) fun r s' h => by cases r with | ok f => exact h | error e => exact h.elim)
theorem W_step {σ : St} {test : Expr} {body : List Stmt} {K : AFlow → St → Prop}
    (h : TE W Γ test σ fun b σ₁ => bsel b (EX W Γ body σ₁ (whileK K fun σ₂ => WL W Γ test body σ₂ K)) (K .next σ₁)) : WL W Γ test body σ K := by
  intro s ρ H
  refine codeAny_of_tree ?_
  rw [Around.under_of_weight rfl]
  show wpAny _ _ ((whileTurn test body [] Γ.env).onRaise _) _ _ s
  refine wpAny_onRaise ?_
  unfold whileTurn
  refine wpAny_bind (wpAny_mono (h s ρ H) (fun b s₁ h₁ => ?_) fun _ _ x => x.elim)
  obtain ⟨ρ₁, σ₁, H₁, T₁, k₁⟩ := h₁
  have T₁' := T₁.P H.2.2
  cases b with
  | false =>
    exact wpAny_bind (wpAny_execs_nil (wpAny_pure ⟨ρ₁, .next, σ₁, H₁, T₁', .next, k₁⟩))
  | true =>
    refine wpAny_bind (noE (wpAny_mono (show wpAny _ _ _ _ _ _ from k₁ s₁ ρ₁ H₁) (fun f s₂ h₂ => ?_) fun _ _ x => x))
    obtain ⟨ρ₂, af, σ₂, H₂, T₂, R₂, k₂⟩ := h₂
    have T := T₁'.trans T₂
    have again : WL W Γ test body σ₂ K → codeAny (model W.prog W.w) Γ.A (.whileLoop test body [] Γ.env) (fun r s' => match r with | .ok f => RF W Γ s ρ K f s' | .error _ => False) s₂ := fun hw =>
      codeAny_mono (hw s₂ ρ₂ H₂) fun r s' hr => by
        cases r with
        | ok f => exact RF.tr T hr
        | error e => exact hr
    cases R₂ with
    | next => exact wpAny_pure ⟨rfl, again k₂⟩
    | cont => exact wpAny_pure ⟨rfl, again k₂⟩
    | brk => exact wpAny_pure ⟨ρ₂, .next, σ₂, H₂, T, .next, k₂⟩
    | ret a v r => exact wpAny_pure ⟨ρ₂, .ret a, σ₂, H₂, T, .ret a v r, k₂⟩
end

end Mine
end

section
open PySem PySem.W PyProof.Rows
set_option Elab.async false
set_option maxRecDepth 100000
set_option linter.unusedVariables false
namespace Mine

/-! ## ranges -/
def rangeL (a c : Int) (n : Nat) : List AV := (List.range n).map fun i => .int (a + (i : Nat) * c)
inductive RArgs : List AV → Int → Int → Int → Prop
  | one (b) : RArgs [.int b] 0 b 1
  | two (a b) : RArgs [.int a, .int b] a b 1
  | three (a b c) : c ≠ 0 → c.natAbs < 1073741824 → RArgs [.int a, .int b, .int c] a b c

theorem range_call {W : Wd} {A : Around} {s : Shared} {ρ : List Addr} {avs : List AV} {vs : List Value} {a b c : Int} {Q : Value → Shared → Prop} (hr : RelL s.heap ρ avs vs) (ha : RArgs avs a b c)
    (h : ∀ t u v tk, Q (.ref s.heap.objs.size) { s with heap := s.heap.push { cls := .type "range", data := .fields #[.int a t, .int b u, .int c v] }, toks := tk }) : wpAny (model W.prog W.w) A (call (.type "range") vs []) Q NoE s := by
  cases ha with
  | one b => cases hr with | cons r1 r2 => cases r1; cases r2; exact call_range_1 (h _ _ _ _)
  | two a b => cases hr with | cons r1 r2 => cases r1; cases r2 with | cons r1 r2 => cases r1; cases r2; exact call_range_2 (h _ _ _ _)
  | three a b c h1 h2 => cases hr with | cons r1 r2 => cases r1; cases r2 with | cons r1 r2 => cases r1; cases r2 with | cons r1 r2 => cases r1; cases r2; exact call_range_3 h1 (h _ _ _ _) (.inl (PyProof.noPylong_small h2))

section
variable {W : Wd} {Γ : Ev} {n : Nat} {σ : St}

theorem boot_range : bootBuiltins "range" = some (.type "range") := by decide +kernel
theorem boot_list : bootBuiltins "list" = some (.type "list") := by decide +kernel

/-- the tree of range(..): an object that nobody tracks -/
theorem range_eval (O : WdOk W) (Z : EvOk Γ n) {np pos : Pos} {es : List Expr} {K : Int → Int → Int → St → Prop} (hm : (Str.ofString "range") ∈ Γ.gn) (hg : W.mg (Str.ofString "range") = none)
    (h : EVs W Γ es σ fun avs σ₁ => ∃ a b c, RArgs avs a b c ∧ K a b c σ₁) (hp : ∀ pos, (backTo pos (starEach es Γ.env)).any (·.1) = false := by intro _; rfl) {s : Shared} {ρ : List Addr} (H : Abs W Γ σ ρ s) :
    wpAny (model W.prog W.w) Γ.A (eval (.Call (.Name (Str.ofString "range") np) es [] pos) Γ.env) (fun v s' => ∃ r a b c t u w ρ' σ', v = .ref r ∧ IsRange s'.heap r a b c t u w ∧ Abs W Γ σ' ρ' s' ∧ Trans Γ.U s s' ρ ρ' ∧ K a b c σ') NoE s := by
  refine wpAny_Call_ofName (name_glob O Z H.1 hm (.boot hg boot_range (by decide +kernel)) ?_)
  refine callWith_any (hp pos) (evalArgs_of (hp pos) (wpAny_mono (h pos s ρ H) (fun vs s₁ h₁ => ?_) fun _ _ x => x))
  obtain ⟨ρ₁, avs, σ₁, H₁, T₁, R₁, a, b, c, ha, k₁⟩ := h₁
  refine wpAny_pure (range_call R₁ ha fun t u v tk => ?_)
  obtain ⟨H₂, T₂⟩ := H₁.grow O (s' := { s₁ with heap := s₁.heap.push { cls := .type "range", data := .fields #[.int a t, .int b u, .int c v] }, toks := tk }) (push_old _) H₁.1.gens rfl
  exact ⟨_, a, b, c, t, u, v, ρ₁, σ₁, rfl, Heap.get?_push_size _ rfl, H₂, T₁.trans T₂, k₁⟩

theorem X_for_range (O : WdOk W) (Z : EvOk Γ n) {tgt : Expr} {es : List Expr} {body : List Stmt} {np cp pos : Pos} {K : AFlow → St → Prop} (hm : (Str.ofString "range") ∈ Γ.gn) (hg : W.mg (Str.ofString "range") = none)
    (h : EVs W Γ es σ fun avs σ₁ => ∃ a b c, RArgs avs a b c ∧ ∃ m : Nat, Builtin.Range.rangeSize a b c = (m : Int) ∧ Builtin.Range.small a b c = true ∧ ForG W Γ (fun _ => True) tgt body K (rangeL a c m) σ₁)
    (hp : ∀ pos, (backTo pos (starEach es Γ.env)).any (·.1) = false := by intro _; rfl)
    (hs : ∀ x, foldedSetIterable (.Call (.Name (Str.ofString "range") np) es [] cp) Γ.env x = pure x := by intro _; rfl) (hlo : ∀ it v, letOwnedTupleGo tgt (.ref it) v = pure () := by intro _ _; rfl) :
    EX1 W Γ (.For tgt (.Call (.Name (Str.ofString "range") np) es [] cp) body [] pos) σ K := by
  intro s ρ H
  refine wpAny_For (wpAny_mono (range_eval O Z hm hg h hp H) (fun a s₁ h₁ => ?_) fun _ _ x => x) hs
  obtain ⟨r, a, b, c, t, u, v, ρ₁, σ₁, rfl, hR, H₁, T₁, m, hsz, hsm, hF⟩ := h₁
  refine wpAny_pyIter_range hR hsm ?_
  generalize hI : s₁.heap.objs.size = I
  have hI0 : s₁.heap.get? I = none := hI ▸ none_at
  rw [hsz]
  have hgI : (s₁.heap.push { cls := .type "range_iterator", data := .fields #[rawInt a, rawInt (m : Int), rawInt c] }).get? I = some { cls := .type "range_iterator", data := .fields #[rawInt a, rawInt (m : Int), rawInt c] } := hI ▸ Heap.get?_push_size _ rfl
  obtain ⟨H₂, T₂⟩ := H₁.grow O (s' := { s₁ with heap := s₁.heap.push { cls := .type "range_iterator", data := .fields #[rawInt a, rawInt (m : Int), rawInt c] } }) (push_old _) H₁.1.gens rfl
  have hnr : I ∉ ρ₁ := fun q => by obtain ⟨o, e⟩ := H₁.1.there O q; exact ne_none e hI0
  have hnu : I ∉ Γ.U := fun q => by obtain ⟨o, e⟩ := H₁.2.1.there I q; exact ne_none e hI0
  refine codeAny_mono (for_gen O (K := K) (J := fun i ρ h => i ≤ m ∧ IsRangeIter h I (a + (i : Nat) * c) ((m : Int) - i) c) (items := rangeL a c m) hI0 (fun b o e => H₁.1.keep b o e) ?_ ?_ ?_ (hlo I) H₂ ⟨Nat.zero_le _, by simpa using hgI⟩ trivial (T₂.P H₁.2.2) hnr hnu hF) (fun r s' hr => ?_)
  · rintro i σ' ρ' s' H' ⟨J1, J2⟩ _
    by_cases hi : i < m
    · have hx : (rangeL a c m)[i]? = some (.int (a + (i : Nat) * c)) := by simp [rangeL, hi]
      rw [hx]
      refine wpAny_pyNext_range_item J2 (by omega) (fun h' e1 e2 => ?_)
      refine ⟨⟨fun b o hb e => (e2.2 b hb).trans e, H'.1.gens, rfl⟩, _, rfl, .int _ _, hi, ?_⟩
      have e3 : a + ((i + 1 : Nat) : Int) * c = a + (i : Nat) * c + c := by rw [Int.natCast_succ, Int.add_mul, Int.one_mul]; omega
      have e4 : (m : Int) - ((i + 1 : Nat) : Int) = (m : Int) - (i : Nat) - 1 := by omega
      rw [e3, e4]; exact e1
    · have hx : (rangeL a c m)[i]? = none := by simp [rangeL]; omega
      rw [hx]
      exact wpAny_pyNext_range_end Z.room.1 J2 (by omega) (fun h' e => ⟨⟨fun b o hb e' => e b o hb e', H'.1.gens, rfl⟩, rfl⟩)
  · rintro i ρ' ρ'' h h' ⟨J1, J2⟩ hk' hp
    exact ⟨J1, hk' _ J2⟩
  · rintro i ρ' h ⟨_, J2⟩
    refine ⟨_, J2, ?_⟩
    rintro (⟨c, _⟩ | ⟨c, _⟩) <;> exact absurd c (by simp)
  · cases r with
    | ok f => exact RF.tr (T₁.P H.2.2) hr
    | error e => exact hr.elim

theorem itemsOf_rel {h : Heap} {ρ : List Addr} {a c : Int} {m : Nat} {acc : Array Value} (x : ItemsOf (fun i v => ∃ t, v = .int (a + i * c) t) acc m) : RelL h ρ (rangeL a c m) acc.toList := by
  have key : ∀ (l : List AV) (vs : List Value), vs.length = l.length → (∀ (i : Nat) (a : AV), l[i]? = some a → ∃ v, vs[i]? = some v ∧ Rel h ρ a v) → RelL h ρ l vs := by
    intro l
    induction l with
    | nil => intro vs hl _; cases vs with | nil => exact .nil | cons _ _ => simp at hl
    | cons y l ih =>
      intro vs hl hx
      cases vs with
      | nil => simp at hl
      | cons v vs =>
        obtain ⟨v', e, r⟩ := hx 0 y rfl
        simp at e; subst e
        exact .cons r (ih vs (by simpa using hl) fun i a e => by simpa using hx (i + 1) a (by simpa using e))
  refine key _ _ (by have := x.1; simp [rangeL]; omega) fun i y e => ?_
  have hi : i < m := by have := (List.getElem?_eq_some_iff.mp e).1; simpa [rangeL] using this
  simp [rangeL, hi] at e
  subst e
  have hs : i < acc.size := by rw [x.1]; exact hi
  obtain ⟨t, ht⟩ := x.2 i acc[i] (by simp [hs])
  exact ⟨_, by simp [hs, ht], .int _ t⟩

/-- list(range(..)) -/
theorem E_listrange (O : WdOk W) (Z : EvOk Γ n) {es : List Expr} {lp np cp pos : Pos} {K : AV → St → Prop} (hm : (Str.ofString "range") ∈ Γ.gn) (hg : W.mg (Str.ofString "range") = none) (hm' : (Str.ofString "list") ∈ Γ.gn) (hg' : W.mg (Str.ofString "list") = none)
    (h : EVs W Γ es σ fun avs σ₁ => ∃ a b c, RArgs avs a b c ∧ ∃ m : Nat, Builtin.Range.rangeSize a b c = (m : Int) ∧ Builtin.Range.small a b c = true ∧ m ≤ 2 ^ 24 ∧ K (.obj σ₁.os.length) { σ₁ with os := σ₁.os ++ [.lst (rangeL a c m)] })
    (hp : ∀ pos, (backTo pos (starEach es Γ.env)).any (·.1) = false := by intro _; rfl)
    (hst : starEach [.Call (.Name (Str.ofString "range") np) es [] cp] Γ.env = [(false, eval (.Call (.Name (Str.ofString "range") np) es [] cp) Γ.env)] := by rfl) :
    EV W Γ (.Call (.Name (Str.ofString "list") lp) [.Call (.Name (Str.ofString "range") np) es [] cp] [] pos) σ K := by
  intro s ρ H
  refine wpAny_Call_ofName (name_glob O Z H.1 hm' (.boot hg' boot_list (by decide +kernel)) ?_)
  have hpl : (backTo pos (starEach [.Call (.Name (Str.ofString "range") np) es [] cp] Γ.env)).any (·.1) = false := by rw [hst]; rfl
  refine callWith_any hpl (evalArgs_of hpl (spliced_more (wpAny_mono (range_eval O Z hm hg h hp H) (fun v s₁ h₁ => ?_) fun _ _ x => x) hst))
  obtain ⟨r, a, b, c, t, u, w, ρ₁, σ₁, rfl, hR, H₁, T₁, m, hsz, hsm, hlen, hK⟩ := h₁
  refine spliced_none (wpAny_pure ?_)
  refine call_list_range Z.room.1 hR hsm hsz hlen (fun h' tk acc' c' hk hl hi => ?_)
  have hz : s₁.heap.get? s₁.heap.objs.size = none := none_at
  obtain ⟨x, y⟩ := H₁.1.new O (a := s₁.heap.objs.size) (o' := .lst (rangeL a c m)) (s' := { s₁ with heap := h', toks := tk }) hz hk ⟨acc'.toList, c', by simpa using hl, itemsOf_rel hi⟩ H₁.1.gens rfl
  obtain ⟨x', y'⟩ := H₁.step x y
  exact ⟨_, .obj σ₁.os.length, _, x', T₁.trans y', .obj _ _ (by rw [← H₁.1.len]; simp), hK⟩
end

end Mine
end

section
open PySem PySem.W PyProof.Rows
set_option Elab.async false
set_option maxRecDepth 100000
set_option linter.unusedVariables false
namespace Mine

/-! ## entering a def -/
theorem lookup_zip_none {x : Str} {ps : List Str} {vs : List Value} (h : x ∉ ps) : (ps.zip vs).reverse.lookup x = none := by
  rw [List.lookup_eq_none_iff]
  intro p hp
  have := List.of_mem_zip (List.mem_reverse.mp hp)
  cases q : (x == p.1) with
  | false => simp_all
  | true => exact absurd ((beq_iff_eq.mp q).symm ▸ this.1) h
theorem lookup_append_some {α β : Type} [BEq α] {x : α} {v : β} : ∀ {l l' : List (α × β)}, l.lookup x = some v → (l ++ l').lookup x = some v
  | p :: l, l', h => by
    rw [List.lookup_cons] at h
    rw [List.cons_append, List.lookup_cons]
    split
    · rename_i e; rw [e] at h; exact h
    · rename_i e; rw [e] at h; exact lookup_append_some h
theorem lookup_append_none {α β : Type} [BEq α] {x : α} : ∀ {l l' : List (α × β)}, l.lookup x = none → (l ++ l').lookup x = l'.lookup x
  | [], l', h => rfl
  | p :: l, l', h => by
    rw [List.lookup_cons] at h
    rw [List.cons_append, List.lookup_cons]
    split
    · rename_i e; rw [e] at h; cases h
    · rename_i e; rw [e] at h; exact lookup_append_none h
theorem lookup_zip : ∀ {ps : List Str} {vs : List Value}, ps.Nodup → ∀ (i : Nat) (x : Str) (v : Value), ps[i]? = some x → vs[i]? = some v → (ps.zip vs).reverse.lookup x = some v
  | [], _, _, i, _, _, h, _ => by simp at h
  | _ :: _, [], _, i, _, _, _, h => by simp at h
  | y :: ps, u :: vs, hn, 0, x, v, h1, h2 => by
    simp at h1 h2
    subst h1; subst h2
    rw [List.zip_cons_cons, List.reverse_cons, lookup_append_none (lookup_zip_none (List.nodup_cons.mp hn).1)]
    simp
  | y :: ps, u :: vs, hn, i + 1, x, v, h1, h2 => by
    rw [List.zip_cons_cons, List.reverse_cons]
    exact lookup_append_some (lookup_zip (List.nodup_cons.mp hn).2 i x v (by simpa using h1) (by simpa using h2))

theorem locals_of {h : Heap} {ρ : List Addr} {m : Str → Option Value} : ∀ {ns : List Str} {fr : List (Option AV)}, (∀ (i : Nat) (x : Str) (a : AV), ns[i]? = some x → fr[i]? = some (some a) → ∃ v, m x = some v ∧ Rel h ρ a v) → LocalsAre h ρ m ns fr
  | [], _, _ => trivial
  | _ :: _, [], _ => trivial
  | x :: ns, o :: fr, H => ⟨fun av e => H 0 x av rfl (by rw [e]; rfl), locals_of fun i x a h1 h2 => H (i + 1) x a (by simpa using h1) (by simpa using h2)⟩

/-- what is known of a def that stands in the base -/
structure FnAt (W : Wd) (f : Addr) (fd : FuncData) (ps : List Str) (body : List Stmt) : Prop where
  at_ : ∃ o, W.base.get? f = some o ∧ o.data = .func fd
  body : fd.body = .stmts body
  code : W.base.CodeRec fd.code fd.qualname
  glob : fd.globals = mainGlobals
  bins : fd.builtins = builtinsNs
  co : fd.scope.isCoroutine = false
  gen : fd.scope.isGenerator = false
  kind : fd.scope.kind = .function
  nocell : ∀ x ∈ fd.scope.names, x.2 ≠ .cell
  bind : ∀ vs : List Value, vs.length = ps.length → bindArgs fd ⟨vs, []⟩ = pure (ps.zip vs)
/-- its names: nm are locals (the parameters first), gn are globals -/
structure NmOk (scope : Scope) (ps rest gn : List Str) : Prop where
  loc : ∀ x ∈ ps ++ rest, scope.names.lookup x = some .local
  nd : (ps ++ rest).Nodup
  gl : ∀ x ∈ gn, scope.names.lookup x = some .globalImplicit
  dbg : ∀ x ∈ (ps ++ rest) ++ gn, (x == ("__debug__" : Str)) = false

theorem FnAt.keep {W : Wd} {f : Addr} {fd : FuncData} {ps : List Str} {body : List Stmt} (X : FnAt W f fd ps body) : KeepOk W (.ref f) := by
  obtain ⟨o, h1, h2⟩ := X.at_
  exact keep_fn h1 h2

def retOf : AFlow → AV
  | .ret a => a
  | _ => .none

abbrev fnEnv (fd : FuncData) (f L : Addr) : Env := newEnv fd.scope L fd.globals fd.closure (fd.qualname ++ ".<locals>.") (some f) fd.code none fd.builtins
abbrev fnEv (fd : FuncData) (f L : Addr) (nm gn : List Str) (A : Around) (p : Nat) : Ev := { env := fnEnv fd f L, nm := nm, cn := [], gn := gn, A := A, p := p }

structure WdMore (W : Wd) : Prop extends WdOk W where
  size : ∀ h : Heap, (∀ b o, W.base.get? b = some o → h.get? b = some o) → W.base.objs.size ≤ h.objs.size

theorem call_def {W : Wd} {n : Nat} {f : Addr} {fd : FuncData} {ps rest gn : List Str} {body : List Stmt} {avs : List AV} {os : List AO} {K : AV → List AO → Prop} (O : WdMore W) (X : FnAt W f fd ps body) (N : NmOk fd.scope ps rest gn) (hlen : avs.length = ps.length)
    (h : ∀ L A, EvOk (fnEv fd f L (ps ++ rest) gn A os.length) n → EX W (fnEv fd f L (ps ++ rest) gn A os.length) body { fr := avs.map some ++ rest.map fun _ => none, cr := [], os := os } fun fl σ => K (retOf fl) σ.os) :
    CallV W (n + 1) (.ref f) avs os K := by
  intro A s ρ vs R H hr
  obtain ⟨o, ho, hd⟩ := X.at_
  refine wpAny_call (codeAny_call_function R.depth (H.keep _ _ ho) hd X.co X.gen X.body (X.code.keeps H.keep) ?_)
  rw [X.bind vs (hr.length.trans hlen)]
  have hbl : ∀ x ∈ ps.zip vs, fd.scope.names.lookup x.1 = some .local := fun x hx => N.loc _ (List.mem_append_left _ (List.of_mem_zip hx).1)
  refine wpAny_pure (wpAny_newFunctionEnv X.nocell hbl (fun h' hns hsb => ?_) X.kind)
  refine ⟨(O.nolimit.keeps H.keep).fresh _ hsb, codeAny_func ?_⟩
  generalize hL : s.heap.objs.size = L at *
  have hL0 : s.heap.get? L = none := hL ▸ none_at
  have hk : ∀ b o, s.heap.get? b = some o → h'.get? b = some o := fun b o e => (hsb.2 b fun q => ne_none e (q ▸ hL0)).trans (Heap.get?_push_of_some _ e)
  obtain ⟨H', T'⟩ := H.grow O.toWdOk (s' := { s with heap := h', toks := s.toks + (ps.zip vs).length }) hk H.gens rfl
  have hnL : L ∉ ρ := fun q => by obtain ⟨o, e⟩ := H.there O.toWdOk q; exact ne_none e hL0
  have Z : EvOk (fnEv fd f L (ps ++ rest) gn (A.deeper (fnEnv fd f L)) os.length) n :=
    ⟨X.kind, N.loc, N.nd, X.glob, X.bins, N.gl, (fun _ h => nomatch h), List.nodup_nil, R.deeper, by simpa using N.dbg⟩
  have F : FrameIs W (fnEv fd f L (ps ++ rest) gn (A.deeper (fnEnv fd f L)) os.length) (avs.map some ++ rest.map fun _ => none) [] ρ h' := by
    refine ⟨⟨_, ⟨hns, H'.keep, ?_⟩, locals_of fun i x a h1 h2 => ?_⟩, trivial, fun a ha => ?_, fun _ h => nomatch h⟩
    · exact hL ▸ O.size _ H.keep
    · have hi : i < avs.length := by
        by_cases hi : i < avs.length
        · exact hi
        · rw [List.getElem?_append_right (by simpa using Nat.le_of_not_lt hi)] at h2
          simp at h2
      rw [List.getElem?_append_left (by omega)] at h1
      rw [List.getElem?_append_left (by simpa using hi)] at h2
      have h2' : avs[i]? = some a := by simpa using h2
      obtain ⟨v, hv, r⟩ := (hr.tr T').get h2'
      exact ⟨v, lookup_zip (List.nodup_append.mp N.nd).1 i x v h1 hv, r⟩
    · have : a = L := List.mem_singleton.mp ha
      rw [this]; exact hnL
  refine noE (wpAny_mono (h L (A.deeper (fnEnv fd f L)) Z _ ρ ⟨H', F, Nat.le_of_eq H.len.symm⟩) (fun fl s₁ h₁ => ?_) fun _ _ x => x)
  obtain ⟨ρ₁, af, σ₁, H₁, T₁, R₁, k₁⟩ := h₁
  have TF : Trans [] s s₁ ρ ρ₁ := by
    have t := T₁.full (show os.length = ρ.length from H.len.symm) H₁.1.nd
    have t' := T'.weak (U' := [L]) (fun _ h => nomatch h)
    obtain ⟨a, b, c, d⟩ := t'.trans t
    exact ⟨a, fun x o _ h2 h3 => b x o (fun q => ne_none h3 (by rw [List.mem_singleton.mp q]; exact hL0)) h2 h3, c, d⟩
  refine ⟨ρ₁, retOf af, σ₁.os, H₁.1, TF, ?_, k₁⟩
  cases R₁ with
  | next => exact .none
  | brk => exact .none
  | cont => exact .none
  | ret a v r => exact r

theorem call_def' {W : Wd} {n : Nat} {f : Addr} {fd : FuncData} {ps rest gn nm : List Str} {fr : List (Option AV)} {body : List Stmt} {avs : List AV} {os : List AO} {K : AV → List AO → Prop} (O : WdMore W) (X : FnAt W f fd ps body) (N : NmOk fd.scope ps rest gn)
    (hnm : ps ++ rest = nm) (hfr : avs.map some ++ rest.map (fun _ => none) = fr) (hlen : avs.length = ps.length)
    (h : ∀ env A, EvOk ⟨env, nm, [], gn, A, os.length⟩ n → EX W ⟨env, nm, [], gn, A, os.length⟩ body ⟨fr, [], os⟩ fun fl σ => K (retOf fl) σ.os) :
    CallV W (n + 1) (.ref f) avs os K := by
  subst hnm; subst hfr
  exact call_def O X N hlen fun L A Z => h _ A Z

/-- the objects made since are forgotten -/
theorem CallV.cut {W : Wd} {n : Nat} {f : Value} {avs : List AV} {os : List AO} {K : AV → List AO → Prop} (h : CallV W n f avs os fun a os' => a.bel os.length ∧ (∀ o ∈ os'.take os.length, o.bel os.length) ∧ K a (os'.take os.length)) : CallV W n f avs os K := by
  intro A s ρ vs R H hr
  refine wpAny_mono (h A s ρ vs R H hr) (fun v s₁ h₁ => ?_) fun _ _ x => x
  obtain ⟨ρ', av, os', H', T', R', b1, b2, k⟩ := h₁
  obtain ⟨r, rfl, hf⟩ := T'.pre
  have e : (ρ ++ r).take os.length = ρ := by rw [← H.len]; simp
  have c := H'.cut os.length b2
  rw [e] at c
  have r' := R'.cut b1
  rw [e] at r'
  exact ⟨ρ, av, _, c, ⟨⟨[], by simp, fun _ h => nomatch h⟩, T'.kept, T'.solid, T'.live⟩, r', k⟩
end Mine
end

section
open PySem PySem.W PyProof.Rows
set_option Elab.async false
set_option maxRecDepth 100000
set_option linter.unusedVariables false
namespace Mine

/-! ## slices -/
def pick {α : Type} (x : List α) (lo hi st : Option Int) : List α :=
  (sliceRange (sliceBounds lo hi st x.length).1 (sliceBounds lo hi st x.length).2.1 (sliceBounds lo hi st x.length).2.2).filterMap (x[·]?)
theorem filterMap_range' {α : Type} : ∀ (x : List α) (a c : Nat), ((List.range c).map (a + ·)).filterMap (x[·]?) = (x.drop a).take c := by
  intro x a c
  induction c generalizing a with
  | zero => simp
  | succ c ih =>
    rw [List.range_succ, List.map_append, List.filterMap_append, ih, List.take_add_one]
    congr 1
    simp only [List.map_cons, List.map_nil, List.getElem?_drop]
    cases h : x[a + c]? <;> simp [h]
theorem sliceRange_nat (a b : Nat) : sliceRange (a : Int) (b : Int) 1 = (List.range (b - a)).map (a + ·) := by
  unfold sliceRange
  simp only [show (1 : Int) > 0 by decide, if_true]
  have e : (if (a : Int) < b then ((b : Int) - a + 1 - 1) / 1 else 0).toNat = b - a := by
    split
    · rw [Int.ediv_one]; omega
    · omega
  rw [e]
  apply List.map_congr_left
  intro k _
  omega
theorem pick_nat {α : Type} (x : List α) {lo hi : Option Int} {a b : Nat} (e : sliceBounds lo hi none x.length = ((a : Int), (b : Int), 1)) : pick x lo hi none = (x.drop a).take (b - a) := by
  unfold pick
  rw [e]
  simp only [sliceRange_nat]
  exact filterMap_range' x a (b - a)
theorem bounds_nat (lo hi : Option Int) (n : Nat) : ∃ a b : Nat, sliceBounds lo hi none n = ((a : Int), (b : Int), 1) ∧ a ≤ n ∧ b ≤ n := by
  have key : ∀ (v : Option Int) (d : Int), 0 ≤ d → d ≤ n → ∃ a : Nat, (match v with | none => d | some i => let i := if i < 0 then i + n else i; if (1 : Int) > 0 then max 0 (min i n) else max (-1) (min i ((n : Int) - 1))) = (a : Int) ∧ a ≤ n := by
    intro v d h1 h2
    cases v with
    | none => exact ⟨d.toNat, by simp only; omega, by omega⟩
    | some i => exact ⟨(max 0 (min (if i < 0 then i + n else i) (n : Int))).toNat, by simp only [show (1 : Int) > 0 by decide, if_true]; omega, by omega⟩
  obtain ⟨a, ha, hal⟩ := key lo 0 (by omega) (by omega)
  obtain ⟨b, hb, hbl⟩ := key hi n (by omega) (by omega)
  refine ⟨a, b, ?_, hal, hbl⟩
  show (_, _, _) = (_, _, _)
  rw [Prod.mk.injEq, Prod.mk.injEq]
  exact ⟨ha, hb, rfl⟩
theorem pick_len {α : Type} (x : List α) (lo hi : Option Int) (h : (sliceRange (sliceBounds lo hi none x.length).1 (sliceBounds lo hi none x.length).2.1 (sliceBounds lo hi none x.length).2.2).length = x.length) : pick x lo hi none = x := by
  obtain ⟨a, b, e, ha, hb⟩ := bounds_nat lo hi x.length
  rw [pick_nat x e]
  rw [e] at h
  simp only [sliceRange_nat, List.length_map, List.length_range] at h
  by_cases h0 : x.length = 0
  · have : x = [] := List.length_eq_zero_iff.mp h0
    subst this; simp
  · have : a = 0 := by omega
    subst this
    have : b = x.length := by omega
    subst this
    simp
theorem pick_from {α : Type} (x : List α) {a : Int} (h : 0 ≤ a) : pick x (some a) none none = x.drop a.toNat := by
  have e : sliceBounds (some a) none none x.length = (((min a.toNat x.length : Nat) : Int), ((x.length : Nat) : Int), 1) := by
    simp only [sliceBounds, Option.getD_none, show (1 : Int) > 0 by decide, if_true, if_neg (show ¬ (a < 0) by omega)]
    congr 1
    omega
  rw [pick_nat x e]
  by_cases hl : a.toNat ≤ x.length
  · rw [Nat.min_eq_left hl, List.take_of_length_le (by simp)]
  · rw [Nat.min_eq_right (by omega), List.drop_of_length_le (Nat.le_refl _), List.drop_of_length_le (by omega)]; simp
theorem pick_upto_neg {α : Type} (x : List α) {b : Int} (h : b < 0) : pick x none (some b) none = x.take (x.length + b).toNat := by
  have e : sliceBounds none (some b) none x.length = (((0 : Nat) : Int), (((x.length + b).toNat : Nat) : Int), 1) := by
    simp only [sliceBounds, Option.getD_none, show (1 : Int) > 0 by decide, if_true, if_pos h]
    congr 1
    congr 1
    omega
  rw [pick_nat x e]
  simp
theorem pick_all {α : Type} (x : List α) : pick x none none none = x := by
  have e : sliceBounds none none none x.length = (((0 : Nat) : Int), ((x.length : Nat) : Int), 1) := by
    simp only [sliceBounds, Option.getD_none, show (1 : Int) > 0 by decide, if_true]
    rfl
  rw [pick_nat x e]
  simp
section
variable {W : Wd} {Γ : Ev} {n : Nat} {σ : St} {K : AV → St → Prop}

inductive PartIs : AV → Option Int → Prop
  | none : PartIs .none none
  | int (i) : PartIs (.int i) (some i)
def EVP (W : Wd) (Γ : Ev) : Option Expr → St → (Option Int → St → Prop) → Prop
  | none, σ, K => K none σ
  | some e, σ, K => EV W Γ e σ fun a σ₁ => ∃ p, PartIs a p ∧ K p σ₁
theorem part_go (O : WdOk W) {K : Option Int → St → Prop} {p : Option Expr} (h : EVP W Γ p σ K) {s : Shared} {ρ : List Addr} (H : Abs W Γ σ ρ s) :
    wpAny (model W.prog W.w) Γ.A (evalPart p Γ.env) (fun v s' => ∃ ρ' q σ', Abs W Γ σ' ρ' s' ∧ Trans Γ.U s s' ρ ρ' ∧ IsPart v q ∧ K q σ') NoE s := by
  cases p with
  | none =>
    rw [evalPart_none]
    exact wpAny_pure ⟨ρ, none, σ, H, .refl .., .none, h⟩
  | some e =>
    refine wpAny_evalPart_some (wpAny_mono (h s ρ H) (fun v s₁ h₁ => ?_) fun _ _ x => x)
    obtain ⟨ρ₁, av, σ₁, H₁, T₁, R₁, q, hq, k₁⟩ := h₁
    cases hq with
    | none => cases R₁; exact ⟨ρ₁, none, σ₁, H₁, T₁, .none, k₁⟩
    | int i => cases R₁; exact ⟨ρ₁, some i, σ₁, H₁, T₁, .int _ _, k₁⟩

def SlcOk (W : Wd) (n : Nat) (o : AV) (l u st : Option Int) (os : List AO) (K : AV → List AO → Prop) : Prop :=
  ∀ A s ρ v a vl vu vs, Room n A → AbsO W os ρ s → Rel s.heap ρ o v → s.heap.IsSliceOf a vl vu vs → IsPart vl l → IsPart vu u → IsPart vs st →
    (∃ T id, s.TypeIs v T ∧ typeLookup (.type T) "__getitem__" = pure (some (.builtin id))) ∧ wpAny (model W.prog W.w) A (getItem v (.ref a)) (RO W s ρ K) NoE s

theorem E_slice (O : WdOk W) (Z : EvOk Γ n) {value : Expr} {lower upper step : Option Expr} {p pos : Pos}
    (h : EV W Γ value σ fun o σ₁ => EVP W Γ lower σ₁ fun l σ₂ => EVP W Γ upper σ₂ fun u σ₃ => EVP W Γ step σ₃ fun st σ₄ => SlcOk W n o l u st σ₄.os fun c os' => K c { σ₄ with os := os' })
    (hs : ∀ o i, ∃ l, subscripted (.Slice lower upper step p) false o i = operate l (getItem o i) := by intro _ _; exact ⟨_, rfl⟩) : EV W Γ (.Subscript value (.Slice lower upper step p) pos) σ K := by
  intro s ρ H
  refine Subscript_ (wpAny_mono (h s ρ H) (fun a s₁ h₁ => ?_) fun _ _ x => x)
  obtain ⟨ρ₁, av, σ₁, H₁, T₁, R₁, k₁⟩ := h₁
  refine wpAny_Slice (wpAny_mono (part_go O k₁ H₁) (fun vl s₂ h₂ => ?_) fun _ _ x => x)
  obtain ⟨ρ₂, l, σ₂, H₂, T₂, P₂, k₂⟩ := h₂
  refine wpAny_mono (part_go O k₂ H₂) (fun vu s₃ h₃ => ?_) fun _ _ x => x
  obtain ⟨ρ₃, u, σ₃, H₃, T₃, P₃, k₃⟩ := h₃
  refine wpAny_mono (part_go O k₃ H₃) (fun vs s₄ h₄ => ?_) fun _ _ x => x
  obtain ⟨ρ₄, st, σ₄, H₄, T₄, P₄, k₄⟩ := h₄
  obtain ⟨H₅, T₅⟩ := H₄.grow O (s' := { s₄ with heap := s₄.heap.push { cls := .type "slice", data := .fields #[vl, vu, vs] } }) (push_old _) H₄.1.gens rfl
  have Tall := T₂.trans (T₃.trans (T₄.trans T₅))
  obtain ⟨⟨T, id, hT, hl⟩, hg⟩ := k₄ Γ.A _ ρ₄ a s₄.heap.objs.size vl vu vs Z.room H₅.1 (R₁.tr Tall) (.new ..) P₂ P₃ P₄
  exact sub_go hT hl (hs a _) (wpAny_mono hg (fun v s₆ h₆ => ((RV.of_RO H₅ h₆).tr Tall).tr T₁) fun _ _ x => x)

theorem made_str (O : WdOk W) {os : List AO} {ρ : List Addr} {s : Shared} {x : List Nat} {t : Tok} {K : AV → List AO → Prop} (H : AbsO W os ρ s) {l u st : Option (Int × Tok)} (hx : x.length ≤ 16777216) (hst : (pick x (l.map (·.1)) (u.map (·.1)) (st.map (·.1))).length ≤ 16777216)
    (h : K (.str (pick x (l.map (·.1)) (u.map (·.1)) (st.map (·.1)))) os) : (sliceMade (S x) t l u st).post (RO W s ρ K) s := by
  have epk : slicePicked (S x) l u st = sliceRange (sliceBounds (l.map (·.1)) (u.map (·.1)) (st.map (·.1)) x.length).1 (sliceBounds (l.map (·.1)) (u.map (·.1)) (st.map (·.1)) x.length).2.1 (sliceBounds (l.map (·.1)) (u.map (·.1)) (st.map (·.1)) x.length).2.2 := by
    unfold slicePicked
    rw [S_len]
    rfl
  unfold sliceMade
  split
  · rename_i hc
    rw [Bool.and_eq_true] at hc
    have h1 : (st.map (·.1)).getD 1 = 1 := by simpa using hc.1
    have h2 : (slicePicked (S x) l u st).length = x.length := by have := hc.2; rw [S_len] at this; simpa using this
    have : pick x (l.map (·.1)) (u.map (·.1)) (st.map (·.1)) = x := by
      cases st with
      | none => rw [epk] at h2; exact pick_len x _ _ h2
      | some q =>
        have hq : q.1 = 1 := h1
        have e : sliceBounds (l.map (·.1)) (u.map (·.1)) (Option.map (·.1) (some q)) x.length = sliceBounds (l.map (·.1)) (u.map (·.1)) none x.length := by
          simp only [sliceBounds, Option.map_some, Option.getD_some, Option.getD_none, hq]
        rw [epk, e] at h2
        have := pick_len x _ _ h2
        unfold pick at this ⊢
        rw [e]; exact this
    rw [this] at h
    exact RO.same O H (.str _ _) h
  · have e : (⟨((slicePicked (S x) l u st).filterMap ((S x).cps[·]?)).toArray⟩ : Str) = S (pick x (l.map (·.1)) (u.map (·.1)) (st.map (·.1))) := by
      rw [epk]
      unfold pick
      simp
    show _ ∧ _
    rw [e, S_len, sizeLine_num]
    exact ⟨hst, RO.toks O H (.str _ _) h⟩

theorem Slc_str (O : WdOk W) {x : List Nat} {l u st : Option Int} {os : List AO} {K : AV → List AO → Prop} (hx : x.length ≤ 16777216) (h0 : st ≠ some 0) (hst : (pick x l u st).length ≤ 16777216) (h : K (.str (pick x l u st)) os) : SlcOk W n (.str x) l u st os K := by
  intro A s ρ v a vl vu vs R H r hs pl pu ps
  cases r
  rename_i t
  have lift : ∀ {v : Value} {p : Option Int}, IsPart v p → ∃ q : Option (Int × Tok), v = partValue q ∧ q.map (·.1) = p := fun hp => by
    cases hp with
    | none => exact ⟨none, rfl, rfl⟩
    | int i t => exact ⟨some (i, t), rfl, rfl⟩
  obtain ⟨ql, rfl, rfl⟩ := lift pl
  obtain ⟨qu, rfl, rfl⟩ := lift pu
  obtain ⟨qs, rfl, rfl⟩ := lift ps
  refine ⟨⟨_, _, typeIs_str _ _ _, F.slot_str_getitem.lookup⟩, wpAny_getItem_str_slice (l := ql) (u := qu) (st := qs) hs ?_ (made_str O H hx hst h)⟩
  cases qs with
  | none => rfl
  | some q => simpa using h0

/-! ### items -/
theorem It_lst (O : WdOk W) {k : Nat} {xs : List AV} {i : Int} {a : AV} {os : List AO} {K : AV → List AO → Prop} (hk : os[k]? = some (.lst xs)) (h0 : 0 ≤ i) (hf : i < 2 ^ 63) (hx : xs[i.toNat]? = some a) (h : K a os) : ItemOk W n (.obj k) (.int i) os K := by
  intro A s ρ v u R H r1 r2; cases r1; cases r2
  rename_i b hb _
  obtain ⟨b', hb', ws, nn, ho, hR⟩ := H.objs k _ hk
  rw [hb] at hb'; cases hb'
  obtain ⟨v, hv, hr⟩ := hR.get hx
  have hl : s.heap.IsList b ws.toArray := ⟨_, ho, rfl, nn, rfl⟩
  exact ⟨⟨_, _, hl.typeIs, slot_list_getitem.lookup⟩, wpAny_getItem_list hl h0 hf (x := v) (by simpa using hv) (RO.same O H hr h)⟩
theorem It_tup (O : WdOk W) {l : List AV} {i : Int} {a : AV} {os : List AO} {K : AV → List AO → Prop} (h0 : 0 ≤ i) (hf : i < 2 ^ 63) (hx : l[i.toNat]? = some a) (h : K a os) : ItemOk W n (.tup l) (.int i) os K := by
  intro A s ρ v u R H r1 r2; cases r1; cases r2
  rename_i b ws m ho hR _
  obtain ⟨v, hv, hr⟩ := hR.get hx
  have ht : IsTup s.heap b ws.toArray := ⟨_, ho, rfl, m, rfl⟩
  have hlt : i.toNat < ws.length := (List.getElem?_eq_some_iff.mp hv).1
  refine ⟨⟨"tuple", "tuple.__getitem__", ⟨_, ho, rfl⟩, F.slot_tuple_getitem.lookup⟩, PyProof.Rows.getItem_tuple ht (j := i.toNat) (x := v) (by omega) hf ?_ (by simpa using hv) (RO.same O H hr h)⟩
  have hs : ws.toArray.size = ws.length := by simp
  rw [hs]
  have hi : (i.toNat : Int) < ws.length := by exact_mod_cast hlt
  show (if (0 ≤ (if i < 0 then i + ws.length else i) && (if i < 0 then i + (ws.length : Int) else i) < ws.length) = true then some (if i < 0 then i + (ws.length : Int) else i).toNat else none) = _
  rw [if_neg (show ¬ i < 0 by omega)]
  rw [if_pos (by rw [Bool.and_eq_true, decide_eq_true_eq, decide_eq_true_eq]; omega)]
end
end Mine
end

section
open PySem PySem.W PyProof.Rows
set_option Elab.async false
set_option maxRecDepth 100000
set_option linter.unusedVariables false
namespace Mine

section
variable {W : Wd} {Γ : Ev} {n : Nat} {σ : St}

/-! ### x op= e -/
def IopOk (W : Wd) (n : Nat) (op : Operator) (a b : AV) (os : List AO) (K : AV → List AO → Prop) : Prop :=
  ∀ A s ρ v u, Room n A → AbsO W os ρ s → Rel s.heap ρ a v → Rel s.heap ρ b u → wpAny (model W.prog W.w) A (inplaceOp op v u) (RO W s ρ K) NoE s
theorem I_add (O : WdOk W) {os : List AO} {K : AV → List AO → Prop} {a b : Int} (h : K (.int (a + b)) os) : IopOk W n .Add (.int a) (.int b) os K := by
  intro A s ρ v u R H r1 r2; cases r1; cases r2
  exact PyProof.Rows.iadd_int (RO.toks O H (.int _ _) h)
theorem I_sub (O : WdOk W) {os : List AO} {K : AV → List AO → Prop} {a b : Int} (h : K (.int (a - b)) os) : IopOk W n .Sub (.int a) (.int b) os K := by
  intro A s ρ v u R H r1 r2; cases r1; cases r2
  exact PySem.AutoIntOps.isub_0 (RO.toks O H (.int _ _) h)
theorem I_fdiv (O : WdOk W) {os : List AO} {K : AV → List AO → Prop} {a b : Int} (hb : b ≠ 0) (hs : b.natAbs < 1073741824) (h : K (.int (a.fdiv b)) os) : IopOk W n .FloorDiv (.int a) (.int b) os K := by
  intro A s ρ v u R H r1 r2; cases r1; cases r2
  exact PyProof.Rows.ifloordiv_int hb (RO.toks O H (.int _ _) h) (.inl (PyProof.noPylong_small hs))
theorem I_cat (O : WdOk W) {os : List AO} {K : AV → List AO → Prop} {a b : List Nat} (hs : a.length + b.length ≤ 16777216) (h : K (.str (a ++ b)) os) : IopOk W n .Add (.str a) (.str b) os K := by
  intro A s ρ v u R H r1 r2; cases r1; cases r2
  refine PyProof.Rows.iadd_str (fun t' tk => ?_) (by rw [S_len, S_len, sizeLine_num]; exact hs)
  rw [S_append]
  exact RO.toks O H (.str _ _) h

theorem X_aug (O : WdOk W) (Z : EvOk Γ n) {x : Str} {p₁ pos : Pos} {op : Operator} {e : Expr} {a : AV} {K : AFlow → St → Prop} (hx : At Γ.nm σ.fr x a)
    (h : EV W Γ e σ fun b σ₁ => IopOk W n op a b σ₁.os fun c os' => ∃ fr', Put x c Γ.nm σ₁.fr fr' ∧ K .next { σ₁ with fr := fr', os := os' }) : EX1 W Γ (.AugAssign (.Name x p₁) op e pos) σ K := by
  intro s ρ H
  obtain ⟨m, F, l⟩ := H.2.1.ex
  obtain ⟨v, hv, hr⟩ := l.at hx
  refine wpAny_AugAssign_Name (wpAny_loadName_local Z.kind (Z.loc x hx.mem) F.ns hv (wpAny_mono (h s ρ H) (fun u s₁ h₁ => ?_) fun _ _ x => x))
  obtain ⟨ρ₁, bv, σ₁, H₁, T₁, R₁, k₁⟩ := h₁
  refine wpAny_mono (k₁ Γ.A s₁ ρ₁ v u Z.room H₁.1 (hr.tr T₁) R₁) (fun c s₂ h₂ => ?_) fun _ _ x => x
  obtain ⟨ρ₂, cv, os', H₂, T₂, R₂, fr', hp, k₂⟩ := h₂
  obtain ⟨H₂', T₂'⟩ := H₁.step H₂ T₂
  exact store_local (σ := { σ₁ with os := os' }) Z hp H₂' O R₂ fun s' H' T' => ⟨ρ₂, .next, _, H', (T₁.trans (T₂'.trans T')).P H.2.2, .next, k₂⟩

/-! ### x = y = e -/
theorem X_assign2 (O : WdOk W) (Z : EvOk Γ n) {x y : Str} {p₁ p₂ pos : Pos} {e : Expr} {K : AFlow → St → Prop}
    (h : EV W Γ e σ fun a σ₁ => ∃ fr₁ fr₂, Put x a Γ.nm σ₁.fr fr₁ ∧ Put y a Γ.nm fr₁ fr₂ ∧ K .next { σ₁ with fr := fr₂ })
    (hs : swapsWithSole [.Name x p₁, .Name y p₂] e pos.line Γ.env = pure false := by rfl) (hw : swappedStores [.Name x p₁, .Name y p₂] e Γ.env = pure none := by rfl) : EX1 W Γ (.Assign [.Name x p₁, .Name y p₂] e pos) σ K := by
  intro s ρ H
  refine wpAny_Assign_stores (wpAny_mono (h s ρ H) (fun v s₁ h₁ => ?_) fun _ _ x => x) hs hw
  obtain ⟨ρ₁, av, σ₁, H₁, T₁, R₁, fr₁, fr₂, hp1, hp2, k₁⟩ := h₁
  show wpAny _ _ (assignAll v [assign (.Name x p₁) Γ.env, assign (.Name y p₂) Γ.env]) _ _ _
  refine wpAny_bind (wpAny_holding (wpAny_assign_Name (store_local Z hp1 H₁ O R₁ fun s' H' T' => ?_)))
  exact wpAny_assign_Name (store_local (σ := { σ₁ with fr := fr₁ }) Z hp2 H' O (R₁.tr T') fun s'' H'' T'' => ⟨ρ₁, .next, _, H'', (T₁.trans (T'.trans T'')).P H.2.2, .next, k₁⟩)

/-! ### a, b, .. = e -/
def AsgL (W : Wd) (Γ : Ev) : List Expr → List AV → St → (St → Prop) → Prop
  | [], [], σ, K => K σ
  | t :: ts, a :: as, σ, K => AS W Γ t a σ fun σ₁ => AsgL W Γ ts as σ₁ K
  | _, _, _, _ => False
theorem asgL_go {K : St → Prop} {vs : List Value} : ∀ {ts : List Expr} {as : List AV} {σ : St} {s : Shared} {ρ : List Addr}, AsgL W Γ ts as σ K → Abs W Γ σ ρ s → RelL s.heap ρ as vs → (∀ t ∈ ts, ∃ x p, t = .Name x p) →
    wpAny (model W.prog W.w) Γ.A (assignInOrder ((assignEach ts Γ.env).map (·.2)) vs) (RU W Γ s ρ K) NoE s := by
  induction vs with
  | nil =>
    intro ts as σ s ρ h H r hn
    cases r
    cases ts with
    | nil => exact wpAny_assignInOrder_none ⟨ρ, σ, H, .refl .., h⟩
    | cons t ts => exact False.elim h
  | cons v vs ih =>
    intro ts as σ s ρ h H r hn
    cases r with
    | cons r rs =>
      cases ts with
      | nil => exact False.elim h
      | cons t ts =>
        obtain ⟨x, p, rfl⟩ := hn t (.head _)
        show wpAny _ _ (assignInOrder (assign (.Name x p) Γ.env :: (assignEach ts Γ.env).map (·.2)) _) _ _ _
        refine wpAny_assignInOrder_more (wpAny_mono (h s ρ _ H r) (fun _ s₁ h₁ => ?_) fun _ _ x => x)
        obtain ⟨ρ₁, σ₁, H₁, T₁, k₁⟩ := h₁
        refine wpAny_mono (ih k₁ H₁ (rs.tr T₁) fun t ht => hn t (.tail _ ht)) (fun _ s₂ h₂ => ?_) fun _ _ x => x
        obtain ⟨ρ₂, σ₂, H₂, T₂, k₂⟩ := h₂
        exact ⟨ρ₂, σ₂, H₂, T₁.trans T₂, k₂⟩
theorem each_names {env : Env} : ∀ {ts : List Expr}, (∀ t ∈ ts, ∃ x p, t = Expr.Name x p) → (assignEach ts env).length = ts.length ∧ (assignEach ts env).findIdx? (·.1) = none
  | [], _ => ⟨rfl, rfl⟩
  | t :: ts, h => by
    obtain ⟨x, p, rfl⟩ := h t (.head _)
    obtain ⟨a, b⟩ := each_names (env := env) (ts := ts) fun t ht => h t (.tail _ ht)
    have e : assignEach (.Name x p :: ts) env = (false, assign (.Name x p) env) :: assignEach ts env := rfl
    rw [e]
    refine ⟨by simp [a], ?_⟩
    rw [List.findIdx?_cons]
    simp [b]

theorem extBut_keep {h h' : Heap} (e : Heap.ExtBut h.objs.size h h') : ∀ b o, h.get? b = some o → h'.get? b = some o := fun b o q => e b o (Nat.ne_of_lt (Heap.lt_size q)) q

theorem A_tuple (O : WdOk W) (Z : EvOk Γ n) {ts : List Expr} {k : Nat} {pos : Pos} {l : List AV} {K : St → Prop} (hn : ∀ t ∈ ts, ∃ x p, t = Expr.Name x p) (hl : ts.length = l.length) (h : AsgL W Γ ts l σ K) : AS W Γ (.Tuple ts k pos) (.tup l) σ K := by
  intro s ρ v H R
  cases R
  rename_i a vs m ho hR
  obtain ⟨e1, e2⟩ := each_names (env := Γ.env) hn
  refine wpAny_assign_Tuple Z.room.1 (items := vs.toArray) ⟨_, ho, rfl, m, rfl⟩ (by rw [e1, hl]; simp [hR.length]) e2 (fun h' he => ?_)
  obtain ⟨H₁, T₁⟩ := H.grow O (s' := { s with heap := h' }) (extBut_keep he) H.1.gens rfl
  refine wpAny_mono (asgL_go (vs := vs) h H₁ (hR.tr T₁) hn) (fun _ s₂ h₂ => ?_) fun _ _ x => x
  obtain ⟨ρ₂, σ₂, H₂, T₂, k₂⟩ := h₂
  exact ⟨ρ₂, σ₂, H₂, T₁.trans T₂, k₂⟩
theorem X_assignT {ts : List Expr} {k : Nat} {p₁ pos : Pos} {e : Expr} {K : AFlow → St → Prop} (h : EV W Γ e σ fun a σ₁ => AS W Γ (.Tuple ts k p₁) a σ₁ fun σ₂ => K .next σ₂)
    (hs : swapsWithSole [.Tuple ts k p₁] e pos.line Γ.env = pure false := by rfl) (hw : swappedStores [.Tuple ts k p₁] e Γ.env = pure none := by rfl) : EX1 W Γ (.Assign [.Tuple ts k p₁] e pos) σ K := by
  intro s ρ H
  refine PyProof.Rows.Assign_Tuple (wpAny_mono (h s ρ H) (fun v s₁ h₁ => ?_) fun _ _ x => x) hs hw
  obtain ⟨ρ₁, av, σ₁, H₁, T₁, R₁, k₁⟩ := h₁
  refine wpAny_mono (k₁ s₁ ρ₁ v H₁ R₁) (fun _ s₂ h₂ => ?_) fun _ _ x => x
  obtain ⟨ρ₂, σ₂, H₂, T₂, k₂⟩ := h₂
  exact ⟨ρ₂, .next, σ₂, H₂, (T₁.trans T₂).P H.2.2, .next, k₂⟩

theorem swapped_two {env : Env} {x y : Str} {p₁ p₂ tp vp : Pos} {k k' : Nat} {u v : Expr} (hk : env.scope.kind = .function) (hx : env.kindOf x = some .local) (hy : env.kindOf y = some .local) (hl : (p₂.line == p₁.line) = true) (hxy : x ≠ y)
    (h1 : ([u, v].any fun | .Starred .. => true | _ => false) = false) (h2 : ([u, v].all (foldedForSure 8)) = false) (h3 : ([u, v].all (constantsAlone 8)) = false) :
    swappedStores [.Tuple [.Name x p₁, .Name y p₂] k tp] (.Tuple [u, v] k' vp) env = pure (some [x, y]) := by
  have hb : env.blockKind = .function := by unfold Env.blockKind; rw [hk]; rfl
  have hl1 : (p₁.line == p₁.line) = true := by simp
  have hne : (x == y) = false := by simpa using hxy
  have hne' : (y == x) = false := by simpa using fun h : y = x => hxy h.symm
  unfold swappedStores
  have hp1 : (Expr.Name x p₁).pos = p₁ := rfl
  simp only [List.length_cons, List.length_nil, hb, List.head?_cons, Option.map_some, Option.getD_some, hp1]
  simp only [List.filterMap_cons, List.filterMap_nil, hx, hy, hl, hl1, Bool.and_true, beq_self_eq_true, if_true, h2, h3, List.length_cons, List.length_nil]
  have he : ([x, y] : List Str).eraseDups = [x, y] := by
    simp [List.eraseDups_cons, hne']
  rw [he]
  rw [if_neg (by decide)]
  split
  · rename_i q
    exact Bool.noConfusion (h1.symm.trans q)
  · rfl

theorem X_swap (O : WdOk W) (Z : EvOk Γ n) {x y : Str} {p₁ p₂ tp vp pos : Pos} {k k' : Nat} {u v : Expr} {K : AFlow → St → Prop}
    (h : EV W Γ (.Tuple [u, v] k' vp) σ fun c σ₁ => ∃ a b, c = .tup [a, b] ∧ ∃ fr₁ fr₂, Put y b Γ.nm σ₁.fr fr₁ ∧ Put x a Γ.nm fr₁ fr₂ ∧ K .next { σ₁ with fr := fr₂ })
    (hl : (p₂.line == p₁.line) = true) (hxy : x ≠ y) (hx : x ∈ Γ.nm) (hy : y ∈ Γ.nm)
    (h1 : ([u, v].any fun | .Starred .. => true | _ => false) = false) (h2 : ([u, v].all (foldedForSure 8)) = false) (h3 : ([u, v].all (constantsAlone 8)) = false) :
    EX1 W Γ (.Assign [.Tuple [.Name x p₁, .Name y p₂] k tp] (.Tuple [u, v] k' vp) pos) σ K := by
  intro s ρ H
  refine PyProof.Rows.Assign_Tuple_swapped (names := [x, y]) (wpAny_mono (h s ρ H) (fun w s₁ h₁ => ?_) fun _ _ x => x) rfl (swapped_two Z.kind (Z.loc x hx) (Z.loc y hy) hl hxy h1 h2 h3)
  obtain ⟨ρ₁, av, σ₁, H₁, T₁, R₁, a, b, rfl, fr₁, fr₂, hp1, hp2, k₁⟩ := h₁
  cases R₁
  rename_i t vs m ho hR
  cases hR with
  | cons ra hR => cases hR with
    | cons rb hR => cases hR with
      | nil =>
        rename_i va vb
        refine unpackItems_tuple (items := [va, vb].toArray) Z.room.1 ⟨_, ho, rfl, m, rfl⟩ (fun h' he => ?_)
        obtain ⟨H₂, T₂⟩ := H₁.grow O (s' := { s₁ with heap := h' }) (extBut_keep he) H₁.1.gens rfl
        show wpAny _ _ (assignInOrder [fun v => bindName Γ.env y v, fun v => bindName Γ.env x v] [vb, va]) _ _ _
        refine wpAny_assignInOrder_more (wpAny_bindName (store_local Z hp1 H₂ O (rb.tr T₂) fun s' H' T' => ?_))
        refine wpAny_assignInOrder_more (wpAny_bindName (store_local (σ := { σ₁ with fr := fr₁ }) Z hp2 H' O ((ra.tr T₂).tr T') fun s'' H'' T'' => ?_))
        exact wpAny_assignInOrder_none ⟨ρ₁, .next, _, H'', (T₁.trans (T₂.trans (T'.trans T''))).P H.2.2, .next, k₁⟩

/-! ### o[i] = e -/
theorem mapSeq_set (its : Array Value) (m j : Nat) (x : Value) : Obj.mapSeq (·.setIfInBounds j x) { cls := .type "list", data := .seq its m } = { cls := .type "list", data := .seq (its.setIfInBounds j x) m } := by
  simp [Obj.mapSeq]
theorem setItem_plain {prog : Program} {w : World} {A : Around} {E : Value → Shared → Prop} {s : Shared} {l : Addr} {items : List Value} {m : Nat} {k : Int} {t : Tok} {v : Value} {Q : Unit → Shared → Prop} (ho : s.heap.get? l = some (lstO items m))
    (h0 : 0 ≤ k) (hf : k < 2 ^ 63) (hn : k < items.length)
    (hQ : ∀ h', h'.get? l = some (lstO (items.set k.toNat v) m) → Heap.SameBut l s.heap h' → Q () { s with heap := h' }) : wpAny (model prog w) A (setItem (.ref l) (.int k t) v) Q E s := by
  have hT : s.TypeIs (.ref l) "list" := ⟨_, ho, rfl⟩
  have hj : k.toNat < items.toArray.size := by simp; omega
  have hk : items.toArray[k.toNat]? = some items.toArray[k.toNat] := Array.getElem?_eq_getElem hj
  have hkk : k = (k.toNat : Int) := by omega
  have done : Q () { s with heap := s.heap.update l (Obj.mapSeq (·.setIfInBounds k.toNat v)) } := by
    refine hQ _ ?_ (Heap.SameBut.update ..)
    rw [Heap.get?_update_self _ ho (by rw [mapSeq_set]; rfl), mapSeq_set]
    simp
  unfold setItem
  refine wpAny_holding (wpAny_bind (wpAny_sequenceKey hT (by decide) (wpAny_bind ?_)))
  refine wpAny_callSpecial?_slot (name := Str.ofString "__setitem__") hT slot_list_setitem (wpAny_call_entry slot_list_setitem hT entry_list_setitem ?_ (args_list_setitem _ _ _))
  show wpAny _ _ (Builtin.List.listSubscript? (.int k t) >>= _) _ _ s
  refine wpAny_bind (wpAny_listSubscript_int (fitsIndex_of h0 hf) ?_)
  generalize k.toNat = j at *
  subst hkk
  show wpAny _ _ ((seqItemAt l j >>= fun r => pure (r.map (j, ·))) >>= _) _ _ s
  refine wpAny_bind (wpAny_bind (wpAny_seqItemAt ho rfl (wpAny_pure ?_)))
  rw [hk]
  show wpAny _ _ (setSeqItemAt l j v >>= _) _ _ s
  refine wpAny_bind (wpAny_setSeqItemAt ho rfl ?_)
  exact wpAny_bind (wpAny_pure (wpAny_pure ⟨.none, rfl, wpAny_pure done⟩))
theorem X_setitem (O : WdOk W) (Z : EvOk Γ n) {o i e : Expr} {p₁ pos : Pos} {K : AFlow → St → Prop}
    (h : EV W Γ e σ fun a σ₁ => EV W Γ o σ₁ fun ov σ₂ => EV W Γ i σ₂ fun iv σ₃ => ∃ k xs j, ov = .obj k ∧ iv = .int j ∧ σ₃.os[k]? = some (.lst xs) ∧ 0 ≤ j ∧ j < xs.length ∧ j < 2 ^ 63 ∧ K .next { σ₃ with os := σ₃.os.set k (.lst (xs.set j.toNat a)) })
    (hs : swapsWith e (some (.Subscript o i p₁)) pos.line Γ.env = pure false := by rfl) : EX1 W Γ (.Assign [.Subscript o i p₁] e pos) σ K := by
  intro s ρ H
  refine wpAny_Assign_Subscript (wpAny_mono (h s ρ H) (fun v s₁ h₁ => ?_) fun _ _ x => x) hs
  obtain ⟨ρ₁, av, σ₁, H₁, T₁, R₁, k₁⟩ := h₁
  refine wpAny_mono (k₁ s₁ ρ₁ H₁) (fun ov s₂ h₂ => ?_) fun _ _ x => x
  obtain ⟨ρ₂, oa, σ₂, H₂, T₂, R₂, k₂⟩ := h₂
  refine wpAny_mono (k₂ s₂ ρ₂ H₂) (fun iv s₃ h₃ => ?_) fun _ _ x => x
  obtain ⟨ρ₃, ia, σ₃, H₃, T₃, R₃, k, xs, j, rfl, rfl, hk, h0, hlt, hf, k₃⟩ := h₃
  cases R₃
  have R₂' := R₂.tr T₃
  cases R₂'
  rename_i b hb
  have Ra := (R₁.tr T₂).tr T₃
  obtain ⟨b', hb', ws, nn, ho, hR⟩ := H₃.1.objs k _ hk
  rw [hb] at hb'; cases hb'
  refine setItem_plain (items := ws) (m := nn) ho h0 hf (by rw [hR.length]; exact hlt) (fun h' e1 e2 => ?_)
  have hsol : ∀ a o, Solid o → s₃.heap.get? a = some o → h'.get? a = some o := fun a o so e => (e2.2 a fun q => H₃.1.notSolid O (List.mem_of_getElem? hb) (q ▸ e) so).trans e
  obtain ⟨x, y⟩ := H₃.1.upd O (s' := { s₃ with heap := h' }) (o' := .lst (xs.set j.toNat av)) hb (by simp [hk]) (fun b o hb e => (e2.2 b hb).trans e) (by rw [e1]; simp) ⟨_, nn, e1, (hR.set j.toNat Ra).mono hsol fun _ _ e => e⟩ H₃.1.gens rfl
  obtain ⟨x', y'⟩ := H₃.step x y
  exact ⟨_, .next, _, x', (T₁.trans (T₂.trans (T₃.trans y'))).P H.2.2, .next, k₃⟩
end
end Mine
end

section
open PySem PySem.W PyProof.Rows
set_option Elab.async false
set_option maxRecDepth 100000
set_option linter.unusedVariables false
namespace Mine

theorem boot_len : bootBuiltins "len" = some (.builtin "len") := by decide +kernel
theorem boot_min : bootBuiltins "min" = some (.builtin "min") := by decide +kernel
theorem boot_max : bootBuiltins "max" = some (.builtin "max") := by decide +kernel
theorem boot_abs : bootBuiltins "abs" = some (.builtin "abs") := by decide +kernel
theorem boot_ord : bootBuiltins "ord" = some (.builtin "ord") := by decide +kernel
theorem boot_divmod : bootBuiltins "divmod" = some (.builtin "divmod") := by decide +kernel
section
variable {W : Wd} {Γ : Ev} {n : Nat} {σ : St} {os : List AO} {K : AV → List AO → Prop}

theorem V_len_str (O : WdOk W) {l : List Nat} (hl : l.length ≤ 16777216) (h : K (.int l.length) os) : CallV W n (.builtin "len") [.str l] os K := by
  intro A s ρ vs R H hr
  cases hr with | cons r rs => cases r; cases rs; exact PyProof.Rows.len_str (by rw [S_len]; omega) (by rw [S_len]; exact RO.toks O H (.int _ _) h)
theorem V_len_lst (O : WdOk W) {k : Nat} {xs : List AV} (hk : os[k]? = some (.lst xs)) (hl : xs.length ≤ 16777216) (h : K (.int xs.length) os) : CallV W n (.builtin "len") [.obj k] os K := by
  intro A s ρ vs R H hr
  cases hr with
  | cons r rs =>
    cases r; cases rs
    rename_i b hb
    obtain ⟨b', hb', ws, nn, ho, hR⟩ := H.objs k _ hk
    rw [hb] at hb'; cases hb'
    have e : (ws.toArray.size : Int) = xs.length := by simp [hR.length]
    refine Calls.call_len_list (items := ws.toArray) ⟨_, ho, rfl, nn, rfl⟩ (by rw [e]; omega) ?_
    rw [e]
    exact RO.toks O H (.int _ _) h
theorem V_min2 (O : WdOk W) {a b : Int} (h : K (.int (min a b)) os) : CallV W n (.builtin "min") [.int a, .int b] os K := by
  intro A s ρ vs R H hr
  cases hr with
  | cons r rs =>
    cases r; cases rs with
    | cons r rs =>
      cases r; cases rs
      refine min_two_ints R.1 (fun h' tk hk => ?_)
      have e : min a b = if b < a then b else a := by omega
      rw [e] at h
      by_cases hc : b < a
      · rw [if_pos hc] at h ⊢; exact RO.grown O H (s' := { s with heap := h', toks := tk }) hk rfl rfl (.int _ _) h
      · rw [if_neg hc] at h ⊢; exact RO.grown O H (s' := { s with heap := h', toks := tk }) hk rfl rfl (.int _ _) h
theorem V_max2 (O : WdOk W) {a b : Int} (h : K (.int (max a b)) os) : CallV W n (.builtin "max") [.int a, .int b] os K := by
  intro A s ρ vs R H hr
  cases hr with
  | cons r rs =>
    cases r; cases rs with
    | cons r rs =>
      cases r; cases rs
      refine max_two_ints R.1 (fun h' tk hk => ?_)
      have e : max a b = if b > a then b else a := by omega
      rw [e] at h
      by_cases hc : b > a
      · rw [if_pos hc] at h ⊢; exact RO.grown O H (s' := { s with heap := h', toks := tk }) hk rfl rfl (.int _ _) h
      · rw [if_neg hc] at h ⊢; exact RO.grown O H (s' := { s with heap := h', toks := tk }) hk rfl rfl (.int _ _) h
theorem V_abs (O : WdOk W) {a : Int} (h : K (.int (a.natAbs : Int)) os) : CallV W n (.builtin "abs") [.int a] os K := by
  intro A s ρ vs R H hr
  cases hr with
  | cons r rs =>
    cases r; cases rs
    refine PyProof.Rows.call_abs_int (fun u tk => ?_)
    have e : (if a < 0 then -a else a) = (a.natAbs : Int) := by split <;> omega
    rw [e]
    exact RO.toks O H (.int _ _) h
theorem V_ord (O : WdOk W) {c : Nat} (h : K (.int c) os) : CallV W n (.builtin "ord") [.str [c]] os K := by
  intro A s ρ vs R H hr
  cases hr with
  | cons r rs =>
    cases r; cases rs
    exact PyProof.Rows.ord_of_one rfl (RO.toks O H (.int _ _) h)

/-! ### methods of texts -/
def lowerL (l : List Nat) : List Nat := (Txt.lower (S l)).cps.toList
theorem lower_S (l : List Nat) : Txt.lower (S l) = S (lowerL l) := by
  apply Str.ext'
  simp [lowerL]
theorem E_lower (O : WdOk W) {o : Expr} {apos pos : Pos} {K : AV → St → Prop} (h : EV W Γ o σ fun a σ₁ => ∃ l, a = .str l ∧ (lowerL l).length ≤ 16777216 ∧ K (.str (lowerL l)) σ₁)
    (hbase : attributeBase o (Str.ofString "lower") Γ.env (eval o Γ.env) = eval o Γ.env := by rfl) (hline : (apos.endLine == pos.line) = true := by rfl) : EV W Γ (.Call (.Attribute o (Str.ofString "lower") apos) [] [] pos) σ K := by
  intro s ρ H
  refine Call_method0 hbase hline (wpAny_mono (h s ρ H) (fun v s₁ h₁ => ?_) fun _ _ x => x)
  obtain ⟨ρ₁, av, σ₁, H₁, T₁, R₁, l, rfl, hl, k₁⟩ := h₁
  cases R₁
  refine SB.lower ?_ ?_
  · show decide ((Txt.lower (S l)).length > sizeLine) = false
    rw [lower_S, S_len, sizeLine_num]
    exact decide_eq_false (by omega)
  · rw [lower_S]
    obtain ⟨x, y⟩ := H₁.grow O (s' := { s₁ with toks := s₁.toks + 1 }) (fun _ _ e => e) H₁.1.gens rfl
    exact ⟨ρ₁, _, σ₁, x, T₁.trans y, .str _ _, k₁⟩
end

/-! ## small helps for walking -/
inductive InL (x : Str) : List Str → Prop
  | here {l} : InL x (x :: l)
  | there {y l} : InL x l → InL x (y :: l)
theorem InL.d1 {x y0 : Str} {l : List Str} : InL x (y0 :: x :: l) := .there .here
theorem InL.d2 {x y0 y1 : Str} {l : List Str} : InL x (y0 :: y1 :: x :: l) := .there (.there .here)
theorem InL.d3 {x y0 y1 y2 : Str} {l : List Str} : InL x (y0 :: y1 :: y2 :: x :: l) := .there (.there (.there .here))
theorem InL.d4 {x y0 y1 y2 y3 : Str} {l : List Str} : InL x (y0 :: y1 :: y2 :: y3 :: x :: l) := .there (.there (.there (.there .here)))
theorem InL.skip {x y0 y1 y2 y3 y4 : Str} {l : List Str} (h : InL x l) : InL x (y0 :: y1 :: y2 :: y3 :: y4 :: l) := .there (.there (.there (.there (.there (h)))))
theorem InL.mem {x : Str} : ∀ {l : List Str}, InL x l → x ∈ l
  | _, .here => .head _
  | _, .there h => .tail _ h.mem
theorem bool_ex {K : Bool → Prop} {b : Bool} (h : K b) : ∃ t, AV.bool b = .bool t ∧ K t := ⟨b, rfl, h⟩
end Mine
end

section
open PySem PySem.W PyProof.Rows
set_option Elab.async false
set_option maxRecDepth 100000
set_option linter.unusedVariables false
namespace Mine
section
variable {W : Wd} {Γ : Ev} {n : Nat}
theorem TE.mono {e : Expr} {σ : St} {K K' : Bool → St → Prop} (h : TE W Γ e σ K') (hk : ∀ a σ', K' a σ' → K a σ') : TE W Γ e σ K := fun s ρ H =>
  wpAny_mono (h s ρ H) (fun v s₁ ⟨ρ', σ', a, b, d⟩ => ⟨ρ', σ', a, b, hk _ _ d⟩) fun _ _ x => x
theorem AS.mono {t : Expr} {a : AV} {σ : St} {K K' : St → Prop} (h : AS W Γ t a σ K') (hk : ∀ σ', K' σ' → K σ') : AS W Γ t a σ K := fun s ρ v H R =>
  wpAny_mono (h s ρ v H R) (fun v s₁ ⟨ρ', σ', a, b, d⟩ => ⟨ρ', σ', a, b, hk _ d⟩) fun _ _ x => x
theorem bsel_mono {b : Bool} {A A' B B' : Prop} (h : bsel b A' B') (h1 : A' → A) (h2 : B' → B) : bsel b A B := by
  cases b
  · exact h2 h
  · exact h1 h
theorem whileK_mono {K : AFlow → St → Prop} {N N' : St → Prop} (hk : ∀ σ, N' σ → N σ) : ∀ f σ, whileK K N' f σ → whileK K N f σ
  | .next, _, h => hk _ h
  | .cont, _, h => hk _ h
  | .brk, _, h => h
  | .ret _, _, h => h
theorem forK_mono {C : St → Prop} {K : AFlow → St → Prop} {N N' : St → Prop} (hk : ∀ σ, N' σ → N σ) : ∀ f σ, forK C K N' f σ → forK C K N f σ
  | .next, _, h => ⟨h.1, hk _ h.2⟩
  | .cont, _, h => ⟨h.1, hk _ h.2⟩
  | .brk, _, h => h
  | .ret _, _, h => h
/-- a while loop by an invariant that goes down -/
theorem W_inv {test : Expr} {body : List Stmt} {K : AFlow → St → Prop} (I : Nat → St → Prop)
    (hs : ∀ k σ, I k σ → TE W Γ test σ fun b σ₁ => bsel b (EX W Γ body σ₁ (whileK K fun σ₂ => ∃ k', k' < k ∧ I k' σ₂)) (K .next σ₁)) :
    ∀ (k : Nat) {σ : St}, I k σ → WL W Γ test body σ K := by
  intro k
  induction k using Nat.strongRecOn with
  | ind k ih =>
    intro σ h
    refine W_step ((hs k σ h).mono fun b σ₁ hb => bsel_mono hb (fun hx => ?_) (fun h => h))
    exact SX.mono hx fun f σ₂ => whileK_mono (fun σ₃ ⟨k', h1, h2⟩ => ih k' h1 h2) f σ₂
theorem W_inv' {test : Expr} {body : List Stmt} {K : AFlow → St → Prop} (I : Nat → St → Prop) (X : St → Prop) (k : Nat) {σ : St} (h : I k σ)
    (hs : ∀ k σ, I k σ → TE W Γ test σ fun b σ₁ => bsel b (EX W Γ body σ₁ (whileK K fun σ₂ => ∃ k', k' < k ∧ I k' σ₂)) (X σ₁)) (hx : ∀ σ, X σ → K .next σ) : WL W Γ test body σ K :=
  W_inv I (fun k σ h => (hs k σ h).mono fun b σ₁ hb => bsel_mono hb (fun h => h) (hx σ₁)) k h
/-- a for loop by an invariant -/
theorem ForG_inv {C : St → Prop} {tgt : Expr} {body : List Stmt} {K : AFlow → St → Prop} (I : Nat → St → Prop) : ∀ {xs : List AV} {σ : St} (_ : I 0 σ)
    (_ : ∀ j x σ, xs[j]? = some x → I j σ → AS W Γ tgt x σ fun σ₁ => EX W Γ body σ₁ (forK C K (I (j + 1)))) (_ : ∀ σ, I xs.length σ → K .next σ), ForG W Γ C tgt body K xs σ := by
  have key : ∀ (xs : List AV) (i : Nat) (σ : St) (_ : I i σ) (_ : ∀ j x σ, xs[j]? = some x → I (i + j) σ → AS W Γ tgt x σ fun σ₁ => EX W Γ body σ₁ (forK C K (I (i + j + 1)))) (_ : ∀ σ, I (i + xs.length) σ → K .next σ), ForG W Γ C tgt body K xs σ := by
    intro xs
    induction xs with
    | nil => intro i σ h0 hs he; exact he σ h0
    | cons x xs ih =>
      intro i σ h0 hs he
      refine (hs 0 x σ rfl h0).mono fun σ₁ h1 => SX.mono h1 fun f σ₂ => forK_mono (fun σ₃ h3 => ?_) f σ₂
      refine ih (i + 1) σ₃ h3 (fun j y σ hy h => ?_) (fun σ h => he σ ?_)
      · have e : i + 1 + j = i + (j + 1) := by omega
        rw [e] at h ⊢
        exact hs (j + 1) y σ (by simpa using hy) h
      · have e : i + 1 + xs.length = i + (x :: xs).length := by simp; omega
        rw [e] at h; exact h
  intro xs σ h0 hs he
  refine key xs 0 σ h0 (fun j x σ hx h => ?_) (fun σ h => he σ ?_)
  · have e : 0 + j = j := by omega
    rw [e] at h ⊢; exact hs j x σ hx h
  · have e : 0 + xs.length = xs.length := by omega
    rw [e] at h; exact h
theorem rangeL_get {a c : Int} {m j : Nat} {x : AV} (h : (rangeL a c m)[j]? = some x) : j < m ∧ x = .int (a + (j : Nat) * c) := by
  have hj : j < m := by have := (List.getElem?_eq_some_iff.mp h).1; simpa [rangeL] using this
  refine ⟨hj, ?_⟩
  simp [rangeL, hj] at h
  exact h.symm
theorem rangeL_length {a c : Int} {m : Nat} : (rangeL a c m).length = m := by simp [rangeL]
end

section
variable {W : Wd} {Γ : Ev} {n : Nat} {σ : St}
theorem P_none {K : Option Int → St → Prop} (h : K none σ) : EVP W Γ none σ K := h
theorem P_some {e : Expr} {K : Option Int → St → Prop} (h : EV W Γ e σ fun a σ₁ => ∃ o, PartIs a o ∧ K o σ₁) : EVP W Γ (some e) σ K := h
theorem part_int {i : Int} {K : Option Int → Prop} (h : K (some i)) : ∃ o, PartIs (.int i) o ∧ K o := ⟨_, .int i, h⟩
theorem part_none {K : Option Int → Prop} (h : K none) : ∃ o, PartIs .none o ∧ K o := ⟨_, .none, h⟩
theorem Slc_sfrom (O : WdOk W) {x : List Nat} {j : Nat} {os : List AO} {K : AV → List AO → Prop} (hx : x.length ≤ 16777216) (h : K (.str (x.drop j)) os) : SlcOk W n (.str x) (some (j : Int)) none none os K := by
  have e : pick x (some (j : Int)) none none = x.drop j := by rw [pick_from x (by omega)]; simp
  exact Slc_str O hx (by simp) (by rw [e]; simp; omega) (by rw [e]; exact h)
theorem Slc_sall (O : WdOk W) {x : List Nat} {os : List AO} {K : AV → List AO → Prop} (hx : x.length ≤ 16777216) (h : K (.str x) os) : SlcOk W n (.str x) none none none os K := by
  exact Slc_str O hx (by simp) (by rw [pick_all]; omega) (by rw [pick_all]; exact h)
theorem Slc_sneg (O : WdOk W) {x : List Nat} {j : Nat} {os : List AO} {K : AV → List AO → Prop} (hj : j ≠ 0) (hx : x.length ≤ 16777216) (h : K (.str (x.take (x.length - j))) os) : SlcOk W n (.str x) none (some (-(j : Int))) none os K := by
  have e : pick x none (some (-(j : Int))) none = x.take (x.length - j) := by
    rw [pick_upto_neg x (by omega)]
    congr 1; omega
  exact Slc_str O hx (by simp) (by rw [e]; simp; omega) (by rw [e]; exact h)
theorem TAnd_nil {K : Bool → St → Prop} (h : K true σ) : TAnd W Γ [] σ K := h
theorem TAnd_cons {e : Expr} {r : List Expr} {K : Bool → St → Prop} (h : TE W Γ e σ fun b σ₁ => bsel b (TAnd W Γ r σ₁ K) (K false σ₁)) : TAnd W Γ (e :: r) σ K := h
theorem TOr_nil {K : Bool → St → Prop} (h : K false σ) : TOr W Γ [] σ K := h
theorem TOr_cons {e : Expr} {r : List Expr} {K : Bool → St → Prop} (h : TE W Γ e σ fun b σ₁ => bsel b (K true σ₁) (TOr W Γ r σ₁ K)) : TOr W Γ (e :: r) σ K := h
end
theorem E_post {W : Wd} {Γ : Ev} {n : Nat} {σ : St} {K : AV → St → Prop} (O : WdOk W) (Z : EvOk Γ n) {v x : Str} {c : Nat} {p1 p2 p3 p4 p5 p6 : Pos} {l : List Nat} {j : Nat} (hv : At Γ.nm σ.fr v (.str l)) (hx : At Γ.nm σ.fr x (.int (-(j : Int)))) (hl : l.length ≤ 16777216)
    (h : K (.str (l.take (l.length - j))) σ) : EV W Γ (.Subscript (.Name v p1) (.Slice none (some (.BoolOp .Or [.Name x p2, .Constant .none c p3] p4)) none p5) p6) σ K := by
  refine E_slice O Z (E_local Z hv (P_none (P_some (E_or2 Z (E_local Z hx (Tr_int ?_)))))) (by intro _ _; exact ⟨_, rfl⟩)
  refine bsel_dec (fun e => ?_) (fun e => ?_)
  · exact part_int (P_none (Slc_sneg O (by omega) hl h))
  · refine E_none (part_none (P_none (Slc_sall O hl ?_)))
    have e' : j = 0 := by omega
    subst e'
    simpa using h
end Mine
end

section
open PySem PySem.W PyProof.Rows
set_option Elab.async false
set_option maxRecDepth 100000
set_option linter.unusedVariables false
namespace Mine
section
variable {W : Wd} {Γ : Ev} {n : Nat} {σ : St} {K : AV → St → Prop}
theorem E_b1 (O : WdOk W) (Z : EvOk Γ n) {x : String} {id : String} {np pos : Pos} {e : Expr} (hm : Str.ofString x ∈ Γ.gn) (hg : W.mg (Str.ofString x) = none) (hb : bootBuiltins (Str.ofString x) = some (.builtin id)) (hx : Str.ofString x ≠ "__name__")
    (h : EV W Γ e σ fun a σ₁ => CallV W n (.builtin id) [a] σ₁.os fun c os' => K c { σ₁ with os := os' }) (he : ∀ pos : Pos, starEach [e] Γ.env = [(false, eval e Γ.env)]) : EV W Γ (.Call (.Name (Str.ofString x) np) [e] [] pos) σ K := by
  refine E_call O Z hm (.boot hg hb hx) keep_builtin (Es_cons (h.mono fun a σ₁ k => Es_nil k) (he pos)) (fun pos => ?_)
  rw [he pos]; rfl
theorem E_b2 (O : WdOk W) (Z : EvOk Γ n) {x : String} {id : String} {np pos : Pos} {e e' : Expr} (hm : Str.ofString x ∈ Γ.gn) (hg : W.mg (Str.ofString x) = none) (hb : bootBuiltins (Str.ofString x) = some (.builtin id)) (hx : Str.ofString x ≠ "__name__")
    (h : EV W Γ e σ fun a σ₁ => EV W Γ e' σ₁ fun b σ₂ => CallV W n (.builtin id) [a, b] σ₂.os fun c os' => K c { σ₂ with os := os' }) (he : starEach [e, e'] Γ.env = [(false, eval e Γ.env), (false, eval e' Γ.env)]) (he' : starEach [e'] Γ.env = [(false, eval e' Γ.env)]) : EV W Γ (.Call (.Name (Str.ofString x) np) [e, e'] [] pos) σ K := by
  refine E_call O Z hm (.boot hg hb hx) keep_builtin (Es_cons (h.mono fun a σ₁ k => Es_cons (k.mono fun b σ₂ k => Es_nil k) he') (by rw [he, he'])) (fun pos => ?_)
  rw [he]; rfl
theorem E_len (O : WdOk W) (Z : EvOk Γ n) {np pos : Pos} {e : Expr} (hg : W.mg (Str.ofString "len") = none) (hm : Str.ofString "len" ∈ Γ.gn)
    (h : EV W Γ e σ fun a σ₁ => CallV W n (.builtin "len") [a] σ₁.os fun c os' => K c { σ₁ with os := os' }) (he : ∀ pos : Pos, starEach [e] Γ.env = [(false, eval e Γ.env)]) : EV W Γ (.Call (.Name (Str.ofString "len") np) [e] [] pos) σ K :=
  E_b1 O Z hm hg boot_len (by decide +kernel) h he
theorem E_ord (O : WdOk W) (Z : EvOk Γ n) {np pos : Pos} {e : Expr} (hg : W.mg (Str.ofString "ord") = none) (hm : Str.ofString "ord" ∈ Γ.gn)
    (h : EV W Γ e σ fun a σ₁ => CallV W n (.builtin "ord") [a] σ₁.os fun c os' => K c { σ₁ with os := os' }) (he : ∀ pos : Pos, starEach [e] Γ.env = [(false, eval e Γ.env)]) : EV W Γ (.Call (.Name (Str.ofString "ord") np) [e] [] pos) σ K :=
  E_b1 O Z hm hg boot_ord (by decide +kernel) h he
theorem E_abs (O : WdOk W) (Z : EvOk Γ n) {np pos : Pos} {e : Expr} (hg : W.mg (Str.ofString "abs") = none) (hm : Str.ofString "abs" ∈ Γ.gn)
    (h : EV W Γ e σ fun a σ₁ => CallV W n (.builtin "abs") [a] σ₁.os fun c os' => K c { σ₁ with os := os' }) (he : ∀ pos : Pos, starEach [e] Γ.env = [(false, eval e Γ.env)]) : EV W Γ (.Call (.Name (Str.ofString "abs") np) [e] [] pos) σ K :=
  E_b1 O Z hm hg boot_abs (by decide +kernel) h he
theorem E_min2 (O : WdOk W) (Z : EvOk Γ n) {np pos : Pos} {e e' : Expr} (hg : W.mg (Str.ofString "min") = none) (hm : Str.ofString "min" ∈ Γ.gn)
    (h : EV W Γ e σ fun a σ₁ => EV W Γ e' σ₁ fun b σ₂ => CallV W n (.builtin "min") [a, b] σ₂.os fun c os' => K c { σ₂ with os := os' }) (he : starEach [e, e'] Γ.env = [(false, eval e Γ.env), (false, eval e' Γ.env)]) (he' : starEach [e'] Γ.env = [(false, eval e' Γ.env)]) : EV W Γ (.Call (.Name (Str.ofString "min") np) [e, e'] [] pos) σ K :=
  E_b2 O Z hm hg boot_min (by decide +kernel) h he he'
theorem E_max2 (O : WdOk W) (Z : EvOk Γ n) {np pos : Pos} {e e' : Expr} (hg : W.mg (Str.ofString "max") = none) (hm : Str.ofString "max" ∈ Γ.gn)
    (h : EV W Γ e σ fun a σ₁ => EV W Γ e' σ₁ fun b σ₂ => CallV W n (.builtin "max") [a, b] σ₂.os fun c os' => K c { σ₂ with os := os' }) (he : starEach [e, e'] Γ.env = [(false, eval e Γ.env), (false, eval e' Γ.env)]) (he' : starEach [e'] Γ.env = [(false, eval e' Γ.env)]) : EV W Γ (.Call (.Name (Str.ofString "max") np) [e, e'] [] pos) σ K :=
  E_b2 O Z hm hg boot_max (by decide +kernel) h he he'
end
end Mine
end

section
open PySem PySem.W PyProof.Rows
set_option Elab.async false
set_option maxRecDepth 100000
set_option linter.unusedVariables false
namespace Mine
theorem R_one {n : Nat} {P : Int → Int → Int → Nat → Prop} (hn : n ≤ 1000000) (h : P 0 n 1 n) : ∃ a b c, RArgs [.int (n : Int)] a b c ∧ ∃ m : Nat, Builtin.Range.rangeSize a b c = (m : Int) ∧ Builtin.Range.small a b c = true ∧ P a b c m := by
  refine ⟨0, n, 1, .one _, n, ?_, small_one (by omega) (by omega) (by omega) (by omega), h⟩
  rw [rangeSize_one]; split <;> omega
theorem R_two {n : Nat} {P : Int → Int → Int → Nat → Prop} (hn : n ≤ 1000000) (h : P 2 (2 * ((n : Int) + 1)) 2 n) : ∃ a b c, RArgs [.int 2, .int (2 * ((n : Int) + 1)), .int 2] a b c ∧ ∃ m : Nat, Builtin.Range.rangeSize a b c = (m : Int) ∧ Builtin.Range.small a b c = true ∧ P a b c m := by
  have e : Builtin.Range.rangeSize 2 (2 * ((n : Int) + 1)) 2 = (n : Int) := by
    unfold Builtin.Range.rangeSize
    simp only [show (2 : Int) > 0 by decide, if_true]
    split <;> omega
  refine ⟨2, 2 * ((n : Int) + 1), 2, .three _ _ _ (by decide) (by decide), n, e, ?_, h⟩
  have fit : ∀ i : Int, 0 ≤ i → i < 2 ^ 62 → Builtin.Range.rangeFitsLong i = true := fun i h1 h2 => by
    simp only [Builtin.Range.rangeFitsLong, Bool.and_eq_true, decide_eq_true_eq]; omega
  unfold Builtin.Range.small
  rw [e, if_pos (by decide), fit _ (by omega) (by omega), fit _ (by omega) (by omega), fit _ (by omega) (by omega), fit _ (by omega) (by omega)]
  simp
end Mine
end

section
open PySem PySem.W PyProof.Rows
set_option Elab.async false
set_option maxRecDepth 100000
set_option linter.unusedVariables false
namespace Mine
section
variable {W : Wd} {Γ : Ev} {n : Nat} {σ : St} {os : List AO} {K : AV → List AO → Prop}
theorem V_divmod (O : WdOk W) {a b : Int} (hb : b ≠ 0) (hs : b.natAbs < 1073741824) (h : K (.tup [.int (a.fdiv b), .int (a.fmod b)]) os) : CallV W n (.builtin "divmod") [.int a, .int b] os K := by
  intro A s ρ vs R H hr
  cases hr with
  | cons r rs =>
    cases r; cases rs with
    | cons r rs =>
      cases r; cases rs
      refine divmod_int hb ?_ (.inl (PyProof.noPylong_small hs))
      refine RO.grown O H (s' := { s with toks := s.toks + 1 + 1, heap := s.heap.push { cls := .type "tuple", data := .seq #[.int (a.fdiv b) s.toks, .int (a.fmod b) (s.toks + 1)] } }) (push_old _) rfl rfl (.tup _ _ [.int (a.fdiv b) s.toks, .int (a.fmod b) (s.toks + 1)] 0 (Heap.get?_push_size _ rfl) (.cons (.int _ _) (.cons (.int _ _) .nil))) h
theorem V_intof (O : WdOk W) {a : Int} (h : K (.int a) os) : CallV W n (.type "int") [.int a] os K := by
  intro A s ρ vs R H hr
  cases hr with
  | cons r rs =>
    cases r; cases rs
    exact call_int_int (RO.same O H (.int _ _) h)
theorem B_bcat (O : WdOk W) {a b : List UInt8} (hs : a.length + b.length ≤ 16777216) (h : K (.bytes (a ++ b)) os) : BinOk W n .Add (.bytes a) (.bytes b) os K := by
  intro A s ρ v u R H r1 r2
  cases r1; cases r2
  refine KBy.add_bytes (by simpa using hs) fun t' k => ?_
  rw [List.append_toArray]
  exact RO.toks O H (.bytes _ _) h
theorem Slc_bytes (O : WdOk W) {x : List UInt8} {l u : Option Int} (hx : x.length ≤ 16777216) (h : K (.bytes (KBy.picked x.toArray l u).toList) os) : SlcOk W n (.bytes x) l u none os K := by
  intro A s ρ v a vl vu vs R H r hs pl pu ps
  cases r
  rename_i t
  cases ps
  refine ⟨⟨_, _, typeIs_bytes _ _ _, FB.slot_bytes_getitem.lookup⟩, getItem_meets (typeIs_bytes _ _ _) (by decide) FB.slot_bytes_getitem FB.entry_bytes_getitem (FB.args_bytes_getitem_2 _ _) (KBc.meets_slice2 x.toArray t _ pl pu) ⟨hs, ?_, fun t' k => ?_⟩⟩
  · refine Nat.le_trans (KBc.size_picked_le _ _ _) ?_
    rw [sizeLine_eq]; simpa using hx
  · have := Rel.bytes (h := s.heap) (ρ := ρ) (KBy.picked x.toArray l u).toList t'
    rw [Array.toArray_toList] at this
    exact RO.toks O H this h
theorem picked_one {x : List UInt8} {j : Nat} {c : UInt8} (hj : x[j]? = some c) : (KBy.picked x.toArray (some (j : Int)) (some ((j : Int) + 1))).toList = [c] := by
  have hl : j < x.length := (List.getElem?_eq_some_iff.mp hj).1
  have hc : x[j] = c := (List.getElem?_eq_some_iff.mp hj).2
  rw [KBc.picked_eq]
  have e1 : clipAt x.length (j : Int) = j := by rw [clipAt_nat]; omega
  have e2 : clipAt x.length ((j : Int) + 1) = j + 1 := by
    have := clipAt_nat x.length (j + 1)
    rw [show ((j + 1 : Nat) : Int) = (j : Int) + 1 by omega] at this
    rw [this]; omega
  simp only [Option.elim_some, List.size_toArray, e1, e2]
  rw [show j + 1 - j = 1 by omega, List.drop_eq_getElem_cons hl, hc]
  rfl
end
theorem boot_int' : bootBuiltins (Str.ofString "int") = some (.type "int") := by decide +kernel
section
variable {W : Wd} {Γ : Ev} {n : Nat} {σ : St} {K : AV → St → Prop}
theorem E_intof (O : WdOk W) (Z : EvOk Γ n) {np pos : Pos} {e : Expr} (hg : W.mg (Str.ofString "int") = none) (hm : Str.ofString "int" ∈ Γ.gn)
    (h : EV W Γ e σ fun a σ₁ => CallV W n (.type "int") [a] σ₁.os fun c os' => K c { σ₁ with os := os' }) (he : ∀ pos : Pos, starEach [e] Γ.env = [(false, eval e Γ.env)]) : EV W Γ (.Call (.Name (Str.ofString "int") np) [e] [] pos) σ K := by
  refine E_call O Z hm (.boot hg boot_int' (by decide +kernel)) keep_type (Es_cons (h.mono fun a σ₁ k => Es_nil k) (he pos)) (fun pos => ?_)
  rw [he pos]; rfl
theorem E_divmod (O : WdOk W) (Z : EvOk Γ n) {np pos : Pos} {e e' : Expr} (hg : W.mg (Str.ofString "divmod") = none) (hm : Str.ofString "divmod" ∈ Γ.gn)
    (h : EV W Γ e σ fun a σ₁ => EV W Γ e' σ₁ fun b σ₂ => CallV W n (.builtin "divmod") [a, b] σ₂.os fun c os' => K c { σ₂ with os := os' }) (he : starEach [e, e'] Γ.env = [(false, eval e Γ.env), (false, eval e' Γ.env)]) (he' : starEach [e'] Γ.env = [(false, eval e' Γ.env)]) : EV W Γ (.Call (.Name (Str.ofString "divmod") np) [e, e'] [] pos) σ K :=
  E_b2 O Z hm hg boot_divmod (by decide +kernel) h he he'
theorem AsgL_nil {K : St → Prop} (h : K σ) : AsgL W Γ [] [] σ K := h
theorem AsgL_cons {t : Expr} {ts : List Expr} {a : AV} {as : List AV} {K : St → Prop} (h : AS W Γ t a σ fun σ₁ => AsgL W Γ ts as σ₁ K) : AsgL W Γ (t :: ts) (a :: as) σ K := h
inductive AllNames : List Expr → Prop
  | nil : AllNames []
  | cons {x p ts} : AllNames ts → AllNames (.Name x p :: ts)
theorem AllNames.go : ∀ {ts : List Expr}, AllNames ts → ∀ t ∈ ts, ∃ x p, t = Expr.Name x p
  | _, .cons h, _, .head _ => ⟨_, _, rfl⟩
  | _, .cons h, _, .tail _ m => h.go _ m
theorem A_tup (O : WdOk W) (Z : EvOk Γ n) {ts : List Expr} {k : Nat} {pos : Pos} {l : List AV} {K : St → Prop} (hn : AllNames ts) (hl : ts.length = l.length) (h : AsgL W Γ ts l σ K) : AS W Γ (.Tuple ts k pos) (.tup l) σ K := A_tuple O Z hn.go hl h
end
theorem ltb_and {l : List AV} {P : Prop} (h : l.length ≤ 1000) (hp : P) : l.length ≤ 1000 ∧ P := ⟨h, hp⟩
theorem neg_ex {i : Int} {P : Int → Prop} (h : P i) : ∃ j, AV.int i = .int j ∧ P j := ⟨i, rfl, h⟩
end Mine
end

section
open PySem PySem.W PyProof.Rows
set_option Elab.async false
set_option maxRecDepth 100000
set_option linter.unusedVariables false
namespace Mine
theorem lit_e : Str.ofString "" = S [] := by decide +kernel
theorem lit_a : Str.ofString "a" = S [97] := by decide +kernel
theorem lit_A : Str.ofString "A" = S [65] := by decide +kernel
theorem lit_b : Str.ofString "b" = S [98] := by decide +kernel
theorem lit_B : Str.ofString "B" = S [66] := by decide +kernel
theorem lit_sp : Str.ofString " " = S [32] := by decide +kernel
theorem lit_spb : Str.ofString " b" = S [32, 98] := by decide +kernel
theorem lit_spB : Str.ofString " B" = S [32, 66] := by decide +kernel
theorem lit_aAbB : Str.ofString "aAbB" = S [97, 65, 98, 66] := by decide +kernel
theorem lit_AaBb : Str.ofString "AaBb" = S [65, 97, 66, 98] := by decide +kernel
theorem lit_ascii : Str.ofString "ascii" = S [97, 115, 99, 105, 105] := by decide +kernel
theorem lit_ex : Str.ofString "!" = S [33] := by decide +kernel
theorem lit_BCD : Str.ofString "BCD" = S [66, 67, 68] := by decide +kernel
theorem lit_P : Str.ofString "P" = S [80] := by decide +kernel
theorem lit_nine : Str.ofString "aA0bB1cC2" = S [97, 65, 48, 98, 66, 49, 99, 67, 50] := by decide +kernel
section
variable {W : Wd} {Γ : Ev} {n : Nat} {σ : St}
theorem X_swap2 (O : WdOk W) (Z : EvOk Γ n) {x y : Str} {p₁ p₂ tp vp pos : Pos} {k k' : Nat} {u v : Expr} {K : AFlow → St → Prop}
    (h : EV W Γ u σ fun a σ₁ => EV W Γ v σ₁ fun b σ₂ => ∃ fr₁ fr₂, Put y b Γ.nm σ₂.fr fr₁ ∧ Put x a Γ.nm fr₁ fr₂ ∧ K .next { σ₂ with fr := fr₂ })
    (he : starEach [u, v] Γ.env = [(false, eval u Γ.env), (false, eval v Γ.env)]) (he' : starEach [v] Γ.env = [(false, eval v Γ.env)])
    (hl : (p₂.line == p₁.line) = true) (hxy : x ≠ y) (hx : x ∈ Γ.nm) (hy : y ∈ Γ.nm)
    (h1 : ([u, v].any fun | .Starred .. => true | _ => false) = false) (h2 : ([u, v].all (foldedForSure 8)) = false) (h3 : ([u, v].all (constantsAlone 8)) = false) :
    EX1 W Γ (.Assign [.Tuple [.Name x p₁, .Name y p₂] k tp] (.Tuple [u, v] k' vp) pos) σ K :=
  X_swap O Z (E_tuple O (by simp) (Es_cons (h.mono fun a σ₁ h => Es_cons (h.mono fun b σ₂ h => Es_nil ⟨by simp, a, b, rfl, h⟩) he') (by rw [he, he']))) hl hxy hx hy h1 h2 h3
end
end Mine
end

section
open PySem PySem.W PyProof.Rows PySem.Calls
set_option Elab.async false
set_option maxRecDepth 100000
set_option linter.unusedVariables false
set_option maxHeartbeats 4000000
namespace Mine

/-! ## built-in methods that are reached by super() -/
theorem slot_md_get : Slot "method_descriptor" "__get__" "method_descriptor.__get__" := .of (owner := "method_descriptor") (n := "__get__") (by rw [typeLookup_type, builtinLookup_eq_fast]; kernel_rfl) (by decide +kernel) (by decide +kernel) (by decide +kernel)
  (by first | exact .inl (by decide +kernel) | exact .inr (by decide +kernel)) (by rw [isSubtype_type]; kernel_rfl)
theorem slot_wd_get : Slot "wrapper_descriptor" "__get__" "wrapper_descriptor.__get__" := .of (owner := "wrapper_descriptor") (n := "__get__") (by rw [typeLookup_type, builtinLookup_eq_fast]; kernel_rfl) (by decide +kernel) (by decide +kernel) (by decide +kernel)
  (by first | exact .inl (by decide +kernel) | exact .inr (by decide +kernel)) (by rw [isSubtype_type]; kernel_rfl)
theorem entry_md_get : entryFor table "method_descriptor.__get__" = some Builtin.«method_descriptor.__get__» := entryFor_of_tree (by kernel_rfl)
theorem entry_wd_get : entryFor table "wrapper_descriptor.__get__" = some Builtin.«wrapper_descriptor.__get__» := entryFor_of_tree (by kernel_rfl)
theorem args_md_get (a b c : Value) : argsOk "method_descriptor.__get__" ⟨[a, b, c], []⟩ := by unfold argsOk; kernel_rfl
theorem args_wd_get (a b c : Value) : argsOk "wrapper_descriptor.__get__" ⟨[a, b, c], []⟩ := by unfold argsOk; kernel_rfl
theorem ty_pop : typeOf (.builtin "list.pop") = pure (.type "method_descriptor") := by show builtinType _ = _; rw [builtinType_eq_fast]; kernel_rfl
theorem ty_append : typeOf (.builtin "list.append") = pure (.type "method_descriptor") := by show builtinType _ = _; rw [builtinType_eq_fast]; kernel_rfl
theorem ty_len : typeOf (.builtin "list.__len__") = pure (.type "wrapper_descriptor") := by show builtinType _ = _; rw [builtinType_eq_fast]; kernel_rfl
theorem ty_init : typeOf (.builtin "list.__init__") = pure (.type "wrapper_descriptor") := by show builtinType _ = _; rw [builtinType_eq_fast]; kernel_rfl

section
variable {prog : Program} {w : World} {A : Around} {E : Value → Shared → Prop} {h : Heap} {g : Array GenState} {d : Drawn} {t : Nat} {os : OsState}
/-- a built-in method of an own object is bound to it -/
theorem own_pop : (".".intercalate ("list.pop".cutAt '.').dropLast) = "list" := by decide +kernel
theorem own_len : (".".intercalate ("list.__len__".cutAt '.').dropLast) = "list" := by decide +kernel
theorem own_init : (".".intercalate ("list.__init__".cutAt '.').dropLast) = "list" := by decide +kernel
theorem md_get {x C dd : Addr} {vs : List Value} {n : Nat} {Q : Value → Shared → Prop} (hx : h.get? x = some (accO C dd vs n)) (hT : Looks (model prog w) h (isSubtype (.ref C) (.type "list")) true)
    (hq : Q (.ref h.objs.size) ⟨h.push { cls := .type "builtin_function_or_method", data := .fields #[.builtin "list.pop", .ref x] }, g, d, t, os⟩) :
    wpAny (model prog w) A (call (.builtin "method_descriptor.__get__") [.builtin "list.pop", .ref x, .ref C]) Q E ⟨h, g, d, t, os⟩ := by
  refine wpAny_call_entry slot_md_get (T := "method_descriptor") ty_pop entry_md_get ?_ (args_md_get _ _ _)
  unfold Builtin.«method_descriptor.__get__»
  have hT' : Looks (model prog w) h (isSubtype (.ref C) (.type (".".intercalate ("list.pop".cutAt '.').dropLast))) true := by rw [own_pop]; exact hT
  repeat lk
  exact ⟨_, rfl, hq⟩
theorem wd_get {x C dd : Addr} {vs : List Value} {n : Nat} {Q : Value → Shared → Prop} {id : String} (hid : id = "list.__len__" ∨ id = "list.__init__") (hx : h.get? x = some (accO C dd vs n)) (hT : Looks (model prog w) h (isSubtype (.ref C) (.type "list")) true)
    (hq : Q (.ref h.objs.size) ⟨h.push { cls := .type "method-wrapper", data := .fields #[.builtin id, .ref x] }, g, d, t, os⟩) :
    wpAny (model prog w) A (call (.builtin "wrapper_descriptor.__get__") [.builtin id, .ref x, .ref C]) Q E ⟨h, g, d, t, os⟩ := by
  rcases hid with rfl | rfl
  · refine wpAny_call_entry slot_wd_get (T := "wrapper_descriptor") ty_len entry_wd_get ?_ (args_wd_get _ _ _)
    unfold Builtin.«wrapper_descriptor.__get__»
    have hT' : Looks (model prog w) h (isSubtype (.ref C) (.type (".".intercalate ("list.__len__".cutAt '.').dropLast))) true := by rw [own_len]; exact hT
    repeat lk
    exact ⟨_, rfl, hq⟩
  · refine wpAny_call_entry slot_wd_get (T := "wrapper_descriptor") ty_init entry_wd_get ?_ (args_wd_get _ _ _)
    unfold Builtin.«wrapper_descriptor.__get__»
    have hT' : Looks (model prog w) h (isSubtype (.ref C) (.type (".".intercalate ("list.__init__".cutAt '.').dropLast))) true := by rw [own_init]; exact hT
    repeat lk
    exact ⟨_, rfl, hq⟩

/-- super().name finds a built-in one behind D -/
theorem sup_ga {so D x C : Addr} {l₀ l : List Value} {K : Frag} {name : Str} {tk : Tok} {id T gid : String} {o' : Obj} {Q : Fin → Shared → Prop}
    (hso : h.get? so = some (ks_superObj D x C)) (hno : Looks (model prog w) h (opaqueClassAbove (.ref C)) none)
    (hC : Looks (model prog w) h (mroOf (.ref C)) l₀) (hl : (l₀.dropWhile (· != .ref D)).drop 1 = l) (X : K.In h)
    (hf : alongIn K name l = some (some (.builtin id))) (hxC : x ≠ C) (hn : (name == ("__class__" : Str)) = false)
    (hty : typeOf (.builtin id) = pure (.type T)) (hlk : typeLookup (.type T) "__get__" = pure (some (.builtin gid)))
    (hget : ∀ {A : Around} {E : Value → Shared → Prop} {Q : Value → Shared → Prop}, Q (.ref h.objs.size) ⟨h.push o', g, d, t, os⟩ → wpAny (model prog w) A (call (.builtin gid) [.builtin id, .ref x, .ref C]) Q E ⟨h, g, d, t, os⟩)
    (hq : Q (.done (.ret (.ref h.objs.size))) ⟨h.push o', g, d, t, os⟩) :
    wpAny (model prog w) A (Builtin.«super.__getattribute__» ⟨[.ref so, .str name tk], []⟩) Q E ⟨h, g, d, t, os⟩ := by
  have hne : (Value.ref x == Value.ref C) = false := by simp [hxC]
  have hdt : (ks_superObj D x C).data = .fields #[.ref D, .ref x, .ref C] := rfl
  have f0 : (#[.ref D, .ref x, .ref C] : Array Value)[0]? = some (.ref D) := rfl
  have f1 : (#[.ref D, .ref x, .ref C] : Array Value)[1]? = some (.ref x) := rfl
  have f2 : (#[.ref D, .ref x, .ref C] : Array Value)[2]? = some (.ref C) := rfl
  unfold Builtin.«super.__getattribute__»
  repeat (first
    | (with_reducible refine wpAny_field hso hdt f0 ?_) | (with_reducible refine wpAny_field hso hdt f1 ?_) | (with_reducible refine wpAny_field hso hdt f2 ?_)
    | (with_reducible refine ks_wpAny_notOpaque hno ?_)
    | (with_reducible refine Looks.at hC ?_; rw [hl])
    | (refine ks_forIn_along X (fun _ _ => rfl) rfl ?_ hf)
    | (with_reducible refine wpAny_of_eq hty ?_)
    | (with_reducible refine wpAny_of_eq hlk ?_)
    | (with_reducible refine hget ?_)
    | (simp only [hn, hne, Bool.or_false, Bool.false_eq_true, if_false])
    | wp_step
    | dsimp only)
  all_goals exact hq

theorem sup_method {so D x C : Addr} {l₀ l : List Value} {K : Frag} {name : Str} {pl : Sem Bool} {id T gid : String} {o' : Obj} {Q : Value × List Value → Shared → Prop}
    (hso : h.get? so = some (ks_superObj D x C)) (hno : Looks (model prog w) h (opaqueClassAbove (.ref C)) none)
    (hC : Looks (model prog w) h (mroOf (.ref C)) l₀) (hl : (l₀.dropWhile (· != .ref D)).drop 1 = l) (X : K.In h)
    (hf : alongIn K name l = some (some (.builtin id))) (hxC : x ≠ C) (hn : (name == ("__class__" : Str)) = false)
    (hty : typeOf (.builtin id) = pure (.type T)) (hlk : typeLookup (.type T) "__get__" = pure (some (.builtin gid)))
    (hget : ∀ {A : Around} {E : Value → Shared → Prop} {Q : Value → Shared → Prop} {t : Nat}, Q (.ref h.objs.size) ⟨h.push o', g, d, t, os⟩ → wpAny (model prog w) A (call (.builtin gid) [.builtin id, .ref x, .ref C]) Q E ⟨h, g, d, t, os⟩)
    (hq : Q (.ref h.objs.size, []) ⟨h.push o', g, d, t + 1, os⟩) :
    wpAny (model prog w) A (getMethod (.ref so) name pl) Q E ⟨h, g, d, t, os⟩ := by
  have hlk' := F.ks_slot_super_ga.lookup
  have hT : ∀ t', (⟨h, g, d, t', os⟩ : Shared).TypeIs (.ref so) "super" := fun _ => ⟨_, hso, rfl⟩
  unfold getMethod
  refine wpAny_bind (wpAny_specialOf (hT _) hlk' ?_)
  show wpAny _ _ (if (Manifest.canonical "super.__getattribute__" != "object.__getattribute__") = true then _ else _) _ _ _
  rw [if_pos F.ks_canon_super_ga]
  unfold getAttr getAttrBy
  refine wpAny_bind (wpAny_bind (wpAny_mkText (wpAny_holding (wpAny_bind (wpAny_typeOf (hT _) (wpAny_bind (wpAny_of_eq hlk' ?_)))))))
  show wpAny _ _ (getAttrByItsOwn (.ref so) (.str name t) (.type "super") (.builtin "super.__getattribute__") true false) _ _ _
  unfold getAttrByItsOwn hookBefore callGetattribute boundAndCalled
  refine wpAny_bind (wpAny_of_eq (show (if onTheHeap (.type "super") then typeLookup (.type "super") "__getattr__" else pure none) = pure none from rfl) ?_)
  refine wpAny_bind (wpAny_attempt (wpAny_holding ?_))
  show wpAny _ _ (bindSpecial (.builtin "super.__getattribute__") (.ref so) >>= _) _ _ _
  refine wpAny_bind (wpAny_of_eq (F.ks_slot_super_ga.bind _) ?_)
  refine wpAny_mono (Q := fun v s' => v = .ref h.objs.size ∧ s' = ⟨h.push o', g, d, t + 1, os⟩) (E := fun _ _ => False)
    (wpAny_call_entry F.ks_slot_super_ga (hT _) F.ks_entry_super_ga (sup_ga hso hno hC hl X hf hxC hn hty hlk hget ⟨_, rfl, rfl, rfl⟩) (F.ks_gaArgs_super _ _)) (fun v s' hv => ?_) fun _ _ z => z.elim
  obtain ⟨rfl, rfl⟩ := hv
  exact wpAny_pure (wpAny_pure hq)
end
end Mine
end

section
open PySem PySem.W PyProof.Rows PySem.Calls
set_option Elab.async false
set_option maxRecDepth 100000
set_option linter.unusedVariables false
set_option maxHeartbeats 4000000
namespace Mine
section
variable {prog : Program} {w : World} {A : Around} {E : Value → Shared → Prop} {h : Heap} {g : Array GenState} {d : Drawn} {t : Nat} {os : OsState}
/-- what is bound is called -/
theorem call_bound_pop {b x C dd : Addr} {vs : List Value} {n : Nat} {od : Option Addr} {cd : ClassData} {sl : Array (Option Value)} {Q : Value → Shared → Prop} (hb : h.get? b = some { cls := .type "builtin_function_or_method", data := .fields #[.builtin "list.pop", .ref x] })
    (hx : h.get? x = some (accO C dd vs n)) (hC : h.get? C = some ⟨.type "type", od, .cls cd, sl⟩) (hmod : Looks (model prog w) h (isSubtype (.ref C) (.type "module")) false) (hqn : (toString cd.qualname.toString ++ toString "." ++ toString (Bind.lastOf "list.pop") != "*") = true)
    (hr : ∀ A, wpAny (model prog w) A (Builtin.«list.pop» ⟨[.ref x], []⟩) (fun fin s' => ∃ v, fin = .done (.ret v) ∧ Q v s') E ⟨h, g, d, t, os⟩) : wpAny (model prog w) A (call (.ref b) []) Q E ⟨h, g, d, t, os⟩ := by
  refine wpAny_call (codeAny_of_tree ?_)
  show wpAny _ A.in1 (callAny (.ref b) _) _ _ _
  unfold callAny
  refine wpAny_bind (wpAny_load hb ?_)
  show wpAny _ _ (checkBoundCall "list.pop" ⟨[.ref x], []⟩ >>= fun _ => again (.builtin "list.pop" ⟨[.ref x], []⟩)) _ _ _
  refine wpAny_bind ?_
  unfold checkBoundCall
  repeat (first | lk | rw [if_pos hqn])
  refine ⟨Code.quiet_builtin _ (by decide +kernel), codeAny_builtin F.entry_list_pop (wpAny_mono (hr _) (fun fin s' h' => ?_) fun _ _ z => z)⟩
  obtain ⟨v, rfl, hv⟩ := h'
  exact hv
theorem call_bound_len {b x : Addr} {Q : Value → Shared → Prop} (hb : h.get? b = some { cls := .type "method-wrapper", data := .fields #[.builtin "list.__len__", .ref x] })
    (hr : ∀ A, wpAny (model prog w) A (Builtin.«list.__len__» ⟨[.ref x], []⟩) (fun fin s' => ∃ v, fin = .done (.ret v) ∧ Q v s') E ⟨h, g, d, t, os⟩) : wpAny (model prog w) A (call (.ref b) []) Q E ⟨h, g, d, t, os⟩ := by
  refine wpAny_call (codeAny_of_tree ?_)
  show wpAny _ A.in1 (callAny (.ref b) _) _ _ _
  unfold callAny
  refine wpAny_bind (wpAny_load hb ?_)
  show wpAny _ _ (checkBoundCall "list.__len__" ⟨[.ref x], []⟩ >>= fun _ => again (.builtin "list.__len__" ⟨[.ref x], []⟩)) _ _ _
  refine wpAny_bind ?_
  unfold checkBoundCall
  repeat lk
  refine ⟨Code.quiet_builtin _ (by decide +kernel), codeAny_builtin F.entry_list_len (wpAny_mono (hr _) (fun fin s' h' => ?_) fun _ _ z => z)⟩
  obtain ⟨v, rfl, hv⟩ := h'
  exact hv
theorem entry_li : entryFor table "list.__init__" = some Builtin.«list.__init__» := entryFor_of_tree (by kernel_rfl)
theorem call_bound_init {b x : Addr} {Q : Value → Shared → Prop} (hb : h.get? b = some { cls := .type "method-wrapper", data := .fields #[.builtin "list.__init__", .ref x] })
    (hr : ∀ A, wpAny (model prog w) A (Builtin.«list.__init__» ⟨[.ref x], []⟩) (fun fin s' => ∃ v, fin = .done (.ret v) ∧ Q v s') E ⟨h, g, d, t, os⟩) : wpAny (model prog w) A (call (.ref b) []) Q E ⟨h, g, d, t, os⟩ := by
  refine wpAny_call (codeAny_of_tree ?_)
  show wpAny _ A.in1 (callAny (.ref b) _) _ _ _
  unfold callAny
  refine wpAny_bind (wpAny_load hb ?_)
  show wpAny _ _ (checkBoundCall "list.__init__" ⟨[.ref x], []⟩ >>= fun _ => again (.builtin "list.__init__" ⟨[.ref x], []⟩)) _ _ _
  refine wpAny_bind ?_
  unfold checkBoundCall
  repeat lk
  refine ⟨Code.quiet_builtin _ (by decide +kernel), codeAny_builtin entry_li (wpAny_mono (hr _) (fun fin s' h' => ?_) fun _ _ z => z)⟩
  obtain ⟨v, rfl, hv⟩ := h'
  exact hv

/-! ## the built-in methods on an own list -/
theorem erase_last {α : Type} (v : α) : ∀ l : List α, (l ++ [v]).eraseIdx l.length = l
  | [] => rfl
  | a :: l => by simp [erase_last v l]
theorem size_er {α : Type} (xs : Array α) (k : Nat) : (xs.eraseIdxIfInBounds k).size ≤ xs.size := by
  unfold Array.eraseIdxIfInBounds
  split <;> simp
theorem acc_upd {x C dd : Addr} {vs : List Value} {n : Nat} {f : Array Value → Array Value} (hx : h.get? x = some (accO C dd vs n)) : ∃ n', (h.update x (Obj.mapSeq f)).get? x = some (accO C dd (f vs.toArray).toList n') := by
  by_cases e : ((f vs.toArray).size == vs.toArray.size) = true
  · refine ⟨n, ?_⟩
    rw [Heap.get?_update_self _ hx (by simp [Obj.mapSeq]; rfl)]
    simp only [Obj.mapSeq, e]
    simp
  · refine ⟨n + 1, ?_⟩
    rw [Heap.get?_update_self _ hx (by simp [Obj.mapSeq]; rfl)]
    simp only [Obj.mapSeq, e]
    simp
theorem raw_pop {x C dd : Addr} {vs : List Value} {v : Value} {n : Nat} {Q : Value → Shared → Prop} (hx : h.get? x = some (accO C dd (vs ++ [v]) n)) (hsz : vs.length ≤ 1000000)
    (hq : ∀ h' n', h'.get? x = some (accO C dd vs n') → Heap.SameBut x h h' → Q v ⟨h', g, d, t, os⟩) :
    wpAny (model prog w) A (Builtin.«list.pop» ⟨[.ref x], []⟩) (fun fin s' => ∃ v, fin = .done (.ret v) ∧ Q v s') E ⟨h, g, d, t, os⟩ := by
  have hs1 : (vs ++ [v]).toArray.size ≤ sizeLine := by rw [sizeLine_eq]; simp; omega
  have hne : ¬ (vs ++ [v]).toArray.isEmpty = true := by simp
  have hk : seqIndex? (-1) (vs ++ [v]).toArray.size = some vs.length := by
    rw [seqIndex_neg (by omega) (by simp; omega)]; congr 1; simp; omega
  have hy : (vs ++ [v]).toArray[vs.length]? = some v := by simp
  wp_walk using wpAny_loadPart' hx
  simp only [hk, hy, Option.bind_some, Option.map_some]
  have hz' : ((vs ++ [v]).toArray.eraseIdxIfInBounds vs.length).size ≤ sizeLine + 1 := Nat.le_trans (size_er _ _) (Nat.le_succ_of_le hs1)
  wp_walk using (wpAny_updateSeq hx rfl (hz := hs1) (_hz' := hz')), wpAny_loadPart' hx
  obtain ⟨n', e⟩ := acc_upd (f := fun x => x.eraseIdxIfInBounds vs.length) hx
  have e2 : ((vs ++ [v]).toArray.eraseIdxIfInBounds vs.length).toList = vs := by simp [Array.eraseIdxIfInBounds, erase_last]
  rw [e2] at e
  exact ⟨_, rfl, hq _ n' e (Heap.SameBut.update ..)⟩
theorem raw_len {x C dd : Addr} {vs : List Value} {n : Nat} {Q : Value → Shared → Prop} (hx : h.get? x = some (accO C dd vs n))
    (hq : ∀ tk, Q (.int vs.length tk) ⟨h, g, d, t + 1, os⟩) :
    wpAny (model prog w) A (Builtin.«list.__len__» ⟨[.ref x], []⟩) (fun fin s' => ∃ v, fin = .done (.ret v) ∧ Q v s') E ⟨h, g, d, t, os⟩ := by
  unfold Builtin.«list.__len__»
  repeat lk
  exact ⟨_, rfl, by simpa using hq t⟩
theorem raw_append {x C dd : Addr} {vs : List Value} {v : Value} {n : Nat} {Q : Value → Shared → Prop} (hx : h.get? x = some (accO C dd vs n)) (hsz : vs.length ≤ 1000000)
    (hq : ∀ h' n', h'.get? x = some (accO C dd (vs ++ [v]) n') → Heap.SameBut x h h' → Q .none ⟨h', g, d, t, os⟩) :
    wpAny (model prog w) A (Builtin.«list.append» ⟨[.ref x, v], []⟩) (fun fin s' => ∃ v, fin = .done (.ret v) ∧ Q v s') E ⟨h, g, d, t, os⟩ := by
  have hs1 : vs.toArray.size ≤ sizeLine := by rw [sizeLine_eq]; simp; omega
  have hz' : (vs.toArray.push v).size ≤ sizeLine + 1 := by rw [Array.size_push]; omega
  wp_walk using (wpAny_updateSeq hx rfl (hz := hs1) (_hz' := hz')), wpAny_loadPart' hx
  obtain ⟨n', e⟩ := acc_upd (f := fun x => x.push v) hx
  have e2 : (vs.toArray.push v).toList = vs ++ [v] := by simp
  rw [e2] at e
  exact ⟨_, rfl, hq _ n' e (Heap.SameBut.update ..)⟩
theorem raw_init {x C dd : Addr} {n : Nat} {Q : Value → Shared → Prop} (hx : h.get? x = some (accO C dd [] n))
    (hq : ∀ h' n', h'.get? x = some (accO C dd [] n') → Heap.SameBut x h h' → Q .none ⟨h', g, d, t, os⟩) :
    wpAny (model prog w) A (Builtin.«list.__init__» ⟨[.ref x], []⟩) (fun fin s' => ∃ v, fin = .done (.ret v) ∧ Q v s') E ⟨h, g, d, t, os⟩ := by
  wp_walk using wpAny_loadPart' hx
  obtain ⟨n', e⟩ := acc_upd (f := fun x => #[]) hx
  exact ⟨_, rfl, hq _ n' e (Heap.SameBut.update ..)⟩
end
end Mine
end

section
open PySem PySem.W PyProof.Rows PySem.Calls
set_option Elab.async false
set_option maxRecDepth 100000
set_option linter.unusedVariables false
set_option maxHeartbeats 4000000
namespace Mine
theorem canon_list_ga : (Manifest.canonical "list.__getattribute__" != "object.__getattribute__") = false := by decide +kernel
/-- what is known of the class, by its fragment -/
structure AccCls (W : Wd) (K : Frag) : Prop where
  inK : K.In W.base
  hga : findIn K (.ref W.C) "__getattribute__" = some (some (.builtin "list.__getattribute__"))
  hgt : findIn K (.ref W.C) "__getattr__" = some none
  sub : mroIn K W.C (.type "list") = some true
  nomod : mroIn K W.C (.type "module") = some false
  cls : ∃ od cd sl, K.lookup W.C = some ⟨.type "type", od, .cls cd, sl⟩ ∧ (toString cd.qualname.toString ++ toString "." ++ toString (Bind.lastOf "list.pop") != "*") = true
/-- x stands for the acc k, d for its dict -/
structure AccAt (W : Wd) (h : Heap) (ρ : List Addr) (k dk : Nat) (xs : List AV) (i : Int) (x d : Addr) (vs : List Value) (n : Nat) (od : Obj) : Prop where
  rx : ρ[k]? = some x
  rd : ρ[dk]? = some d
  ox : h.get? x = some (accO W.C d vs n)
  rel : RelL h ρ xs vs
  go : h.get? d = some od
  dd : ∃ hs tk t ep, od = { cls := .type "dict", data := .dict #[⟨hs, .str sizeN tk, .int i t⟩] ep }
section
variable {W : Wd} {K : Frag} {Γ : Ev} {n : Nat} {σ : St} {os : List AO} {ρ : List Addr} {s : Shared}
theorem acc_at (H : AbsO W os ρ s) {k dk : Nat} {xs : List AV} {i : Int} (hk : os[k]? = some (.acc xs dk)) (hd : os[dk]? = some (.idict i)) : ∃ x d vs n od, AccAt W s.heap ρ k dk xs i x d vs n od := by
  obtain ⟨x, hx, vs, n, d, e, hd', hR⟩ := H.objs k _ hk
  obtain ⟨d', hd2, h1, h2, h3, h4, e2⟩ := H.objs dk _ hd
  rw [hd'] at hd2; cases hd2
  exact ⟨x, d, vs, n, _, hx, hd', e, hR, e2, _, _, _, _, rfl⟩
variable {k dk : Nat} {xs : List AV} {i : Int} {x d : Addr} {vs : List Value} {m : Nat} {od : Obj}
theorem AccAt.inst {h : Heap} (Y : AccAt W h ρ k dk xs i x d vs m od) : PySem.W.InstAt h x (accO W.C d vs m) W.C (some od) := ⟨Y.ox, rfl, rfl, Y.go⟩
theorem AccAt.shadow {h : Heap} (Y : AccAt W h ρ k dk xs i x d vs m od) {name : Str} (hn : (sizeN == name) = false) : shadowIn (some od) name = some false := by
  obtain ⟨hs, tk, t, ep, rfl⟩ := Y.dd
  have e : ∀ b : Value, (Value.str sizeN tk).isStr name = (sizeN == name) := fun _ => rfl
  simp only [shadowIn, lookIn]
  have e2 : ([⟨hs, .str sizeN tk, .int i t⟩] : List DictEntry).find? (fun e => e.key.isStr name) = none := by
    rw [List.find?_cons_of_neg (by show ¬ ((Value.str sizeN tk).isStr name) = true; rw [e .none, hn]; simp)]; rfl
  have e3 : (#[⟨hs, .str sizeN tk, .int i t⟩] : Array DictEntry).toList = [⟨hs, .str sizeN tk, .int i t⟩] := rfl
  simp only [e2]
  rfl
variable {prog : Program} {w : World} {A : Around} {E : Value → Shared → Prop}
theorem AccCls.X (Y : AccCls W K) (H : AbsO W os ρ s) : K.In s.heap := Y.inK.keeps H.keep
/-- a method of the class is found -/
theorem meth_fn (Y : AccCls W K) (H : AbsO W os ρ s) (a : AccAt W s.heap ρ k dk xs i x d vs m od) {name : Str} {f : Addr} {pl : Sem Bool} {Q : Value × List Value → Shared → Prop} (hf : findIn K (.ref W.C) name = some (some (.ref f))) (ht : typeIn K (.ref f) = some (.type "function"))
    (hn : (sizeN == name) = false) (h : Q (.ref f, [.ref x]) s) : wpAny (model prog w) A (getMethod (.ref x) name pl) Q E s :=
by
  have X := Y.X H
  have hcan := canon_list_ga
  have I := a.inst
  unfold getMethod specialOf
  refine wpAny_bind (wpAny_bind (I.type.here ((looks_findIn X Y.hga).here ?_)))
  dsimp only
  rw [hcan, if_neg (by decide)]
  refine wpAny_bind (wpAny_bind (I.type.here ((looks_findIn X Y.hgt).here ?_)))
  refine wpAny_bind (wpAny_bind (I.type.here ((looks_findIn X hf).here (wpAny_bind ((looks_typeIn X ht).here ?_)))))
  rw [if_neg (by decide +kernel)]
  refine wpAny_bind (wpAny_loadPart I.at_ ?_)
  obtain ⟨r, a1, b1⟩ := Option.map_eq_some_iff.mp (a.shadow hn)
  refine wpAny_bind (wpAny_bind (wpAny_loadPart a.go ?_))
  rw [nsLook_of a1]
  refine wpAny_pure ?_
  rw [b1]
  exact wpAny_bind (wpAny_rule (wpAny_pure h))
/-- a built-in one is found -/
theorem meth_bi (Y : AccCls W K) (H : AbsO W os ρ s) (a : AccAt W s.heap ρ k dk xs i x d vs m od) {name : Str} {id : String} {pl : Sem Bool} {Q : Value × List Value → Shared → Prop} (hf : findIn K (.ref W.C) name = some (some (.builtin id))) (ht : typeOf (.builtin id) = pure (.type "method_descriptor"))
    (hn : (sizeN == name) = false) (h : Q (.builtin id, [.ref x]) s) : wpAny (model prog w) A (getMethod (.ref x) name pl) Q E s := by
  have X := Y.X H
  have hcan := canon_list_ga
  have I := a.inst
  unfold getMethod specialOf
  refine wpAny_bind (wpAny_bind (I.type.here ((looks_findIn X Y.hga).here ?_)))
  dsimp only
  rw [hcan, if_neg (by decide)]
  refine wpAny_bind (wpAny_bind (I.type.here ((looks_findIn X Y.hgt).here ?_)))
  refine wpAny_bind (wpAny_bind (I.type.here ((looks_findIn X hf).here (wpAny_bind (wpAny_of_eq ht ?_)))))
  rw [if_neg (by decide +kernel)]
  refine wpAny_bind (wpAny_loadPart I.at_ ?_)
  obtain ⟨r, a1, b1⟩ := Option.map_eq_some_iff.mp (a.shadow hn)
  refine wpAny_bind (wpAny_bind (wpAny_loadPart a.go ?_))
  rw [nsLook_of a1]
  refine wpAny_pure ?_
  rw [b1]
  exact wpAny_bind (wpAny_rule (wpAny_pure h))
/-- the check ahead of a built-in method -/
theorem check_meth {M : Model} {id owner n : String} {self : Value} {rest : List Value} {Q : Unit → Shared → Prop}
    (hk : builtinKind id = some .method) (hs : splitId id = some (owner, n)) (hi : Looks M s.heap (isInstance self (.type owner)) true) (ha : argsOk id ⟨self :: rest, []⟩) (q : Q () s) :
    wpAny M A (checkBuiltinCall id ⟨self :: rest, []⟩) Q E s := by
  simp only [checkBuiltinCall, hk, hs]
  refine wpAny_bind (hi.here ?_)
  simp only [Bool.not_true, Bool.false_eq_true, if_false]
  cases hsig : Manifest.signature? id with
  | none => exact wpAny_pure q
  | some sig =>
    simp only [argsOk, hsig] at ha
    have h2 : Bind.checkArgs id sig ⟨self :: rest, []⟩ = pure () := ha
    show wpAny M A (Bind.checkArgs id sig ⟨self :: rest, []⟩) Q E s
    rw [h2]; exact wpAny_pure q
theorem AccCls.isList {M : Model} (Y : AccCls W K) (H : AbsO W os ρ s) (a : AccAt W s.heap ρ k dk xs i x d vs m od) : Looks M s.heap (isInstance (.ref x) (.type "list")) true :=
  a.inst.type.andThen (looks_mroIn (Y.X H) Y.sub)

/-- x.append(v) -/
theorem V_append (O : WdOk W) (Y : AccCls W K) {K' : AV → List AO → Prop} {a : AV} (hk : os[k]? = some (.acc xs dk)) (hd : os[dk]? = some (.idict i)) (hl : xs.length ≤ 1000000) (h : K' .none (os.set k (.acc (xs ++ [a]) dk))) :
    CallV W n (.builtin "list.append") [.obj k, a] os K' := by
  intro A s ρ vs R H hr
  cases hr with
  | cons r rs =>
    cases r with | obj k x hx =>
    cases rs with
    | cons ra rs =>
      cases rs
      rename_i v
      obtain ⟨x', d, ws, m, od, Z⟩ := acc_at H hk hd
      have := Z.rx
      rw [hx] at this; cases this
      refine wpAny_call (codeAny_call_builtin (by decide +kernel) F.entry_list_append (check_meth (owner := "list") (n := "append") (by decide +kernel) (by decide +kernel) (Y.isList H Z) (F.args_list_append_2 _ _) ?_))
      obtain ⟨hh, g, dr, t, osS⟩ := s
      refine wpAny_mono (raw_append (Q := RO W ⟨hh, g, dr, t, osS⟩ ρ K') (E := NoE) Z.ox (by rw [Z.rel.length]; exact hl) (fun h' n' e1 e2 => ?_)) (fun fin s' hq => ?_) fun _ _ z => z
      · have hsol : ∀ b o, Solid o → hh.get? b = some o → h'.get? b = some o := fun b o so e => (e2.2 b fun q => H.notSolid O (List.mem_of_getElem? hx) (q ▸ e) so).trans e
        obtain ⟨x1, y1⟩ := H.upd O (s' := ⟨h', g, dr, t, osS⟩) (o' := .acc (xs ++ [a]) dk) hx (by simp [hk]) (fun b o hb e => (e2.2 b hb).trans e) (by rw [e1]; simp) ⟨_, _, d, e1, Z.rd, (Z.rel.mono hsol fun _ _ e => e).append (.cons (ra.mono hsol fun _ _ e => e) .nil)⟩ H.gens rfl
        exact ⟨ρ, .none, _, x1, y1, .none, h⟩
      · obtain ⟨v, rfl, hv⟩ := hq
        exact hv
end
end Mine
end

section
open PySem PySem.W PyProof.Rows PySem.Calls
set_option Elab.async false
set_option maxRecDepth 100000
set_option linter.unusedVariables false
set_option maxHeartbeats 4000000
namespace Mine
inductive MethIs (W : Wd) (K : Frag) (name : Str) : Value → Prop
  | fn {f : Addr} : findIn K (.ref W.C) name = some (some (.ref f)) → typeIn K (.ref f) = some (.type "function") → (sizeN == name) = false → MethIs W K name (.ref f)
  | bi {id : String} : findIn K (.ref W.C) name = some (some (.builtin id)) → typeOf (.builtin id) = pure (.type "method_descriptor") → (sizeN == name) = false → MethIs W K name (.builtin id)
/-- k is an own list with its dict -/
def IsAcc (os : List AO) (k : Nat) (xs : List AV) (dk : Nat) (i : Int) : Prop := os[k]? = some (.acc xs dk) ∧ os[dk]? = some (.idict i)
section
variable {W : Wd} {K : Frag} {Γ : Ev} {n : Nat} {σ : St} {os : List AO} {ρ : List Addr} {s : Shared}
theorem E_meth (O : WdOk W) (Z : EvOk Γ n) (Y : AccCls W K) {o : Expr} {name : Str} {apos pos : Pos} {args : List Expr} {f : Value} {K' : AV → St → Prop} (hf : MethIs W K name f) (hk : KeepOk W f)
    (h : EV W Γ o σ fun a σ₁ => ∃ k xs dk i, a = .obj k ∧ IsAcc σ₁.os k xs dk i ∧ EVs W Γ args σ₁ fun avs σ₂ => CallV W n f (.obj k :: avs) σ₂.os fun c os' => K' c { σ₂ with os := os' }) {pl : Sem Bool}
    (he : eval (.Call (.Attribute o name apos) args [] pos) Γ.env = (do
      let ov ← attributeBase o name Γ.env (eval o Γ.env)
      standAt apos.atName
      let (f, first) ← holding [ov] (getMethod ov name pl)
      callWith pos f first (backTo pos (starEach args Γ.env)) []))
    (hbase : attributeBase o name Γ.env (eval o Γ.env) = eval o Γ.env) (hp : ∀ pos, (backTo pos (starEach args Γ.env)).any (·.1) = false) :
    EV W Γ (.Call (.Attribute o name apos) args [] pos) σ K' := by
  intro s ρ H
  rw [he, hbase]
  refine wpAny_bind (wpAny_mono (h s ρ H) (fun ov s₁ h₁ => ?_) fun _ _ x => x)
  obtain ⟨ρ₁, av, σ₁, H₁, T₁, R₁, k, xs, dk, i, rfl, ⟨hk1, hk2⟩, hA⟩ := h₁
  cases R₁ with
  | obj k x hx =>
  obtain ⟨x', d, vs, m, od, Z'⟩ := acc_at H₁.1 hk1 hk2
  have := Z'.rx
  rw [hx] at this; cases this
  refine wpAny_bind (wpAny_standAt (wpAny_bind (wpAny_holding ?_)))
  have rest : wpAny (model W.prog W.w) Γ.A (callWith pos f [.ref x] (backTo pos (starEach args Γ.env)) []) (RV W Γ s ρ K') NoE s₁ := by
    refine callWith_any (hp pos) (evalArgs_of (hp pos) (wpAny_mono (hA pos s₁ ρ₁ H₁) (fun vs s₂ h₂ => ?_) fun _ _ x => x))
    obtain ⟨ρ₂, avs, σ₂, H₂, T₂, R₂, k₂⟩ := h₂
    refine wpAny_mono (hk Γ.A σ₂.os ρ₂ s₂ H₂.1) (fun _ s₃ h₃ => ?_) fun _ _ x => x
    subst h₃
    exact wpAny_mono (k₂ Γ.A _ ρ₂ _ Z.room H₂.1 (.cons (.obj k x (T₂.get hx)) R₂)) (fun v s₃ h₃ => ((RV.of_RO H₂ h₃).tr T₂).tr T₁) fun _ _ x => x
  cases hf with
  | fn h1 h2 h3 => exact meth_fn Y H₁.1 Z' h1 h2 h3 rest
  | bi h1 h2 h3 => exact meth_bi Y H₁.1 Z' h1 h2 h3 rest

/-! ## code that asks super(): it must be known which code runs -/
def SVat (W : Wd) (Γ : Ev) (c : Code) (t : Sem Value) (σ : St) (K : AV → St → Prop) : Prop := ∀ s ρ, Abs W Γ σ ρ s → _root_.PySem.wpAt (model W.prog W.w) Γ.A c t (RV W Γ s ρ K) NoE s
def SXat (W : Wd) (Γ : Ev) (c : Code) (t : Sem Flow) (σ : St) (K : AFlow → St → Prop) : Prop := ∀ s ρ, Abs W Γ σ ρ s → _root_.PySem.wpAt (model W.prog W.w) Γ.A c t (RF W Γ s ρ K) NoE s
def seqA (W : Wd) (Γ : Ev) (c : Code) (r : List Stmt) (K : AFlow → St → Prop) : AFlow → St → Prop
  | .next, σ => SXat W Γ c (execs r Γ.env) σ K
  | f, σ => K f σ
variable {c : Code}
theorem XA_of {t : Sem Flow} {K' : AFlow → St → Prop} (h : SX W Γ t σ K') : SXat W Γ c t σ K' := fun s ρ H => wpAt_of_wpAny (h s ρ H)
theorem XA_cons {st : Stmt} {r : List Stmt} {K' : AFlow → St → Prop} (h : SXat W Γ c (exec st Γ.env) σ (seqA W Γ c r K')) : SXat W Γ c (execs (st :: r) Γ.env) σ K' := by
  intro s ρ H
  refine ks_wpAt_execs_cons (ks_wpAt_mono (h s ρ H) (fun f s₁ h₁ => ?_) fun _ _ x => x)
  obtain ⟨ρ₁, af, σ₁, H₁, T₁, R₁, k₁⟩ := h₁
  cases R₁ with
  | next => exact ks_wpAt_mono (show _root_.PySem.wpAt _ _ _ _ _ _ _ from k₁ s₁ ρ₁ H₁) (fun v s₂ h₂ => h₂.tr T₁) fun _ _ x => x
  | brk => exact ⟨ρ₁, .brk, σ₁, H₁, T₁, .brk, k₁⟩
  | cont => exact ⟨ρ₁, .cont, σ₁, H₁, T₁, .cont, k₁⟩
  | ret a v r => exact ⟨ρ₁, .ret a, σ₁, H₁, T₁, .ret a v r, k₁⟩
theorem XA_nil {K' : AFlow → St → Prop} (h : K' .next σ) : SXat W Γ c (execs [] Γ.env) σ K' := XA_of (X_nil h)
theorem XA_ret {e : Expr} {pos : Pos} {K' : AFlow → St → Prop} (h : SVat W Γ c (eval e Γ.env) σ fun a σ₁ => K' (.ret a) σ₁) : SXat W Γ c (exec (.Return (some e) pos) Γ.env) σ K' := by
  intro s ρ H
  refine ks_wpAt_Return_some (ks_wpAt_mono (h s ρ H) (fun v s₁ h₁ => ?_) fun _ _ x => x)
  obtain ⟨ρ₁, av, σ₁, H₁, T₁, R₁, k₁⟩ := h₁
  exact ⟨ρ₁, _, σ₁, H₁, T₁.P H.2.2, .ret _ _ R₁, k₁⟩
theorem XA_expr {e : Expr} {pos : Pos} {K' : AFlow → St → Prop} (Z : EvOk Γ n) (h : SVat W Γ c (eval e Γ.env) σ fun _ σ₁ => K' .next σ₁) (hs : swapsWith e none pos.line Γ.env = pure false) : SXat W Γ c (exec (.Expr e pos) Γ.env) σ K' := by
  intro s ρ H
  refine ks_wpAt_Expr_any (ks_wpAt_mono (h s ρ H) (fun v s₁ h₁ => ?_) fun _ _ x => x) (by unfold interactive; rw [Z.kind]; rfl) hs
  obtain ⟨ρ₁, av, σ₁, H₁, T₁, R₁, k₁⟩ := h₁
  exact ⟨ρ₁, _, σ₁, H₁, T₁.P H.2.2, .next, k₁⟩
end
end Mine
end

section
open PySem PySem.W PyProof.Rows PySem.Calls
set_option Elab.async false
set_option maxRecDepth 100000
set_option linter.unusedVariables false
set_option maxHeartbeats 4000000
namespace Mine
/-- what super() asks for, in the frame of a method -/
structure SupOk (W : Wd) (K : Frag) (Γ : Ev) (f cda cc : Addr) : Prop where
  hks : Γ.env.kindOf "super" = some .globalImplicit
  hkc : Γ.env.kindOf "__class__" = some .free
  hfu : Γ.env.func = some f
  fn : ∃ oc od fd osl ar, K.lookup f = some ⟨oc, od, .func fd, osl⟩ ∧ (fd.params.posonlyargs ++ fd.params.args).head? = some ar ∧ ar.arg = Str.ofString "self"
  hco : Γ.env.code = .ref cda
  code : ∃ ccl cdd vs ccs file tf, K.lookup cda = some ⟨ccl, cdd, .fields vs, ccs⟩ ∧ vs[2]? = some (.str file tf) ∧ ((W.prog.main.file : Str) == file) = true
  cell : Γ.env.cells.lookup ("__class__" : Str) = some cc
  cellv : ∃ cl cld csl, K.lookup cc = some ⟨cl, cld, .cell (some (.ref W.C)), csl⟩
  htop : (W.prog.main.scope.names.lookup ("super" : Str)).isSome = false
  hg : W.mg "super" = none
  third : nsIn K cStatics "thirdparty.any" = some none
  sub : mroIn K W.C (.ref W.C) = some true
theorem boot_super : bootBuiltins "super" = some (.type "super") := by decide +kernel
section
variable {W : Wd} {K : Frag} {Γ : Ev} {n : Nat} {σ : St}
theorem clsOf (Y : AccCls W K) : ∃ od cd sl, K.lookup W.C = some ⟨.type "type", od, .cls cd, sl⟩ ∧ clsIn K W.C = some cd := by
  obtain ⟨od, cd, sl, h, _⟩ := Y.cls
  exact ⟨od, cd, sl, h, by unfold clsIn; rw [h]⟩
abbrev boundO (B id : String) (x : Addr) : Obj := { cls := .type B, data := .fields #[.builtin id, .ref x] }
theorem E_super (O : WdOk W) (Z : EvOk Γ n) (Y : AccCls W K) {f cda cc : Addr} (S : SupOk W K Γ f cda cc) {body : List Stmt} {p0 p1 apos pos : Pos} {name : Str} {id T gid B : String} {k dk : Nat} {xs : List AV} {i : Int} {K' : AV → St → Prop}
    (hself : At Γ.nm σ.fr (Str.ofString "self") (.obj k)) (hacc : IsAcc σ.os k xs dk i) (hat : (name == ("__class__" : Str)) = false)
    (hf : ks_superIn K W.C W.C name = some (some (.builtin id))) (hty : typeOf (.builtin id) = pure (.type T)) (hlk : typeLookup (.type T) "__get__" = pure (some (.builtin gid)))
    (hB : B = "builtin_function_or_method" ∨ B = "method-wrapper")
    (hget : ∀ {A : Around} {E : Value → Shared → Prop} {Q : Value → Shared → Prop} {h : Heap} {g d t os x vs m dd}, h.get? x = some (accO W.C dd vs m) → Looks (model W.prog W.w) h (isSubtype (.ref W.C) (.type "list")) true → Q (.ref h.objs.size) ⟨h.push (boundO B id x), g, d, t, os⟩ →
      wpAny (model W.prog W.w) A (call (.builtin gid) [.builtin id, .ref x, .ref W.C]) Q E ⟨h, g, d, t, os⟩)
    (hcall : ∀ A s ρ b x, AbsO W σ.os ρ s → ρ[k]? = some x → s.heap.get? b = some (boundO B id x) → wpAny (model W.prog W.w) A (call (.ref b) []) (RO W s ρ fun a os' => K' a { σ with os := os' }) NoE s) {pl : Sem Bool}
    (he : eval (.Call (.Attribute (.Call (.Name "super" p0) [] [] p1) name apos) [] [] pos) Γ.env = (do
      let ov ← attributeBase (.Call (.Name "super" p0) [] [] p1) name Γ.env (eval (.Call (.Name "super" p0) [] [] p1) Γ.env)
      standAt apos.atName
      let (f, first) ← holding [ov] (getMethod ov name pl)
      callWith pos f first (backTo pos (starEach [] Γ.env)) [])) :
    SVat W Γ (.func body Γ.env) (eval (.Call (.Attribute (.Call (.Name "super" p0) [] [] p1) name apos) [] [] pos) Γ.env) σ K' := by
  intro s ρ H
  obtain ⟨od, cd, sl, hC, hcd⟩ := clsOf Y
  have X : K.In s.heap := Y.X H.1
  obtain ⟨oc, fod, fd, fsl, ar, hfn, har, harg⟩ := S.fn
  obtain ⟨ccl, cdd, cvs, ccs, file, tf, hcode, hvs, hfile⟩ := S.code
  obtain ⟨cl, cld, csl, hcell⟩ := S.cellv
  obtain ⟨x, d, vs, m, dod, Z'⟩ := acc_at H.1 hacc.1 hacc.2
  obtain ⟨mm, F, l⟩ := H.2.1.ex
  obtain ⟨v, hv, hr⟩ := l.at hself
  have hvx : v = .ref x := by
    cases hr with | obj k a e => rw [Z'.rx] at e; cases e; rfl
  subst hvx
  have hg0 : s.heap.Ns Γ.env.globals W.mg := by rw [Z.glob]; exact O.g.keeps H.1.keep
  have hb0 : s.heap.Ns Γ.env.builtins W.mb := by rw [Z.bins]; exact O.b.keeps H.1.keep
  obtain ⟨hh, g, dr, t, os⟩ := s
  refine ks_wpAt_MethodCall ?_ he
  refine ks_wpAt_super_base S.hks S.hkc hat S.hfu (X _ _ hfn) rfl har S.hco (X _ _ hcode) rfl hvs hfile S.htop ?_
  refine ks_loadName_global Z.kind S.hks (loadGlobal_builtin hg0 S.hg hb0 ((O.bi _ (by decide +kernel)).trans boot_super) ⟨rfl, ?_⟩)
  refine wpAny_loadName_free Z.kind S.hkc S.cell ⟨_, X _ _ hcell, rfl⟩ ?_
  rw [harg]
  refine wpAny_loadName_local Z.kind (Z.loc _ hself.mem) F.ns hv ?_
  have hCh : hh.get? W.C = some ⟨.type "type", od, .cls cd, sl⟩ := X _ _ hC
  refine ks_wpAny_isType_cls hCh rfl ⟨rfl, ?_⟩
  have hne : x ≠ W.C := fun q => by
    have := Z'.ox; rw [q] at this
    rw [show hh.get? W.C = _ from hCh] at this
    cases this
  refine ks_wpAny_call_super hCh rfl Z'.ox rfl (fun c e => by cases e) (looks_mroIn X S.sub) (fun h' e kp => ?_)
  -- the super object stands; now its attribute
  obtain ⟨H₂, T₂⟩ := H.grow O (s' := ⟨h', g, dr, t, os⟩) kp H.1.gens rfl
  have X' : K.In h' := X.keeps kp
  have hal : alongIn K name ((cd.mro.dropWhile (· != .ref W.C)).drop 1) = some (some (.builtin id)) := by
    unfold ks_superIn at hf
    rw [hcd] at hf
    exact hf
  have hx' := kp _ _ Z'.ox
  refine sup_method (o' := boundO B id x) e (looks_opaque X' S.third) (l₀ := cd.mro) (fun A Q E s k q => wpAny_bind ((looks_clsIn X' hcd) A _ E s k (wpAny_pure q))) rfl X' hal hne hat hty hlk (fun hq => hget hx' (looks_mroIn X' Y.sub) hq) ?_
  generalize hb : h'.objs.size = b
  have hb0 : (h'.push (boundO B id x)).get? b = some (boundO B id x) := hb ▸ Heap.get?_push_size _ rfl
  obtain ⟨H₃, T₃⟩ := H₂.grow O (s' := ⟨h'.push (boundO B id x), g, dr, t + 1, os⟩) (push_old _) H.1.gens rfl
  refine callWith_any rfl (evalArgs_of rfl (spliced_none ?_))
  show wpAny _ _ (keeperOf (.ref b)) _ _ _
  unfold keeperOf
  refine wpAny_bind (wpAny_load hb0 ?_)
  have kk : ∀ {t : Sem Keeper} {Q : Keeper → Shared → Prop} {s : Shared}, t = pure .machine → (∀ k, Q k s) → wpAny (model W.prog W.w) Γ.A t Q NoE s := fun e h => by rw [e]; exact wpAny_pure (h _)
  refine kk (by rcases hB with rfl | rfl <;> rfl) fun _ => ?_
  exact wpAny_mono (hcall Γ.A ⟨h'.push (boundO B id x), g, dr, t + 1, os⟩ ρ b x H₃.1 Z'.rx hb0) (fun v s₃ h₃ => ((RV.of_RO H₃ h₃).tr T₃).tr T₂) fun _ _ x => x
end
end Mine
end

section
open PySem PySem.W PyProof.Rows PySem.Calls
set_option Elab.async false
set_option maxRecDepth 100000
set_option linter.unusedVariables false
set_option maxHeartbeats 4000000
namespace Mine
/-- entering a def whose body asks super() -/
theorem call_defAt {W : Wd} {n : Nat} {f : Addr} {fd : FuncData} {ps rest gn nm : List Str} {fr : List (Option AV)} {body : List Stmt} {avs : List AV} {os : List AO} {K : AV → List AO → Prop} (O : WdMore W) (X : FnAt W f fd ps body) (N : NmOk fd.scope ps rest gn)
    (hnm : ps ++ rest = nm) (hfr : avs.map some ++ rest.map (fun _ => none) = fr) (hlen : avs.length = ps.length)
    (h : ∀ L A, EvOk (fnEv fd f L nm gn A os.length) n → SXat W (fnEv fd f L nm gn A os.length) (.func body (fnEnv fd f L)) (execs body (fnEnv fd f L)) ⟨fr, [], os⟩ fun fl σ => K (retOf fl) σ.os) :
    CallV W (n + 1) (.ref f) avs os K := by
  subst hnm; subst hfr
  intro A s ρ vs R H hr
  obtain ⟨o, ho, hd⟩ := X.at_
  refine wpAny_call (codeAny_call_function R.depth (H.keep _ _ ho) hd X.co X.gen X.body (X.code.keeps H.keep) ?_)
  rw [X.bind vs (hr.length.trans hlen)]
  have hbl : ∀ x ∈ ps.zip vs, fd.scope.names.lookup x.1 = some .local := fun x hx => N.loc _ (List.mem_append_left _ (List.of_mem_zip hx).1)
  refine wpAny_pure (wpAny_newFunctionEnv X.nocell hbl (fun h' hns hsb => ?_) X.kind)
  refine ⟨(O.nolimit.keeps H.keep).fresh _ hsb, ks_codeAny_funcAt ?_⟩
  generalize hL : s.heap.objs.size = L at *
  have hL0 : s.heap.get? L = none := hL ▸ none_at
  have hk : ∀ b o, s.heap.get? b = some o → h'.get? b = some o := fun b o e => (hsb.2 b fun q => ne_none e (q ▸ hL0)).trans (Heap.get?_push_of_some _ e)
  obtain ⟨H', T'⟩ := H.grow O.toWdOk (s' := { s with heap := h', toks := s.toks + (ps.zip vs).length }) hk H.gens rfl
  have hnL : L ∉ ρ := fun q => by obtain ⟨o, e⟩ := H.there O.toWdOk q; exact ne_none e hL0
  have Z : EvOk (fnEv fd f L (ps ++ rest) gn (A.deeper (fnEnv fd f L)) os.length) n :=
    ⟨X.kind, N.loc, N.nd, X.glob, X.bins, N.gl, (fun _ h => nomatch h), List.nodup_nil, R.deeper, by simpa using N.dbg⟩
  have F : FrameIs W (fnEv fd f L (ps ++ rest) gn (A.deeper (fnEnv fd f L)) os.length) (avs.map some ++ rest.map fun _ => none) [] ρ h' := by
    refine ⟨⟨_, ⟨hns, H'.keep, ?_⟩, locals_of fun i x a h1 h2 => ?_⟩, trivial, fun a ha => ?_, fun _ h => nomatch h⟩
    · exact hL ▸ O.size _ H.keep
    · have hi : i < avs.length := by
        by_cases hi : i < avs.length
        · exact hi
        · rw [List.getElem?_append_right (by simpa using Nat.le_of_not_lt hi)] at h2
          simp at h2
      rw [List.getElem?_append_left (by omega)] at h1
      rw [List.getElem?_append_left (by simpa using hi)] at h2
      have h2' : avs[i]? = some a := by simpa using h2
      obtain ⟨v, hv, r⟩ := (hr.tr T').get h2'
      exact ⟨v, lookup_zip (List.nodup_append.mp N.nd).1 i x v h1 hv, r⟩
    · have : a = L := List.mem_singleton.mp ha
      rw [this]; exact hnL
  refine ks_wpAt_mono (h L (A.deeper (fnEnv fd f L)) Z _ ρ ⟨H', F, Nat.le_of_eq H.len.symm⟩) (fun fl s₁ h₁ => ?_) fun _ _ x => x.elim
  obtain ⟨ρ₁, af, σ₁, H₁, T₁, R₁, k₁⟩ := h₁
  have TF : Trans [] s s₁ ρ ρ₁ := by
    have t := T₁.full (show os.length = ρ.length from H.len.symm) H₁.1.nd
    have t' := T'.weak (U' := [L]) (fun _ h => nomatch h)
    obtain ⟨a, b, c, d⟩ := t'.trans t
    exact ⟨a, fun x o _ h2 h3 => b x o (fun q => ne_none h3 (by rw [List.mem_singleton.mp q]; exact hL0)) h2 h3, c, d⟩
  refine ⟨ρ₁, retOf af, σ₁.os, H₁.1, TF, ?_, k₁⟩
  cases R₁ with
  | next => exact .none
  | brk => exact .none
  | cont => exact .none
  | ret a v r => exact r

section
variable {W : Wd} {K : Frag} {os : List AO} {K' : AV → List AO → Prop} {k dk : Nat} {xs : List AV} {i : Int}
theorem bound_len (O : WdOk W) (hacc : IsAcc os k xs dk i) (hK : K' (.int xs.length) os) : ∀ A s ρ b x, AbsO W os ρ s → ρ[k]? = some x → s.heap.get? b = some (boundO "method-wrapper" "list.__len__" x) → wpAny (model W.prog W.w) A (call (.ref b) []) (RO W s ρ K') NoE s := by
  intro A s ρ b x H hx hb
  obtain ⟨x', d, ws, m, od, Z⟩ := acc_at H hacc.1 hacc.2
  have := Z.rx
  rw [hx] at this; cases this
  obtain ⟨hh, g, dr, t, osS⟩ := s
  refine call_bound_len hb fun A => raw_len Z.ox fun tk => ?_
  have : (ws.length : Int) = xs.length := by rw [Z.rel.length]
  rw [this]
  exact RO.toks O H (.int _ _) hK
theorem bound_pop (O : WdOk W) (Y : AccCls W K) {a : AV} (hacc : IsAcc os k (xs ++ [a]) dk i) (hl : xs.length ≤ 1000000) (hK : K' a (os.set k (.acc xs dk))) : ∀ A s ρ b x, AbsO W os ρ s → ρ[k]? = some x → s.heap.get? b = some (boundO "builtin_function_or_method" "list.pop" x) → wpAny (model W.prog W.w) A (call (.ref b) []) (RO W s ρ K') NoE s := by
  intro A s ρ b x H hx hb
  obtain ⟨x', d, ws, m, od, Z⟩ := acc_at H hacc.1 hacc.2
  have := Z.rx
  rw [hx] at this; cases this
  obtain ⟨hh, g, dr, t, osS⟩ := s
  obtain ⟨cod, cd, sl, hC, hq⟩ := Y.cls
  have hrel := Z.rel
  obtain ⟨vs, v, rfl, hvs, hv⟩ : ∃ vs v, ws = vs ++ [v] ∧ RelL hh ρ xs vs ∧ Rel hh ρ a v := by
    have key : ∀ (xs : List AV) (ws : List Value), RelL hh ρ (xs ++ [a]) ws → ∃ vs v, ws = vs ++ [v] ∧ RelL hh ρ xs vs ∧ Rel hh ρ a v := by
      intro xs
      induction xs with
      | nil => intro ws h; cases h with | cons r rs => cases rs; exact ⟨[], _, rfl, .nil, r⟩
      | cons y xs ih => intro ws h; cases h with | cons r rs => obtain ⟨vs, v, rfl, h1, h2⟩ := ih _ rs; exact ⟨_ :: vs, v, rfl, .cons r h1, h2⟩
    exact key xs ws hrel
  have X : K.In hh := Y.X H
  refine call_bound_pop hb Z.ox (X _ _ hC) (looks_mroIn X Y.nomod) hq fun A => raw_pop Z.ox (by rw [hvs.length]; exact hl) fun h' n' e1 e2 => ?_
  have hsol : ∀ b o, Solid o → hh.get? b = some o → h'.get? b = some o := fun b o so e => (e2.2 b fun q => H.notSolid O (List.mem_of_getElem? hx) (q ▸ e) so).trans e
  obtain ⟨x1, y1⟩ := H.upd O (s' := ⟨h', g, dr, t, osS⟩) (o' := .acc xs dk) hx (by simp [hacc.1]) (fun b o hb e => (e2.2 b hb).trans e) (by rw [e1]; simp) ⟨_, _, d, e1, Z.rd, hvs.mono hsol fun _ _ e => e⟩ H.gens rfl
  exact ⟨ρ, a, _, x1, y1, hv.mono hsol fun _ _ e => e, hK⟩
theorem bound_init (O : WdOk W) (hacc : IsAcc os k [] dk i) (hK : K' .none os) : ∀ A s ρ b x, AbsO W os ρ s → ρ[k]? = some x → s.heap.get? b = some (boundO "method-wrapper" "list.__init__" x) → wpAny (model W.prog W.w) A (call (.ref b) []) (RO W s ρ K') NoE s := by
  intro A s ρ b x H hx hb
  obtain ⟨x', d, ws, m, od, Z⟩ := acc_at H hacc.1 hacc.2
  have := Z.rx
  rw [hx] at this; cases this
  obtain ⟨hh, g, dr, t, osS⟩ := s
  have hw : ws = [] := by have := Z.rel.length; simpa using this
  subst hw
  refine call_bound_init hb fun A => raw_init Z.ox fun h' n' e1 e2 => ?_
  obtain ⟨x1, y1⟩ := H.upd O (s' := ⟨h', g, dr, t, osS⟩) (o' := .acc [] dk) hx (by simp [hacc.1]) (fun b o hb e => (e2.2 b hb).trans e) (by rw [e1]; simp) ⟨_, _, d, e1, Z.rd, .nil⟩ H.gens rfl
  have e : os.set k (.acc [] dk) = os := by
    apply List.ext_getElem?
    intro j
    by_cases hj : k = j
    · subst hj
      rw [List.getElem?_set_self (by have := List.getElem?_eq_some_iff.mp hacc.1; exact this.1), hacc.1]
    · rw [List.getElem?_set_ne hj]
  rw [e] at x1
  exact ⟨ρ, .none, _, x1, y1, .none, hK⟩
end
end Mine
end

section
open PySem PySem.W PyProof.Rows PySem.Calls
set_option Elab.async false
set_option maxRecDepth 100000
set_option linter.unusedVariables false
set_option maxHeartbeats 4000000
namespace Mine
section
variable {prog : Program} {w : World} {A : Around} {E : Value → Shared → Prop} {s : Shared}
/-- an object that holds a sequence, whatever its class -/
def SeqAt (h : Heap) (l : Addr) (items : List Value) : Prop := ∃ o n, h.get? l = some o ∧ o.data = .seq items.toArray n
theorem SeqAt.at {h h' : Heap} {l : Addr} {items : List Value} (x : SeqAt h l items) (e : ∀ o, h.get? l = some o → h'.get? l = some o) : SeqAt h' l items :=
  let ⟨o, n, a, b⟩ := x; ⟨o, n, e o a, b⟩
theorem seq_next {it l : Addr} {i : Nat} {items : List Value} {x : Value} {Q : Option Value → Shared → Prop} (hit : s.heap.IsListIter it l i)
    (hl : SeqAt s.heap l items) (hx : items[i]? = some x)
    (hQ : ∀ h', h'.IsListIter it l (i + 1) → Heap.SameBut it s.heap h' → Q (some x) { s with heap := h' }) :
    wpAny (model prog w) A (pyNext (.ref it)) Q E s := by
  obtain ⟨o, ho, hc, hd⟩ := id hit
  obtain ⟨ol, nl, hol, hdl⟩ := hl
  have hx' : items.toArray[i]? = some x := by simpa using hx
  unfold pyNext
  refine wpAny_bind (wpAny_attempt (wpAny_callSpecial?_slot (name := Str.ofString "__next__") hit.typeIs slot_listiter_next
    (wpAny_call_entry slot_listiter_next hit.typeIs entry_listiter_next ?_ (args_listiter_next _))))
  show wpAny _ _ (field (.ref it) 0 >>= _) _ _ s
  refine wpAny_bind (wpAny_field ho hd (x := .ref l) rfl ?_)
  show wpAny _ _ (if (Value.ref l == Value.none) = true then _ else _) _ _ s
  rw [if_neg (show ¬ ((Value.ref l == Value.none) = true) from Bool.false_ne_true)]
  show wpAny _ _ (field (.ref it) 1 >>= _) _ _ s
  refine wpAny_bind (wpAny_field ho hd (x := .int i 0) rfl ?_)
  show wpAny _ _ (seqItems? (.ref l) >>= _) _ _ s
  refine wpAny_bind (wpAny_seqItems hol hdl ?_)
  simp only [Int.toNat_natCast, hx']
  refine wpAny_bind (wpAny_setField ho hd (by simp) (wpAny_pure ⟨x, rfl, wpAny_pure (hQ _ ?_ (Heap.SameBut.update ..))⟩))
  exact ⟨_, Heap.get?_update_self _ ho (Obj.isFreed_of_fields (Obj.data_mapFields hd _)), (Obj.cls_mapFields ..).trans hc, by
    rw [Obj.data_mapFields hd]; simp [rawInt]⟩
theorem seq_end {it l : Addr} {i : Nat} {items : List Value} {Q : Option Value → Shared → Prop} (hh : A.handled = none)
    (hit : s.heap.IsListIter it l i) (hl : SeqAt s.heap l items) (hx : items[i]? = none)
    (hQ : ∀ h', Heap.ExtBut it s.heap h' → Q none { s with heap := h' }) : wpAny (model prog w) A (pyNext (.ref it)) Q E s := by
  obtain ⟨o, ho, hc, hd⟩ := id hit
  obtain ⟨ol, nl, hol, hdl⟩ := hl
  have hx' : items.toArray[i]? = none := by simpa using hx
  unfold pyNext
  refine wpAny_bind (wpAny_attempt (wpAny_callSpecial?_slot (name := Str.ofString "__next__") hit.typeIs slot_listiter_next
    (wpAny_call_entry slot_listiter_next hit.typeIs entry_listiter_next ?_ (args_listiter_next _))))
  show wpAny _ _ (field (.ref it) 0 >>= _) _ _ s
  refine wpAny_bind (wpAny_field ho hd (x := .ref l) rfl ?_)
  show wpAny _ _ (if (Value.ref l == Value.none) = true then _ else _) _ _ s
  rw [if_neg (show ¬ ((Value.ref l == Value.none) = true) from Bool.false_ne_true)]
  show wpAny _ _ (field (.ref it) 1 >>= _) _ _ s
  refine wpAny_bind (wpAny_field ho hd (x := .int i 0) rfl ?_)
  show wpAny _ _ (seqItems? (.ref l) >>= _) _ _ s
  refine wpAny_bind (wpAny_seqItems hol hdl ?_)
  simp only [Int.toNat_natCast, hx']
  refine wpAny_bind (wpAny_rule (wpAny_bind (wpAny_setField ho hd (by simp) ?_)))
  show wpAny _ _ (newExc (.type "StopIteration") [] >>= _) _ _ _
  refine wpAny_bind ?_
  simp only [newExc, newTuple]
  refine wpAny_bind (wpAny_newObj_type ?_ (by size_fits))
  refine wpAny_bind (m := firstArgMember _ _) (wpAny_of_eq (a := Value.none) (by first | rfl | (simp only [firstArgMember]; rfl)) ?_)
  refine wpAny_newObj_type ?_ (by size_fits)
  simp only [raiseNew]
  refine wpAny_bind (wpAny_handled ?_)
  rw [show A.in1.handled = none from hh]
  refine wpAny_bind (wpAny_pure (wpAny_throw ?_))
  refine wpAny_bind (wpAny_isInstance (T := "StopIteration") (b := true) ⟨_, Heap.get?_push_size _ rfl, rfl⟩ isSubtype_stop ?_)
  exact wpAny_pure (hQ _ (((Heap.SameBut.update ..).extBut.push _).push _))
/-- over a list of pairs, whatever its class -/
theorem walksPairs {prog : Program} {w : World} {A : Around} (hh : A.handled = none) (I ax : Addr) (hne : ax ≠ I) (items : List Value) (Ts : Nat → Addr) (vals : Nat → Array Value)
    (hit : ∀ j, j < items.length → items[j]? = some (.ref (Ts j))) (hTI : ∀ j, j < items.length → Ts j ≠ I) :
    WalksU prog w A I (I :: ax :: (List.range items.length).map Ts) [I] items.length (fun j v => v = vals j)
      (fun j h => h.IsListIter I ax j ∧ SeqAt h ax items ∧ ∀ k, k < items.length → h.IsTuple (Ts k) (vals k))
      (fun j T h => (j < items.length ∧ T = Ts j) ∧ h.IsListIter I ax (j + 1) ∧ SeqAt h ax items ∧ ∀ k, k < items.length → h.IsTuple (Ts k) (vals k)) where
  sub := fun b hb => by simp at hb; simp [hb]
  frame := fun _ _ _ st hk => ⟨st.1.at fun o e => hk I (by simp) o e, st.2.1.at fun o e => hk ax (by simp) o e,
    fun k hk' => (st.2.2 k hk').at fun o e => hk (Ts k) (List.mem_cons_of_mem _ (List.mem_cons_of_mem _ (List.mem_map.mpr ⟨k, List.mem_range.mpr hk', rfl⟩))) o e⟩
  item := fun i s Q E hi st hQ => by
    refine seq_next st.1 st.2.1 (x := .ref (Ts i)) (hit i hi) fun h' hit' hs' => ?_
    have tup : ∀ k, k < items.length → h'.IsTuple (Ts k) (vals k) := fun k hk' => (st.2.2 k hk').extBut hs'.extBut (hTI k hk')
    exact hQ (Ts i) (vals i) h' s.toks rfl (tup i hi) ⟨⟨hi, rfl⟩, hit', st.2.1.at (fun o e => hs'.extBut _ o hne e), tup⟩ fun b o hb e => hs'.extBut b o (fun h => hb (by simp [h])) e
  go := fun _ _ _ _ _ s Q _ hm hQ => wpAny_letOwnedTupleGo_listiter hm.2.1 (hQ s.heap hm.2 fun _ _ _ e => e)
  apart := fun j T _ hm hmem => by
    rcases List.mem_cons.mp hmem with e | e
    · exact hTI j hm.1.1 (hm.1.2 ▸ e)
    · cases e
  done := fun s Q E st hQ => seq_end hh st.1 st.2.1 (by simp) fun h' he' => hQ h' s.toks fun b o hb e => he' b o (fun h => hb (by simp [h])) e
  self := fun _ _ _ _ st hQ => wpAny_pyIter_listiter st.1 hQ
end
section
variable {W : Wd} {K : Frag} {A : Around} {E : Value → Shared → Prop} {s : Shared} {os : List AO} {ρ : List Addr} {k dk : Nat} {xs : List AV} {i : Int} {x d : Addr} {vs : List Value} {m : Nat} {od : Obj}
theorem acc_iter (Y : AccCls W K) (H : AbsO W os ρ s) (a : AccAt W s.heap ρ k dk xs i x d vs m od) (hf : findIn K (.ref W.C) "__iter__" = some (some (.builtin "list.__iter__"))) {Q : Value → Shared → Prop}
    (hQ : Q (.ref s.heap.objs.size) { s with heap := s.heap.push { cls := .type "list_iterator", data := .fields #[.ref x, .int 0 0] } }) :
    wpAny (model W.prog W.w) A (pyIter (.ref x)) Q E s := by
  have X := Y.X H
  have I := a.inst
  have L1 : Looks (model W.prog W.w) s.heap (specialOf (.ref x) "__iter__") (some (.builtin "list.__iter__")) := I.type.andThen (looks_findIn X hf)
  unfold pyIter
  refine wpAny_bind (L1.here ?_)
  show wpAny _ A (callSpecialIfBoundUnlessNone? (.ref x) "__iter__" _ >>= _) Q E s
  have go : ∀ {Q' : Option Value → Shared → Prop} {refuse : Sem Value}, Q' (some (.ref s.heap.objs.size)) { s with heap := s.heap.push { cls := .type "list_iterator", data := .fields #[.ref x, .int 0 0] } } →
      wpAny (model W.prog W.w) A (callSpecialIfBoundUnlessNone? (.ref x) "__iter__" refuse) Q' E s := by
    intro Q' refuse hq
    simp only [callSpecialIfBoundUnlessNone?, bindSpecialIfBound?]
    refine wpAny_holding (wpAny_bind (wpAny_bind (L1.here ?_)))
    simp only [slot_list_iter.bind]
    refine wpAny_bind (wpAny_askSetting (wpAny_ite ?_))
    have fin : wpAny (model W.prog W.w) A (if (Value.builtin "list.__iter__" == Value.none) = true then (refuse >>= fun v => pure (some v)) else (call (.builtin "list.__iter__") [.ref x] >>= fun v => pure (some v))) Q' E s := by
      simp only [builtin_beq_none, Bool.false_eq_true, if_false]
      refine wpAny_bind (wpAny_call (codeAny_call_builtin slot_list_iter.plain entry_list_iter (check_slot (owner := "list") (n := "__iter__") (by decide +kernel) (by decide +kernel) (Y.isList H a) (args_list_iter _) ?_)))
      show wpAny _ _ (do ret (← newFields "list_iterator" [.ref x, rawInt 0])) _ _ s
      exact wpAny_bind (wpAny_newObj_type (wpAny_pure (wpAny_pure hq)))
    split
    · exact wpAny_bind (wpAny_pure (wpAny_pure fin))
    · exact wpAny_tryCatch (wpAny_bind (wpAny_pure (wpAny_pure fin)))
  refine wpAny_bind (go ?_)
  exact wpAny_bind (wpAny_specialOf (T := "list_iterator") ⟨_, Heap.get?_push_size _ rfl, rfl⟩ slot_listiter_next.lookup (wpAny_pure hQ))
end
end Mine
end

section
open PySem PySem.W PyProof.Rows PySem.Calls
set_option Elab.async false
set_option maxRecDepth 100000
set_option linter.unusedVariables false
set_option maxHeartbeats 4000000
namespace Mine
theorem join_nil : ∀ ls : List (List Nat), Txt.join (S []) (ls.map S) = S ls.flatten := by
  intro ls
  show Builtin.Str.glued (S []) (ls.map S) = _
  rw [StrLaws.glued_eq_join]
  induction ls with
  | nil => rfl
  | cons a ls ih =>
    cases ls with
    | nil => show S a = _; simp
    | cons b ls =>
      show S a ++ S [] ++ Str.join (S []) ((b :: ls).map S) = _
      rw [ih, S_append, S_append]
      simp
theorem strsAre_of {h : Heap} {ρ : List Addr} : ∀ {ls : List (List Nat)} {vs : List Value}, RelL h ρ (ls.map AV.str) vs → StrsAre vs (ls.map S)
  | [], _, h => by cases h; exact .nil
  | l :: ls, _, h => by
    cases h with
    | cons r rs => cases r; exact .cons _ _ (strsAre_of rs)
section
variable {W : Wd} {os : List AO} {K' : AV → List AO → Prop} {n : Nat}
end
end Mine
end

section
open PySem PySem.W PyProof.Rows PySem.Calls
set_option Elab.async false
set_option maxRecDepth 100000
set_option linter.unusedVariables false
set_option maxHeartbeats 4000000
namespace Mine
/-- the code object c has the table P, whatever stands in it -/
def TabAt (c : Addr) (h : Heap) (P : Addr) : Prop := ∃ ps, h.IsCode c P ps ∧ h.TableAt c P ps
/-- what a generator expression asks for -/
structure GenOk (W : Wd) (Γ : Ev) (cS : Addr) (j : Nat) : Prop where
  tab : ∀ h P, W.TabIs j h P ↔ TabAt cS h P
  code : Γ.env.code = .ref cS
  bm : ∃ bm ob, BMod W.base mainGlobals W.mg bm ob
section
variable {W : Wd} {Γ : Ev} {n : Nat} {cS : Addr} {j : Nat}
/-- the code of a generator expression: found in the table or put there -/
theorem gen_code (O : WdOk W) (G : GenOk W Γ cS j) {os : List AO} {ρ : List Addr} {s : Shared} {kt : Nat} (hkt : os[kt]? = some (.tab j)) (H : AbsO W os ρ s) {pos : Pos} {qualname : Str} {scope : Scope} {A : Around} {E : Value → Shared → Prop} {Q : Value → Shared → Prop}
    (hQ : ∀ code P h' tk, ρ[kt]? = some P → Heap.ExtBut P s.heap h' → h'.get? P ≠ none → AbsO W os ρ { s with heap := h', toks := tk } → Trans [] s { s with heap := h', toks := tk } ρ ρ → s.heap.objs.size ≤ h'.objs.size → Q code { s with heap := h', toks := tk }) :
    wpAny (model W.prog W.w) A (genexprCode Γ.env pos qualname scope) Q E s := by
  obtain ⟨P, hP, hT⟩ := H.objs kt _ hkt
  obtain ⟨ps, hc, ht⟩ := (G.tab _ _).mp hT
  have hset : os.set kt (.tab j) = os := by
    apply List.ext_getElem?
    intro i
    by_cases hi : kt = i
    · subst hi
      rw [List.getElem?_set_self (List.getElem?_eq_some_iff.mp hkt).1, hkt]
    · rw [List.getElem?_set_ne hi]
  cases hf : codeAmong pos ps.toList with
  | some c' =>
    refine wpAny_genexprCode_hit G.code hc hf ?_
    exact hQ c' P s.heap s.toks hP (Heap.ExtBut.refl _ _) (by rw [ht.2]; simp) H (.refl ..) (Nat.le_refl _)
  | none =>
    refine wpAny_genexprCodeX G.code hc ht hf fun c' h' tk hx hge hlt hc' _ ht' _ => ?_
    obtain ⟨x, y⟩ := H.upd O (s' := { s with heap := h', toks := tk }) (o' := .tab j) hP (by simp [hkt]) (fun b o hb e => hx b o hb e) (by rw [ht'.2]; simp) ((G.tab _ _).mpr ⟨_, hc', ht'⟩) H.gens rfl
    rw [hset] at x
    exact hQ _ P h' tk hP hx (by rw [ht'.2]; simp) x y (Nat.le_trans hge (Nat.le_of_lt hlt))

theorem TabAt.at {h h' : Heap} {P : Addr} (x : TabAt cS h P) (hc : ∀ o, h.get? cS = some o → h'.get? cS = some o) (hP : ∀ o, h.get? P = some o → h'.get? P = some o) : TabAt cS h' P := by
  obtain ⟨ps, ⟨o, vs, file, tf, flags, tg, inF, text, tt, op, ho, hd, h11, h2, h7, h9, h10, hop, r⟩, ⟨⟨o2, vs2, h12, r2⟩, t⟩⟩ := x
  exact ⟨ps, ⟨o, vs, file, tf, flags, tg, inF, text, tt, op, hc _ ho, hd, h11, h2, h7, h9, h10, hP _ hop, r⟩, ⟨⟨o2, vs2, hc _ h12, r2⟩, hP _ t⟩⟩

abbrev pairAV (p : List Nat × List Nat) : AV := .tup [.str p.1, .str p.2]
/-- what the items of a list of pairs of texts are -/
theorem pairs_at {h : Heap} {ρ : List Addr} : ∀ {ps : List (List Nat × List Nat)} {vs : List Value}, RelL h ρ (ps.map pairAV) vs → ∃ (Ts : Nat → Addr) (ta tb : Nat → Tok), ∀ j, (hj : j < ps.length) →
    vs[j]? = some (.ref (Ts j)) ∧ ∃ m, h.get? (Ts j) = some (tupO [.str (S ps[j].1) (ta j), .str (S ps[j].2) (tb j)] m)
  | [], _, _ => ⟨fun _ => 0, fun _ => 0, fun _ => 0, fun j hj => absurd hj (by simp)⟩
  | p :: ps, _, hr => by
    cases hr with
    | cons r rs =>
      obtain ⟨Ts, ta, tb, ih⟩ := pairs_at rs
      cases r with
      | tup _ a ws m e hw =>
        cases hw with
        | cons r1 hw => cases hw with
          | cons r2 hw =>
            cases hw; cases r1; cases r2
            rename_i t1 t2
            refine ⟨fun j => match j with | 0 => a | j + 1 => Ts j, fun j => match j with | 0 => t1 | j + 1 => ta j, fun j => match j with | 0 => t2 | j + 1 => tb j, fun j hj => ?_⟩
            cases j with
            | zero => exact ⟨rfl, m, e⟩
            | succ j => exact ih j (by simpa using hj)

/-- a generator over an own list of pairs of texts -/
theorem gen_acc {K : Frag} (O : WdOk W) (Z : EvOk Γ n) (Y : AccCls W K) (G : GenOk W Γ cS j) {σ : St} {ρ : List Addr} {s : Shared} (H : Abs W Γ σ ρ s) {kt k dk : Nat} {i : Int} {ps : List (List Nat × List Nat)} {x : Str}
    (hkt : σ.os[kt]? = some (.tab j)) (hacc : IsAcc σ.os k (ps.map pairAV) dk i) (hself : At Γ.nm σ.fr x (.obj k)) (hit : findIn K (.ref W.C) "__iter__" = some (some (.builtin "list.__iter__")))
    {elt : Expr} {xa xb : Str} {pa pb pt px : Pos} {kk : Nat} {scope : Scope} {pos : Pos}
    (hco : scope.isCoroutine = false) (hclos : closureFor scope Γ.env = pure []) (hcell : ∀ y ∈ scope.names, y.2 ≠ .cell) (h0 : scope.names.lookup (".0" : Str) = some NameKind.local)
    (hxa : scope.names.lookup xa = some .local) (hxb : scope.names.lookup xb = some .local) (hab : xa ≠ xb) (hkind : scope.kind = .function) (hs : ∀ v, genFold (.Name x px) Γ.env v = pure v)
    {F : Nat → Value → Prop} {Q : Value → Shared → Prop}
    (helt : ∀ (A' : Around) E' (C : Addr) (code : Value) jj (hj : jj < ps.length) ta tb (s₂ : Shared) m₂, A'.handled = none → s₂.heap.Ns C m₂ → m₂ xa = some (.str (S ps[jj].1) ta) → m₂ xb = some (.str (S ps[jj].2) tb) → (∀ b o, W.base.get? b = some o → s₂.heap.get? b = some o) →
      wpAny (model W.prog W.w) A' (eval elt (genEnv scope [] C code builtinsNs Γ.env)) (fun y s₃ => F jj y ∧ Keeps s₂ s₃) E' s₂)
    (hQ : ∀ (s₅ : Shared) (a g P : Addr) fp wr Pp St, WalksS W.prog W.w Γ.A.in4 a fp wr (GenOnlyQ g) ps.length Pp St → (∀ j v, Pp j v → F j v) → ρ[kt]? = some P → (∀ b o, b ≠ P → s.heap.get? b = some o → s₅.heap.get? b = some o) → TabAt cS s₅.heap P → AllBare s₅.gens → s₅.os = s.os → (∀ b ∈ wr, s.heap.get? b = none) → St 0 s₅ → (∀ i s', St i s' → s'.TypeIs (.ref a) "generator") → a ∈ fp → (∀ b ∈ fp, b < s₅.heap.objs.size) → Q (.ref a) s₅) :
    wpAny (model W.prog W.w) Γ.A (eval (.GeneratorExp elt [⟨.Tuple [.Name xa pa, .Name xb pb] kk pt, .Name x px, [], 0⟩] scope pos) Γ.env) Q NoE s := by
  refine wpAny_GeneratorExp_walksQT Z.room.1 hco hclos hcell h0 hxa hxb hab hkind Z.room.depth ?_ hs
  obtain ⟨xx, d, vs, m, od, ac⟩ := acc_at H.1 hacc.1 hacc.2
  obtain ⟨mm, Fr0, l⟩ := H.2.1.ex
  obtain ⟨v, hv, hr⟩ := l.at hself
  have hvx : v = .ref xx := by cases hr with | obj k a e => rw [ac.rx] at e; cases e; rfl
  subst hvx
  refine wpAny_Name (wpAny_loadName_local Z.kind (Z.loc x hself.mem) Fr0.ns hv ?_) (Z.dbg x (by simp [hself.mem]))
  refine acc_iter Y H.1 ac hit ?_
  generalize hI : s.heap.objs.size = I
  have hI0 : s.heap.get? I = none := hI ▸ none_at
  obtain ⟨H₂, T₂⟩ := H.1.grow O (s' := { s with heap := s.heap.push { cls := .type "list_iterator", data := .fields #[.ref xx, .int 0 0] } }) (push_old _) H.1.gens rfl
  have hgI : (s.heap.push { cls := .type "list_iterator", data := .fields #[.ref xx, .int 0 0] }).get? I = some { cls := .type "list_iterator", data := .fields #[.ref xx, .int 0 0] } := hI ▸ Heap.get?_push_size _ rfl
  refine ⟨O.nolimit.keeps H₂.keep, gen_code O G hkt H₂ fun code P h₃ tk₃ hP hx₃ hzP H₃ T₃ hsz => ?_⟩
  obtain ⟨bm, ob, M⟩ := G.bm
  have M₃ := M.keeps H₃.keep
  have hglob : Γ.env.globals = mainGlobals := Z.glob
  refine wpAny_builtinsFor (by rw [hglob]; exact M₃.ns) M₃.name M₃.ne M₃.obj M₃.cls M₃.dict M₃.data ?_
  obtain ⟨Ts, ta, tb, hTs⟩ := pairs_at ac.rel
  have hPI : P ≠ I := fun q => by obtain ⟨o, e⟩ := H.1.there O (List.mem_of_getElem? hP); exact ne_none e (q ▸ hI0)
  have up : ∀ b o, b ≠ P → s.heap.get? b = some o → h₃.get? b = some o := fun b o hb e => hx₃ b o hb (push_old _ b o e)
  have hPx : P ≠ xx := fun q => by
    obtain ⟨P', hP', hT⟩ := H.1.objs kt _ hkt
    rw [hP] at hP'; cases hP'
    obtain ⟨ps', _, ht⟩ := (G.tab _ _).mp hT
    have e1 := ht.2
    rw [q, ac.ox] at e1; cases e1
  have hPT : ∀ jj, jj < ps.length → Ts jj ≠ P := fun jj hj q => by
    obtain ⟨m', e⟩ := (hTs jj hj).2
    exact H.1.notSolid O (List.mem_of_getElem? hP) (q ▸ e) (solid_tup _ _)
  have hvl : vs.length = ps.length := by rw [ac.rel.length]; simp
  let vals : Nat → Array Value := fun jj => if hj : jj < ps.length then #[.str (S ps[jj].1) (ta jj), .str (S ps[jj].2) (tb jj)] else #[.none, .none]
  have hvals : ∀ jj (hj : jj < ps.length), vals jj = #[.str (S ps[jj].1) (ta jj), .str (S ps[jj].2) (tb jj)] := fun jj hj => dif_pos hj
  have hxI : xx ≠ I := fun q => ne_none ac.ox (q ▸ hI0)
  have hTI : ∀ jj, jj < vs.length → Ts jj ≠ I := fun jj hj q => by obtain ⟨m', e⟩ := (hTs jj (hvl ▸ hj)).2; exact ne_none e (q ▸ hI0)
  have htup3 : ∀ jj, jj < vs.length → h₃.IsTuple (Ts jj) (vals jj) := fun jj hj => by
    obtain ⟨m', e⟩ := (hTs jj (hvl ▸ hj)).2
    rw [hvals jj (hvl ▸ hj)]
    exact ⟨_, up _ _ (hPT jj (hvl ▸ hj)) e, rfl, m', rfl⟩
  have hlt3 : ∀ b o, s.heap.get? b = some o → b < h₃.objs.size := fun b o e => Nat.lt_of_lt_of_le (Heap.lt_size (push_old _ b o e)) hsz
  have hI3 : I < h₃.objs.size := Nat.lt_of_lt_of_le (Heap.lt_size hgI) hsz
  refine ⟨I, _, [I], vs.length, _, _, _, fun _ => true, F, rfl, fun A' hA => (walksPairs hA I xx hxI vs Ts vals (fun jj hj => (hTs jj (hvl ▸ hj)).1) hTI).bound, ?_, ⟨⟨_, hx₃ _ _ (fun q => hPI q.symm) hgI, rfl, rfl⟩, ⟨_, _, up _ _ (fun q => hPx q.symm) ac.ox, rfl⟩, htup3⟩, ?_, O.nolimit.keeps H₃.keep, ?_, ?_, ?_⟩
  · rintro jj vv ⟨hj, rfl⟩
    exact ⟨_, _, hvals jj (hvl ▸ hj)⟩
  · intro b hb
    show b < h₃.objs.size
    rcases List.mem_cons.mp hb with rfl | hb
    · exact hI3
    · rcases List.mem_cons.mp hb with rfl | hb
      · exact hlt3 _ _ ac.ox
      · obtain ⟨jj, hj, rfl⟩ := List.mem_map.mp hb
        obtain ⟨m', e⟩ := (hTs jj (hvl ▸ List.mem_range.mp hj)).2
        exact hlt3 _ _ e
  · intro hm
    have hc : cStatics < s.heap.objs.size := let ⟨_, hn, _⟩ := O.nolimit.keeps H.1.keep; hn.lt
    rw [List.mem_singleton.mp hm, ← hI] at hc
    exact absurd hc (Nat.lt_irrefl _)
  · intro href hhref
    refine ⟨fun A' E' jj va vb s₂ m₂ hA hPt hn h1 h2 hk => ?_, fun A' E' jj va vb s₂ m₂ hA hPt _ hn h1 h2 hk => ?_⟩
    · rw [List.forIn_nil]
      exact wpAny_pure ⟨rfl, s₂.heap, s₂.toks, rfl, fun _ _ e => e⟩
    · obtain ⟨hj, e⟩ := hPt
      rw [hvals jj (hvl ▸ hj)] at e
      cases e
      refine helt A' E' _ code jj (hvl ▸ hj) _ _ s₂ m₂ hA hn h1 h2 fun b o e => ?_
      have e3 := H₃.keep b o e
      exact hk b (List.mem_range.mpr (Heap.lt_size e3)) (fun q => by rw [List.mem_singleton.mp q] at e; exact ne_none (H.1.keep _ _ e) hI0) o (hhref b o e3)
  · intro a h₅ tk gs hgb hag hsz₅ hk₅ Wk hat
    obtain ⟨P', hP', hT⟩ := H₃.objs kt _ hkt
    rw [hP] at hP'; cases hP'
    have htab : TabAt cS h₃ P := (G.tab _ _).mp hT
    have hpass : passing (fun _ => true) vs.length 0 = List.range ps.length := by unfold passing; rw [hvl]; simp
    rw [hpass, List.length_range] at Wk
    refine hQ _ a s.gens.size P _ _ _ _ Wk ?_ hP (fun b o hb e => hk₅ b o (up b o hb e)) (htab.at (hk₅ _) (hk₅ _)) (H.1.gens.push hgb) rfl ?_ hat (fun i s' st => st.1.typeIs) (List.mem_cons_self ..) ?_
    · rintro jj v ⟨i', hi', hF⟩
      by_cases hj : jj < ps.length
      · simp [hj] at hi'; subst hi'; exact hF
      · simp [hj] at hi'
    · intro b hb
      rcases List.mem_cons.mp hb with rfl | hb
      · have : s.heap.objs.size ≤ h₃.objs.size := Nat.le_of_lt (hI ▸ hI3)
        cases q : s.heap.get? h₃.objs.size with
        | none => rfl
        | some o => exact absurd (Nat.lt_of_lt_of_le (Heap.lt_size q) this) (Nat.lt_irrefl _)
      · rw [List.mem_singleton.mp hb]; exact hI0
    · intro b hb
      show b < h₅.objs.size
      rw [hsz₅]
      have hag' : h₃.objs.size < a := hag
      rcases List.mem_cons.mp hb with rfl | hb
      · exact Nat.lt_succ_self _
      · rcases List.mem_cons.mp hb with rfl | hb
        · exact Nat.lt_succ_of_lt hag
        · exact Nat.lt_succ_of_lt (Nat.lt_trans (List.mem_range.mp hb) hag)
end
end Mine
end

section
open PySem PySem.W PyProof.Rows PySem.Calls
set_option Elab.async false
set_option maxRecDepth 100000
set_option linter.unusedVariables false
set_option maxHeartbeats 4000000
namespace Mine
section
variable {W : Wd} {Γ : Ev} {n : Nat} {cS : Addr} {j : Nat}
theorem sum_le {α : Type} (f : α → Nat) (c : Nat) : ∀ l : List α, (∀ a ∈ l, f a ≤ c) → (l.map f).sum ≤ l.length * c
  | [], _ => by simp
  | a :: l, h => by
    have h1 := sum_le f c l fun b hb => h b (.tail _ hb)
    have h2 := h a (.head _)
    simp only [List.map_cons, List.sum_cons, List.length_cons, Nat.succ_mul]
    omega
/-- sep.join((sep.join((a, b)) for a, b in x)) for an own list of pairs of texts, sep bare -/
theorem E_joingen {K : Frag} (O : WdOk W) (Z : EvOk Γ n) (Y : AccCls W K) (G : GenOk W Γ cS j) {σ : St} {kt k dk : Nat} {i : Int} {ps : List (List Nat × List Nat)} {x sp : Str} {t : Tok} {xa xb : Str} {pa pb pt px np1 np2 ap1 ap2 pos pos2 tp pa2 pb2 : Pos} {kk k2 : Nat} {scope : Scope} {gpos : Pos}
    (hkt : σ.os[kt]? = some (.tab j)) (hacc : IsAcc σ.os k (ps.map pairAV) dk i) (hself : At Γ.nm σ.fr x (.obj k)) (hit : findIn K (.ref W.C) "__iter__" = some (some (.builtin "list.__iter__")))
    (hsp : sp ∈ Γ.gn) (hg : GlobIs W sp (.str (S []) t)) (hli1 : (ap1.endLine == pos.line) = true) (hli2 : (ap2.endLine == pos2.line) = true) (hl : ps.length ≤ 1000) (hls : ∀ p ∈ ps, p.1.length ≤ 400 ∧ p.2.length ≤ 400)
    (hco : scope.isCoroutine = false) (hclos : closureFor scope Γ.env = pure []) (hcell : ∀ y ∈ scope.names, y.2 ≠ .cell) (h0 : scope.names.lookup (".0" : Str) = some NameKind.local)
    (hxa : scope.names.lookup xa = some .local) (hxb : scope.names.lookup xb = some .local) (hab : xa ≠ xb) (hkind : scope.kind = .function) (hs : ∀ v, genFold (.Name x px) Γ.env v = pure v)
    (hsps : scope.names.lookup sp = some .globalImplicit) (hd1 : (sp == ("__debug__" : Str)) = false) (hd2 : (xa == ("__debug__" : Str)) = false) (hd3 : (xb == ("__debug__" : Str)) = false)
    {K' : AV → St → Prop} (h : K' (.str (ps.map fun p => p.1 ++ p.2).flatten) σ)
    (hst : starEach [.GeneratorExp (.Call (.Attribute (.Name sp np2) (Str.ofString "join") ap2) [.Tuple [.Name xa pa2, .Name xb pb2] k2 tp] [] pos2) [⟨.Tuple [.Name xa pa, .Name xb pb] kk pt, .Name x px, [], 0⟩] scope gpos] Γ.env =
      [(false, eval (.GeneratorExp (.Call (.Attribute (.Name sp np2) (Str.ofString "join") ap2) [.Tuple [.Name xa pa2, .Name xb pb2] k2 tp] [] pos2) [⟨.Tuple [.Name xa pa, .Name xb pb] kk pt, .Name x px, [], 0⟩] scope gpos) Γ.env)]) :
    EV W Γ (.Call (.Attribute (.Name sp np1) (Str.ofString "join") ap1) [.GeneratorExp (.Call (.Attribute (.Name sp np2) (Str.ofString "join") ap2) [.Tuple [.Name xa pa2, .Name xb pb2] k2 tp] [] pos2)
      [⟨.Tuple [.Name xa pa, .Name xb pb] kk pt, .Name x px, [], 0⟩] scope gpos] [] pos) σ K' := by
  intro s ρ H
  have hplain : ∀ pos, (backTo pos (starEach [.GeneratorExp (.Call (.Attribute (.Name sp np2) (Str.ofString "join") ap2) [.Tuple [.Name xa pa2, .Name xb pb2] k2 tp] [] pos2) [⟨.Tuple [.Name xa pa, .Name xb pb] kk pt, .Name x px, [], 0⟩] scope gpos] Γ.env)).any (·.1) = false := fun pos => by rw [hst]; rfl
  refine wpAny_Call_method rfl (by rw [hst]; rfl) hli1 F.plainAttrs_str F.slot_str_join F.type_str_join (name_glob O Z H.1 hsp hg ⟨typeIs_str _ _ _, (fun a e => nomatch e), ?_⟩)
  refine callWith_any (hplain pos) (evalArgs_of (hplain pos) (spliced_more ?_ hst))
  refine gen_acc (F := fun jj v => ∃ (hj : jj < ps.length) (u : Tok), v = .str (S (ps[jj].1 ++ ps[jj].2)) u) O Z Y G H hkt hacc hself hit hco hclos hcell h0 hxa hxb hab hkind hs (fun A' E' C code jj hj ta tb s₂ m₂ hA hn h1 h2 hbase => ?_) (fun s₅ a g P fp wr Pp St Wk hP hPt hup htab hbare hos hwr hst0 hT haf hfp => ?_)
  · -- one item
    have hg2 : s₂.heap.Ns Γ.env.globals W.mg := by rw [Z.glob]; exact O.g.keeps hbase
    have name_sp : ∀ {Q : Value → Shared → Prop} {E : Value → Shared → Prop}, Q (.str (S []) t) s₂ → wpAny (model W.prog W.w) A' (eval (.Name sp np2) (genEnv scope [] C code builtinsNs Γ.env)) Q E s₂ := by
      intro Q E hq
      refine Name_function_global hkind hsps ?_ hd1
      cases hg with
      | own e => exact loadGlobal_global hg2 e hq
      | boot e1 e2 e3 => exact loadGlobal_builtin hg2 e1 (O.b.keeps hbase) ((O.bi _ e3).trans e2) hq
    have name_loc : ∀ {y : Str} {p : Pos} {v : Value} {Q : Value → Shared → Prop} {E : Value → Shared → Prop}, scope.names.lookup y = some .local → (y == ("__debug__" : Str)) = false → m₂ y = some v → Q v s₂ →
        wpAny (model W.prog W.w) A' (eval (.Name y p) (genEnv scope [] C code builtinsNs Γ.env)) Q E s₂ := by
      intro y p v Q E hy hd hv hq
      exact wpAny_Name (wpAny_loadName_local hkind hy hn hv hq) hd
    refine wpAny_Call_method rfl rfl hli2 F.plainAttrs_str F.slot_str_join F.type_str_join (name_sp ⟨typeIs_str _ _ _, (fun a e => nomatch e), ?_⟩)
    refine callWith_any rfl (evalArgs_of rfl (spliced_more (wpAny_Tuple (spliced_more (name_loc hxa hd2 h1 (spliced_more (name_loc hxb hd3 h2 (spliced_none ⟨by rw [sizeLine_num]; simp, ?_⟩)) rfl)) rfl)) rfl))
    refine spliced_none (wpAny_pure ?_)
    have hp := hls ps[jj] (List.getElem_mem hj)
    refine join_tuple (items := #[.str (S ps[jj].1) ta, .str (S ps[jj].2) tb]) (ys := [S ps[jj].1, S ps[jj].2]) ⟨_, Heap.get?_push_size _ rfl, rfl, 0, rfl⟩ (.cons _ _ (.cons _ _ .nil)) ?_ fun t' k => ?_
    · simp only [List.map_cons, List.map_nil, List.sum_cons, List.sum_nil, S_len, List.length_nil, List.length_cons]
      omega
    · refine ⟨⟨hj, t', ?_⟩, _, _, rfl, push_old _⟩
      have := join_nil [ps[jj].1, ps[jj].2]
      simp only [List.map_cons, List.map_nil, List.flatten_cons, List.flatten_nil, List.append_nil] at this
      rw [this]
  · refine spliced_none (wpAny_pure ?_)
    refine SC.joinGen Wk.in4_2 hT hst0 hfp haf (fun jj v hv => ?_) (fun s' lt hm hacc' => ?_) (by rw [sizeLine_num]; omega)
    · obtain ⟨hj, u, e⟩ := hP _ _ hv
      exact ⟨_, u, e⟩
    · have hlt : lt.map (·.1) = (ps.map fun p => p.1 ++ p.2).map S := by
        apply List.ext_getElem?
        intro jj
        have hsz : lt.length = ps.length := by simpa [strValues] using hacc'.1
        by_cases hj : jj < ps.length
        · have hj' : jj < lt.length := hsz ▸ hj
          obtain ⟨_, u, hv⟩ := hP _ _ (hacc'.2 jj (.str lt[jj].1 lt[jj].2) (by simp [strValues, List.getElem?_eq_getElem hj']))
          injection hv with h1 _
          simp [List.getElem?_eq_getElem hj', hj, h1]
        · rw [List.getElem?_eq_none (by simpa [hsz] using Nat.le_of_not_lt hj), List.getElem?_eq_none (by simpa using Nat.le_of_not_lt hj)]
      rw [hlt, join_nil]
      refine ⟨joinOk_of ?_, fun t' kx => ?_⟩
      · have := sum_le (fun l : Str => l.length) 800 ((ps.map fun p => p.1 ++ p.2).map S) (fun a ha => by
          obtain ⟨l, hl', rfl⟩ := List.mem_map.mp ha
          obtain ⟨p, hp, rfl⟩ := List.mem_map.mp hl'
          have := hls p hp
          rw [S_len, List.length_append]; omega)
        simp only [List.length_map] at this ⊢
        show _ + _ * 0 ≤ _
        omega
      · -- the end
        have hPw : P ∉ wr := fun hm' => by obtain ⟨o, e⟩ := H.1.there O (List.mem_of_getElem? hPt); exact ne_none e (hwr P hm')
        have hcw : cS ∉ wr := fun hm' => by
          obtain ⟨P', hP', hT'⟩ := H.1.objs kt _ hkt
          obtain ⟨_, ⟨o, vs, file, tf, flags, tg, inF, text, tt, op, ho, _⟩, _⟩ := (G.tab _ _).mp hT'
          exact ne_none ho (hwr _ hm')
        have hset : σ.os.set kt (.tab j) = σ.os := by
          apply List.ext_getElem?
          intro i
          by_cases hi : kt = i
          · subst hi
            rw [List.getElem?_set_self (List.getElem?_eq_some_iff.mp hkt).1, hkt]
          · rw [List.getElem?_set_ne hi]
        have htab' : TabAt cS s'.heap P := htab.at (fun o e => hm.heap _ _ hcw e) (fun o e => hm.heap _ _ hPw e)
        obtain ⟨x1, y1⟩ := H.1.upd O (s' := { s' with toks := kx }) (o' := .tab j) hPt (by simp [hkt]) (fun b o hb e => hm.heap b o (fun q => ne_none e (hwr b q)) (hup b o hb e)) (by obtain ⟨ps', _, ht⟩ := htab'; show s'.heap.get? P ≠ none; rw [ht.2]; simp) ((G.tab _ _).mpr htab') (hbare.moved hm.gens) (hm.os.trans hos)
        rw [hset] at x1
        obtain ⟨x2, y2⟩ := H.step x1 y1
        exact ⟨ρ, _, σ, x2, y2, .str _ _, h⟩
end
end Mine
end

section
open PySem PySem.W PyProof.Rows PySem.Calls
set_option Elab.async false
set_option maxRecDepth 100000
set_option linter.unusedVariables false
set_option maxHeartbeats 4000000
namespace Mine
/-- a class whose instances list.__new__ makes -/
def makesList (K : Frag) (C : Addr) : Bool := match K.lookup C with
  | some ⟨_, _, .cls cd, sl⟩ => !cd.abstract && !cd.hasDel && cd.hasDict && (sl.toList[4]?).join == some (.builtin "list.__new__") && !cd.mro.isEmpty && cd.mro.contains (.ref C) && cd.mro.contains (.type "list") &&
      specialIn K (.ref C) "__call__" == some (some (.builtin "type.__call__")) && instIn K (.ref C) (.type "type") == some true
  | _ => false
structure MakesL (M : Model) (h : Heap) (C : Addr) : Prop where
  obj : ∃ oc od cd sl, h.get? C = some ⟨oc, od, .cls cd, sl⟩ ∧ cd.abstract = false ∧ cd.hasDel = false ∧ cd.mro.isEmpty = false ∧ cd.hasDict = true
  made : Looks M h (Bind.madeBy (.ref C)) (some "list.__new__")
  base : Looks M h (Bind.staticBase (.ref C)) (.ref C)
  self : Looks M h (isSubtype (.ref C) (.ref C)) true
  top : Looks M h (isSubtype (.ref C) (.type "list")) true
  call : Looks M h (specialOf (.ref C) "__call__") (some (.builtin "type.__call__"))
  typ : Looks M h (isInstance (.ref C) (.type "type")) true
theorem makesL_of {K : Frag} {M : Model} {h : Heap} (X : K.In h) {C : Addr} (e : makesList K C = true) : MakesL M h C := by
  unfold makesList at e
  split at e
  · rename_i oc od cd sl ho
    simp only [Bool.and_eq_true, Bool.not_eq_true', beq_iff_eq] at e
    obtain ⟨⟨⟨⟨⟨⟨⟨⟨e1, e2⟩, e0⟩, e3⟩, e4⟩, e5⟩, e6⟩, e7⟩, e8⟩ := e
    have hc : clsIn K C = some cd := by unfold clsIn; rw [ho]
    have hm : Looks M h (mroOf (.ref C)) cd.mro := (looks_clsIn X hc).andThen .now
    obtain ⟨c, l, hl⟩ : ∃ c l, cd.mro = c :: l := by cases q : cd.mro with | nil => rw [q] at e4; cases e4 | cons c l => exact ⟨c, l, rfl⟩
    have made : Looks M h (Bind.madeBy (.ref C)) (some "list.__new__") := by
      intro A Q E s k q
      unfold Bind.madeBy
      refine wpAny_bind (hm A _ E s k ?_)
      rw [hl, List.forIn_cons]
      refine wpAny_bind (wpAny_bind (wpAny_bind (wpAny_bind (wpAny_loadPart (k _ _ (X _ _ ho)) (wpAny_pure ?_)))))
      dsimp only
      rw [← Array.getElem?_toList, e3]
      exact wpAny_pure (wpAny_pure (wpAny_pure q))
    refine ⟨⟨oc, od, cd, sl, X _ _ ho, e1, e2, e4, e0⟩, made, ?_, looks_mroIn X ?_, looks_mroIn X ?_, looks_specialIn X e7, looks_instIn X e8⟩
    · intro A Q E s k q
      unfold Bind.staticBase
      refine wpAny_bind (hm A _ E s k ?_)
      rw [hl, List.forIn_cons]
      exact wpAny_bind (wpAny_bind (wpAny_bind (made A _ E s k (wpAny_pure (wpAny_pure (wpAny_pure q))))))
    · unfold mroIn; rw [hc, Option.bind_some, if_neg (by rw [e4]; decide), e5]
    · unfold mroIn; rw [hc, Option.bind_some, if_neg (by rw [e4]; decide), e6]
  · cases e
abbrev eDict : Obj := { cls := .type "dict", data := .dict #[] }
section
variable {prog : Program} {w : World} {A : Around} {C : Addr} {E : Value → Shared → Prop} {h : Heap} {g : Array GenState} {d : Drawn} {t : Nat} {os : OsState}
theorem ln_kind : builtinKind "list.__new__" = some .builtinFn := by decide +kernel
theorem ln_split : splitId "list.__new__" = some ("list", "__new__") := by decide +kernel
theorem newL {rest : List Value} {R : Result → Shared → Prop} (Y : MakesL (model prog w) h C)
    (hq : R (.ok (.ret (.ref (h.objs.size + 1)))) ⟨(h.push eDict).push (accO C h.objs.size [] 0), g, d, t, os⟩) :
    codeAny (model prog w) A (.call (.builtin "list.__new__") ⟨.ref C :: rest, []⟩) R ⟨h, g, d, t, os⟩ := by
  obtain ⟨⟨oc, od, cd, sl, hC, e1, e2, e4, e0⟩, made, base, self, top, call, typ⟩ := Y
  refine codeAny_of_tree ?_
  show wpAny _ A.in1 (do checkBuiltinCall "list.__new__" ⟨.ref C :: rest, []⟩; again (.builtin "list.__new__" ⟨.ref C :: rest, []⟩)) _ _ _
  refine wpAny_bind ?_
  simp only [checkBuiltinCall, ln_kind, ln_split]
  repeat (first | simp only [bne_self_eq_false, Bool.false_eq_true, if_false] | lk)
  refine ⟨plainId_quiet F.plain_list_new _, codeAny_builtin_stack F.entry_list_new rfl fun p st => ?_⟩
  have hown := owner_list_new
  have hC2 : ((h.push { cls := .type "dict", data := .dict #[] }).push { cls := .ref C, dict := some h.objs.size, data := .seq #[] }).get? C = some ⟨oc, od, .cls cd, sl⟩ := Heap.get?_push_of_some _ (Heap.get?_push_of_some _ hC)
  simp only [hown]
  repeat lk
  rw [e2]
  repeat lk
  show R _ _
  rw [Heap.size_push]
  exact hq
theorem make_acc {rest : List Value} {init : Addr} {Q : Value → Shared → Prop} (Y : MakesL (model prog w) h C) (hi : Looks (model prog w) h (typeLookup (.ref C) "__init__") (some (.ref init)))
    (hb : ∀ self, Looks (model prog w) h (bindSpecial (.ref init) self) (.ref init, [self]))
    (hq : ∀ A', (∀ n, Room (n + 1) A → Room n A') → wpAny (model prog w) A' (call (.ref init) (.ref (h.objs.size + 1) :: rest)) (fun v s' => v = .none ∧ Q (.ref (h.objs.size + 1)) s') E ⟨(h.push eDict).push (accO C h.objs.size [] 0), g, d, t, os⟩) :
    wpAny (model prog w) A (call (.ref C) rest) Q E ⟨h, g, d, t, os⟩ := by
  have Y' := Y
  obtain ⟨⟨oc, od, cd, sl, hC, e1, e2, e4, e0⟩, made, base, self, top, call, typ⟩ := Y
  refine wpAny_call (codeAny_of_tree ?_)
  show wpAny _ _ (callAny (.ref C) _) _ _ _
  refine nd_load hC ?_
  show wpAny _ _ (callAny.viaDunder (.ref C) _) _ _ _
  unfold callAny.viaDunder
  refine wpAny_bind (call.at ?_)
  dsimp only
  rw [tc_bind]
  refine wpAny_bind (wpAny_pure (wpAny_bind (wpAny_pure ?_)))
  refine wpAny_pure (a := Fin.again (.call (.builtin "type.__call__") ⟨.ref C :: rest, []⟩)) (And.intro rfl ?_)
  refine codeAny_call_builtin_at (Code.quiet_builtin _ (by decide +kernel)) entry_typeCall (check_slot tc_kind tc_split typ (tc_args _ _ _) ?_)
  unfold Builtin.«type.__call__»
  have hm : Looks (model prog w) h (mroOf (.ref C)) cd.mro := ((Looks.ld (part := none) hC).andThen .now).andThen .now
  repeat (first | simp only [e4, Bool.false_eq_true, if_false] | with_reducible refine wpAny_call ?_ | lk)
  refine newL Y' ?_
  have k : ∀ b o, h.get? b = some o → ((h.push eDict).push (accO C h.objs.size [] 0)).get? b = some o := fun b o e => Heap.get?_push_of_some _ (Heap.get?_push_of_some _ e)
  have hx : ((h.push eDict).push (accO C h.objs.size [] 0)).get? (h.objs.size + 1) = some (accO C h.objs.size [] 0) := by heap_get
  have t1 : Looks (model prog w) ((h.push eDict).push (accO C h.objs.size [] 0)) (typeOf (.ref (h.objs.size + 1))) (.ref C) := (Looks.ld hx).andThen .now
  have s1 := self.keeps k
  have i1 := hi.keeps k
  have b1 := (hb (.ref (h.objs.size + 1))).keeps k
  have hroom : ∀ n, Room (n + 1) A → Room n (A.under (.builtin "type.__call__" ⟨.ref C :: rest, []⟩)) := fun n ⟨h1, h2, h3⟩ => by
    have w1 : (Code.builtin "type.__call__" ⟨.ref C :: rest, []⟩).weight = 1 := by kernel_rfl
    have w2 : (Code.builtin "type.__call__" ⟨.ref C :: rest, []⟩).cUnits = 1 := by kernel_rfl
    refine ⟨h1, ?_, ?_⟩
    · show A.depth + Code.weight _ + n < _
      rw [w1]; omega
    · show A.units + Code.cUnits _ + 10 * n + 20 < _
      rw [w2]; omega
  have hq' : wpAny (model prog w) (A.under (.builtin "type.__call__" ⟨.ref C :: rest, []⟩)) (PySem.call (.ref init) ([.ref (h.objs.size + 1)] ++ rest)) (fun v s' => v = .none ∧ Q (.ref (h.objs.size + 1)) s') E ⟨(h.push eDict).push (accO C h.objs.size [] 0), g, d, t, os⟩ := hq _ hroom
  unfold isInstance callSpecial? specialOf
  repeat (first | with_reducible refine wpAny_mono hq' (fun v s' z => ?_) (fun _ _ z => z) | lk)
  obtain ⟨rfl, z⟩ := z
  exact wpAny_pure z
end
section
variable {W : Wd} {K : Frag} {n : Nat} {os : List AO} {K' : AV → List AO → Prop}
/-- a new own list -/
theorem V_new (O : WdOk W) (Y : AccCls W K) {fI : Addr} (hm : makesList K W.C = true) (hi : findIn K (.ref W.C) "__init__" = some (some (.ref fI))) (hf : typeIn K (.ref fI) = some (.type "function")) {avs : List AV}
    (h : CallV W n (.ref fI) (.obj (os.length + 1) :: avs) (os ++ [.edict, .acc [] os.length]) fun a os' => a = .none ∧ K' (.obj (os.length + 1)) os') : CallV W (n + 1) (.ref W.C) avs os K' := by
  intro A s ρ vs R H hr
  have X := Y.X H
  obtain ⟨hh, g, dr, t, osS⟩ := s
  refine make_acc (makesL_of X hm) (looks_findIn X hi) (fun self => bind_fn X self hf) fun A' hA' => ?_
  have hz0 : hh.get? hh.objs.size = none := none_at
  obtain ⟨H₁, T₁⟩ := H.new O (a := hh.objs.size) (o' := .edict) (s' := ⟨hh.push eDict, g, dr, t, osS⟩) hz0 (push_old _) ⟨0, Heap.get?_push_size _ rfl⟩ H.gens rfl
  have hz1 : (hh.push eDict).get? (hh.push eDict).objs.size = none := none_at
  have hsz : (hh.push eDict).objs.size = hh.objs.size + 1 := Heap.size_push ..
  rw [hsz] at hz1
  have hget : ((hh.push eDict).push (accO W.C hh.objs.size [] 0)).get? (hh.objs.size + 1) = some (accO W.C hh.objs.size [] 0) := by
    have : ((hh.push eDict).push (accO W.C hh.objs.size [] 0)).get? (hh.push eDict).objs.size = some (accO W.C hh.objs.size [] 0) := Heap.get?_push_size _ rfl
    rw [hsz] at this; exact this
  obtain ⟨H₂, T₂⟩ := H₁.new O (a := hh.objs.size + 1) (o' := .acc [] os.length) (s' := ⟨(hh.push eDict).push (accO W.C hh.objs.size [] 0), g, dr, t, osS⟩) hz1 (push_old _)
    ⟨[], 0, hh.objs.size, hget, by rw [← H.len]; simp, .nil⟩ H.gens rfl
  have T := T₁.trans T₂
  have e1 : os ++ [AO.edict] ++ [.acc [] os.length] = os ++ [.edict, .acc [] os.length] := by simp
  rw [e1] at H₂
  refine wpAny_mono (h A' _ _ _ (hA' _ R) H₂ (.cons (.obj _ _ ?_) (hr.tr T))) (fun v s' hv => ?_) fun _ _ z => z
  · have : os.length + 1 = (ρ ++ [hh.objs.size]).length := by rw [List.length_append, H.len]; rfl
    rw [this]; simp
  · obtain ⟨ρ', av, os', H', T', R', rfl, hk⟩ := hv
    cases R'
    refine ⟨rfl, ρ', _, os', H', T.trans T', .obj _ _ (T'.get ?_), hk⟩
    have : os.length + 1 = (ρ ++ [hh.objs.size]).length := by rw [List.length_append, H.len]; rfl
    rw [this]; simp
theorem Room.in2 {A : Around} (h : Room (n + 1) A) : Room n A.in1.in1 := ⟨h.1, by have := h.2.1; show A.depth + n < _; omega, by have := h.2.2; show A.units + 1 + 1 + 10 * n + 20 < _; omega⟩
/-- str(x) -/
theorem V_strof (Y : AccCls W K) {k dk : Nat} {xs : List AV} {i : Int} {fs : Addr} (hacc : IsAcc os k xs dk i) (hs : findIn K (.ref W.C) "__str__" = some (some (.ref fs))) (hf : isFn K (.ref fs) = true)
    (h : CallV W n (.ref fs) [.obj k] os fun a os' => ∃ l, a = .str l ∧ K' (.str l) os') : CallV W (n + 1) (.type "str") [.obj k] os K' := by
  intro A s ρ vs R H hr
  cases hr with
  | cons r rs =>
    cases rs
    cases r with | obj k x hx =>
    obtain ⟨x', d, ws, m, od, Z⟩ := acc_at H hacc.1 hacc.2
    have := Z.rx
    rw [hx] at this; cases this
    refine kso_call (by have := R.2.2; show A.units + 1 + 1 < _; omega) (Y.X H) Z.inst hs hf (wpAny_mono (h _ _ _ _ R.in2 H (.cons (.obj k _ hx) .nil)) (fun v s' hv => ?_) fun _ _ z => z)
    obtain ⟨ρ', av, os', H', T', R', l, rfl, hk⟩ := hv
    cases R'
    exact ⟨ρ', _, os', H', T', .str _ _, hk⟩
end
end Mine
end

section
open PySem PySem.W PyProof.Rows PySem.Calls Builtin Builtin.ObjectAttr
set_option Elab.async false
set_option maxRecDepth 100000
set_option linter.unusedVariables false
set_option maxHeartbeats 4000000
namespace Mine
theorem refuse_list (self : Value) : refuseLoop self "__setattr__" [.type "list", .type "object"] = pure () := by kernel_rfl
abbrev dObj (es : List DictEntry) (ep : Nat) : Obj := { cls := .type "dict", data := .dict es.toArray ep }
theorem put_size (hs : Int) (v : Value) (t ep : Nat) : Obj.putName sizeN hs (.str sizeN t) v (dObj [] ep) = dObj [⟨hs, .str sizeN t, v⟩] (ep + 1) := by
  rw [Obj.putName_eq]
  simp [Obj.putNameByArray]
section
variable {prog : Program} {w : World} {A : Around} {E : Value → Shared → Prop} {K : Frag} {C x d : Addr} {h : Heap} {g : Array GenState} {dr : Drawn} {t : Nat} {os : OsState} {vs : List Value} {m ep : Nat}
theorem set_size {cd : ClassData} {v : Value} {Q : Unit → Shared → Prop} (X : K.In h) (hx : h.get? x = some (accO C d vs m)) (hd : h.get? d = some (dObj [] ep)) (hc : clsIn K C = some cd) (hmro : cd.mro = [.ref C, .type "list", .type "object"]) (hdict : cd.hasDict = true)
    (hs : findIn K (.ref C) "__setattr__" = some (some (.builtin "object.__setattr__"))) (hn : findIn K (.ref C) sizeN = some none)
    (hq : ∀ h' ep' hs tk tk', h'.get? d = some (dObj [⟨hs, .str sizeN tk, v⟩] ep') → Heap.SameBut d h h' → Q () ⟨h', g, dr, tk', os⟩) :
    wpAny (model prog w) A (setAttr (.ref x) sizeN v) Q E ⟨h, g, dr, t, os⟩ := by
  have I : PySem.W.InstAt h x (accO C d vs m) C (some (dObj [] ep)) := ⟨hx, rfl, rfl, hd⟩
  refine set_plain X I hs ?_
  have SF := PySem.F.store_object
  have hmro' : ∀ {h' : Heap}, K.In h' → Looks (model prog w) h' (mroOf (.ref C)) cd.mro := fun X' => (looks_clsIn X' hc).andThen .now
  have sub : Looks (model prog w) h (isInstance (.ref x) (.type "object")) true := I.type.andThen (looks_mroIn X (by unfold mroIn; rw [hc, Option.bind_some, hmro]; rfl))
  refine codeAny_call_builtin SF.slot.plain SF.entry (@check_slot (model prog w) _ _ ⟨h, g, dr, t + 1, os⟩ "object.__setattr__" "object" "__setattr__" (.ref x) [.str sizeN t, v] [] _ SF.kind SF.split sub (SF.args (.ref x) (.str sizeN t) v) ?_)
  rw [osa_eq, refuse_eq]
  refine wpAny_bind (wpAny_bind (I.type.here (wpAny_bind ((hmro' X).here ?_))))
  rw [hmro, refuseLoop_ref, refuse_list]
  refine wpAny_pure (wpAny_bind (I.type.here (wpAny_bind ((looks_findIn X hn).here (wpAny_bind (wpAny_pure ?_))))))
  show wpAny _ _ (storeInOwnDict (.ref x) (.ref C) (.str sizeN t) sizeN v false) _ _ _
  refine wpAny_bind (wpAny_pure (wpAny_bind (wpAny_bind (wpAny_loadPart hx (wpAny_bind ((looks_clsIn X hc).here ?_))))))
  rw [hdict]
  refine wpAny_pure (a := some d) (wpAny_bind (wpAny_pure (wpAny_bind ?_)))
  unfold nsSet
  refine wpAny_bind (wpAny_bind (wpAny_askSetting (wpAny_pure (wpAny_bind (wpAny_mkText (wpAny_bind (wpAny_loadPart hd ?_)))))))
  dsimp only
  rw [if_neg (by decide)]
  refine wpAny_updatePart hd ?_
  obtain ⟨hsh, ehsh⟩ : ∃ hsh : Int, (if sizeN.cps.isEmpty = true then 0 else reduceHash ((model prog w).w.params.strHash sizeN.cps)) = hsh := ⟨_, rfl⟩
  have e := put_size hsh v (t + 1) ep
  have hget : (h.update d (Obj.putName sizeN (if sizeN.cps.isEmpty = true then 0 else reduceHash ((model prog w).w.params.strHash sizeN.cps)) (.str sizeN (t + 1)) v)).get? d = some (dObj [⟨hsh, .str sizeN (t + 1), v⟩] (ep + 1)) := by
    rw [ehsh, Heap.get?_update_self _ hd (by rw [e]; rfl), e]
  refine wpAny_bind (wpAny_lookBehind hget ?_ ?_)
  · exact pastItsLine_dict (by rw [List.size_toArray, sizeLine_eq]; simp)
  · exact wpAny_pure (hq _ _ _ _ _ hget (Heap.SameBut.update ..))
end
section
variable {W : Wd} {K : Frag} {Γ : Ev} {n : Nat} {σ : St}
/-- self._initial_size = e, the dict bare so far -/
theorem X_setsize (O : WdOk W) (Z : EvOk Γ n) (Y : AccCls W K) {cd : ClassData} (hc : clsIn K W.C = some cd) (hmro : cd.mro = [.ref W.C, .type "list", .type "object"]) (hdict : cd.hasDict = true)
    (hs : findIn K (.ref W.C) "__setattr__" = some (some (.builtin "object.__setattr__"))) (hn : findIn K (.ref W.C) sizeN = some none) {o e : Expr} {p₁ pos : Pos} {K' : AFlow → St → Prop}
    (h : EV W Γ e σ fun a σ₁ => ∃ i, a = .int i ∧ EV W Γ o σ₁ fun ov σ₂ => ∃ k dk xs, ov = .obj k ∧ σ₂.os[k]? = some (.acc xs dk) ∧ σ₂.os[dk]? = some .edict ∧ K' .next { σ₂ with os := σ₂.os.set dk (.idict i) })
    (hsw : swapsWith e (some (.Attribute o sizeN p₁)) pos.line Γ.env = pure false) : EX1 W Γ (.Assign [.Attribute o sizeN p₁] e pos) σ K' := by
  intro s ρ H
  refine plainObj_wpAny_Assign_Attribute (wpAny_mono (h s ρ H) (fun v s₁ h₁ => ?_) fun _ _ x => x) hsw
  obtain ⟨ρ₁, av, σ₁, H₁, T₁, R₁, i, rfl, k₁⟩ := h₁
  refine wpAny_mono (k₁ s₁ ρ₁ H₁) (fun ov s₂ h₂ => ?_) fun _ _ x => x
  obtain ⟨ρ₂, oa, σ₂, H₂, T₂, R₂, k, dk, xs, rfl, hk, hd, k₂⟩ := h₂
  cases R₁
  rename_i ti
  cases R₂ with | obj k x hx =>
  obtain ⟨x', hx', vs, m, d, ox, hd', hR⟩ := H₂.1.objs k _ hk
  rw [hx] at hx'; cases hx'
  obtain ⟨d', hd2, ep, od⟩ := H₂.1.objs dk _ hd
  rw [hd'] at hd2; cases hd2
  obtain ⟨hh, g, dr, t, osS⟩ := s₂
  refine set_size (Y.X H₂.1) ox od hc hmro hdict hs hn fun h' ep' hsh tk tk' e1 e2 => ?_
  have hsol : ∀ b o, Solid o → hh.get? b = some o → h'.get? b = some o := fun b o so e => (e2.2 b fun q => H₂.1.notSolid O (List.mem_of_getElem? hd') (q ▸ e) so).trans e
  obtain ⟨x1, y1⟩ := H₂.1.upd O (s' := ⟨h', g, dr, tk', osS⟩) (o' := .idict i) hd' (by simp [hd]) (fun b o hb e => (e2.2 b hb).trans e) (by rw [e1]; simp) ⟨hsh, tk, ti, ep', e1⟩ H₂.1.gens rfl
  obtain ⟨x2, y2⟩ := H₂.step x1 y1
  exact ⟨ρ₂, .next, _, x2, (T₁.trans (T₂.trans y2)).P H.2.2, .next, k₂⟩
end
end Mine
end

section
open PySem PySem.W PyProof.Rows PySem.Calls
set_option Elab.async false
set_option maxRecDepth 100000
set_option linter.unusedVariables false
set_option maxHeartbeats 4000000
namespace Mine
section
variable {W : Wd} {Γ : Ev} {n : Nat} {σ : St}
/-- list + list -/
theorem B_lcat (O : WdOk W) {os : List AO} {K : AV → List AO → Prop} {k l : Nat} {xs ys : List AV} (hk : os[k]? = some (.lst xs)) (hl : os[l]? = some (.lst ys)) (hs : xs.length + ys.length ≤ 16777216) (h : K (.obj os.length) (os ++ [.lst (xs ++ ys)])) : BinOk W n .Add (.obj k) (.obj l) os K := by
  intro A s ρ v u R H r1 r2
  cases r1 with | obj _ a ha =>
  cases r2 with | obj _ b hb =>
  obtain ⟨a', ha', vs, m, e1, R1⟩ := H.objs k _ hk
  rw [ha] at ha'; cases ha'
  obtain ⟨b', hb', ws, m', e2, R2⟩ := H.objs l _ hl
  rw [hb] at hb'; cases hb'
  refine PySem.P.add_list e1 e2 ?_ (by rw [sizeLine_num]; simp [R1.length, R2.length]; omega)
  have hz : s.heap.get? s.heap.objs.size = none := none_at
  obtain ⟨x, y⟩ := H.new O (a := s.heap.objs.size) (o' := .lst (xs ++ ys)) (s' := { s with heap := s.heap.push { cls := .type "list", data := .seq (vs.toArray ++ ws.toArray) } }) hz (push_old _)
    ⟨vs ++ ws, 0, by show (s.heap.push _).get? _ = _; rw [show vs.toArray ++ ws.toArray = (vs ++ ws).toArray by simp]; exact Heap.get?_push_size _ rfl, (R1.append R2).mono (fun a o _ => push_old _ a o) (fun k b e => by rw [List.getElem?_append_left (List.getElem?_eq_some_iff.mp e).1]; exact e)⟩ H.gens rfl
  exact ⟨_, _, _, x, y, .obj _ _ (by rw [← H.len]; simp), h⟩

/-- for over a text of plain signs -/
theorem X_for_str (O : WdOk W) (Z : EvOk Γ n) {tgt iter : Expr} {body : List Stmt} {pos : Pos} {K : AFlow → St → Prop}
    (h : EV W Γ iter σ fun a σ₁ => ∃ l : List Nat, a = .str l ∧ (∀ c ∈ l, c < 128) ∧ ForG W Γ (fun _ => True) tgt body K (l.map fun c => .str [c]) σ₁)
    (hs : ∀ x, foldedSetIterable iter Γ.env x = pure x) (hlo : ∀ it v, letOwnedTupleGo tgt (.ref it) v = pure ()) : EX1 W Γ (.For tgt iter body [] pos) σ K := by
  intro s ρ H
  refine wpAny_For (wpAny_mono (h s ρ H) (fun a s₁ h₁ => ?_) fun _ _ x => x) hs
  obtain ⟨ρ₁, av, σ₁, H₁, T₁, R₁, l, rfl, hl, hF⟩ := h₁
  cases R₁
  rename_i t
  have hty : strIterType (S l) = "str_ascii_iterator" := by
    unfold strIterType
    rw [if_pos]
    simpa using hl
  refine wpAny_pyIter_strU ?_
  rw [hty]
  generalize hI : s₁.heap.objs.size = I
  have hI0 : s₁.heap.get? I = none := hI ▸ none_at
  have hgI : (s₁.heap.push { cls := .type "str_ascii_iterator", data := .fields #[.str (S l) t, .int 0 0] }).get? I = some { cls := .type "str_ascii_iterator", data := .fields #[.str (S l) t, .int 0 0] } := hI ▸ Heap.get?_push_size _ rfl
  obtain ⟨H₂, T₂⟩ := H₁.grow O (s' := { s₁ with heap := s₁.heap.push { cls := .type "str_ascii_iterator", data := .fields #[.str (S l) t, .int 0 0] } }) (push_old _) H₁.1.gens rfl
  have hnr : I ∉ ρ₁ := fun q => by obtain ⟨o, e⟩ := H₁.1.there O q; exact ne_none e hI0
  have hnu : I ∉ Γ.U := fun q => by obtain ⟨o, e⟩ := H₁.2.1.there I q; exact ne_none e hI0
  refine codeAny_mono (for_gen O (K := K) (J := fun i ρ h => h.IsStrIter I "str_ascii_iterator" (S l) t i) (items := l.map fun c => .str [c]) hI0 (fun b o e => H₁.1.keep b o e) ?_ ?_ ?_ (hlo I) H₂ ⟨_, hgI, rfl, rfl⟩ trivial (T₂.P H₁.2.2) hnr hnu hF) (fun r s' hr => ?_)
  · rintro i σ' ρ' s' H' J _
    cases hx : l[i]? with
    | some c =>
      have e : (l.map fun c => AV.str [c])[i]? = some (.str [c]) := by simp [hx]
      rw [e]
      refine wpAny_pyNext_ascii_item J (c := c) (by simpa using hx) (fun h' e1 e2 => ?_)
      exact ⟨⟨fun b o hb e => (e2.2 b hb).trans e, H'.1.gens, rfl⟩, _, rfl, .str [c] _, e1⟩
    | none =>
      have e : (l.map fun c => AV.str [c])[i]? = none := by simp at hx ⊢; exact hx
      rw [e]
      exact wpAny_pyNext_ascii_end Z.room.1 J (by simpa using hx) (fun h' e => ⟨⟨fun b o hb e' => e b o hb e', H'.1.gens, rfl⟩, rfl⟩)
  · rintro i ρ' ρ'' h h' ⟨o, J, r⟩ hk' hp
    exact ⟨o, hk' _ J, r⟩
  · rintro i ρ' h ⟨o, J, hc, r⟩
    refine ⟨_, J, ?_⟩
    rintro (⟨c, _⟩ | ⟨c, _⟩) <;> exact absurd (hc.symm.trans c) (by simp)
  · cases r with
    | ok f => exact RF.tr (T₁.P H.2.2) hr
    | error e => exact hr.elim

/-! ## values as plain data -/
mutual
inductive PDIs (os : List AO) : AV → PyData → Prop
  | none : PDIs os .none .none
  | bool (b) : PDIs os (.bool b) (.bool b)
  | int (i) : PDIs os (.int i) (.int i)
  | str (l) : PDIs os (.str l) (.str (S l))
  | tup {l ds} : PDAll os l ds → PDIs os (.tup l) (.tuple ds)
  | lst {k xs ds} : os[k]? = some (.lst xs) → PDAll os xs ds → PDIs os (.obj k) (.list ds)
inductive PDAll (os : List AO) : List AV → List PyData → Prop
  | nil : PDAll os [] []
  | cons {a l d ds} : PDIs os a d → PDAll os l ds → PDAll os (a :: l) (d :: ds)
end

mutual
theorem PDIs.reads {os : List AO} {ρ : List Addr} {s : Shared} (H : AbsO W os ρ s) : ∀ {a : AV} {d : PyData} {v : Value}, PDIs os a d → Rel s.heap ρ a v → ∃ as, Reads s.heap v d as
  | _, _, _, .none, r => by cases r; exact ⟨_, .none⟩
  | _, _, _, .bool b, r => by cases r; exact ⟨_, .bool b⟩
  | _, _, _, .int i, r => by cases r; exact ⟨_, .int _ _⟩
  | _, _, _, .str l, r => by cases r; exact ⟨_, .str _ _⟩
  | _, _, _, .tup h, r => by
    cases r with
    | tup _ a vs m e hr =>
      obtain ⟨as, ha⟩ := PDAll.reads H h hr
      exact ⟨as, .tuple e rfl rfl ha⟩
  | _, _, _, .lst hk h, r => by
    cases r with
    | obj _ a ha =>
      obtain ⟨a', ha', vs, m, e, hr⟩ := H.objs _ _ hk
      rw [ha] at ha'; cases ha'
      obtain ⟨as, hr'⟩ := PDAll.reads H h hr
      exact ⟨_, .list e rfl rfl hr'⟩
theorem PDAll.reads {os : List AO} {ρ : List Addr} {s : Shared} (H : AbsO W os ρ s) : ∀ {l : List AV} {ds : List PyData} {vs : List Value}, PDAll os l ds → RelL s.heap ρ l vs → ∃ as, ReadsAll s.heap vs ds as
  | _, _, _, .nil, r => by cases r; exact ⟨_, .nil⟩
  | _, _, _, .cons h hs, r => by
    cases r with
    | cons r rs =>
      obtain ⟨as, ha⟩ := PDIs.reads H h r
      obtain ⟨bs, hb⟩ := PDAll.reads H hs rs
      exact ⟨_, .cons ha hb⟩
end
theorem C_nev (O : WdOk W) {os : List AO} {K : AV → List AO → Prop} {a b : AV} {da db : PyData} (hn : 5 ≤ n) (ha : PDIs os a da) (hb : PDIs os b db) (ca : da.canLay0 = true) (cb : db.canLay0 = true) (hd : da.depth ≤ 20) (h : K (.bool (!PyData.eqv da db)) os) : CmpOk W n .NotEq a b os K := by
  intro A s ρ v u R H r1 r2
  obtain ⟨as, ha⟩ := ha.reads H r1
  obtain ⟨bs, hb⟩ := hb.reads H r2
  exact PySem.SeqAt.compareNe_reads ha hb ca cb (by have := R.2.2; have := Nat.min_le_left da.depth db.depth; omega) (RO.same O H (.bool _) h)
/-- pairs of texts -/
theorem C_ne_pair (O : WdOk W) {os : List AO} {K : AV → List AO → Prop} {a b c d : List Nat} (hn : 5 ≤ n) (h1 : PyData.strOk (S a) = true) (h2 : PyData.strOk (S b) = true) (h3 : PyData.strOk (S c) = true) (h4 : PyData.strOk (S d) = true) (h : K (.bool (decide ((a, b) ≠ (c, d)))) os) :
    CmpOk W n .NotEq (.tup [.str a, .str b]) (.tup [.str c, .str d]) os K := by
  refine C_nev O hn (.tup (.cons (.str a) (.cons (.str b) .nil))) (.tup (.cons (.str c) (.cons (.str d) .nil))) (by simp [PyData.canLay0, PyData.canLayAll0, h1, h2]) (by simp [PyData.canLay0, PyData.canLayAll0, h3, h4]) (by simp [PyData.depth, PyData.depthAll]) ?_
  have e : (!PyData.eqv (.tuple [.str (S a), .str (S b)]) (.tuple [.str (S c), .str (S d)])) = decide ((a, b) ≠ (c, d)) := by
    simp only [PyData.eqv, PyData.eqvAll, S_beq, Bool.and_true]
    by_cases e1 : a = c <;> by_cases e2 : b = d <;> simp [e1, e2]
  rw [e]; exact h

end
end Mine
end

section
open PySem PySem.W PyProof.Rows PySem.Calls
set_option Elab.async false
set_option maxRecDepth 100000
set_option linter.unusedVariables false
set_option maxHeartbeats 4000000
namespace Mine
/-! ## values at whose making some token was drawn -/
def CallVT (W : Wd) (n : Nat) (f : Value) (avs : List AV) (os : List AO) (K : AV → List AO → Prop) : Prop :=
  ∀ A s ρ vs, Room n A → AbsO W os ρ s → RelL s.heap ρ avs vs → wpAny (model W.prog W.w) A (call f vs []) (fun v s' => 1 ≤ s'.toks ∧ RO W s ρ K v s') NoE s
def EVT (W : Wd) (Γ : Ev) (e : Expr) (σ : St) (K : AV → St → Prop) : Prop := ∀ s ρ, Abs W Γ σ ρ s → wpAny (model W.prog W.w) Γ.A (eval e Γ.env) (fun v s' => 1 ≤ s'.toks ∧ RV W Γ s ρ K v s') NoE s
section
variable {W : Wd} {Γ : Ev} {n : Nat} {σ : St} {K : AV → St → Prop}
theorem EVT.ev {e : Expr} (h : EVT W Γ e σ K) : EV W Γ e σ K := fun s ρ H => wpAny_mono (h s ρ H) (fun _ _ x => x.2) fun _ _ x => x
theorem CallVT.v {f : Value} {avs : List AV} {os : List AO} {K : AV → List AO → Prop} (h : CallVT W n f avs os K) : CallV W n f avs os K := fun A s ρ vs R H hr => wpAny_mono (h A s ρ vs R H hr) (fun _ _ x => x.2) fun _ _ x => x
theorem E_callT (O : WdOk W) (Z : EvOk Γ n) {x : Str} {np pos : Pos} {es : List Expr} {f : Value} (hm : x ∈ Γ.gn) (hx : GlobIs W x f) (hk : KeepOk W f)
    (h : EVs W Γ es σ fun avs σ₁ => CallVT W n f avs σ₁.os fun c os' => K c { σ₁ with os := os' }) (hp : ∀ pos, (backTo pos (starEach es Γ.env)).any (·.1) = false) : EVT W Γ (.Call (.Name x np) es [] pos) σ K := by
  intro s ρ H
  refine wpAny_Call_ofName (name_glob O Z H.1 hm hx ?_)
  refine callWith_any (hp pos) (evalArgs_of (hp pos) (wpAny_mono (h pos s ρ H) (fun vs s₁ h₁ => ?_) fun _ _ x => x))
  obtain ⟨ρ₁, avs, σ₁, H₁, T₁, R₁, k₁⟩ := h₁
  refine wpAny_mono (hk Γ.A σ₁.os ρ₁ s₁ H₁.1) (fun _ s₂ h₂ => ?_) fun _ _ x => x
  subst h₂
  exact wpAny_mono (k₁ Γ.A _ ρ₁ vs Z.room H₁.1 R₁) (fun v s₃ h₃ => ⟨h₃.1, (RV.of_RO H₁ h₃.2).tr T₁⟩) fun _ _ x => x
theorem call_defT {f : Addr} {fd : FuncData} {ps rest gn nm : List Str} {fr : List (Option AV)} {body : List Stmt} {avs : List AV} {os : List AO} {K : AV → List AO → Prop} (O : WdMore W) (X : FnAt W f fd ps body) (N : NmOk fd.scope ps rest gn)
    (hnm : ps ++ rest = nm) (hfr : avs.map some ++ rest.map (fun _ => none) = fr) (hlen : avs.length = ps.length) (hne : ps ≠ [])
    (h : ∀ L A, EvOk (fnEv fd f L nm gn A os.length) n → EX W (fnEv fd f L nm gn A os.length) body ⟨fr, [], os⟩ fun fl σ => K (retOf fl) σ.os) :
    CallVT W (n + 1) (.ref f) avs os K := by
  subst hnm; subst hfr
  intro A s ρ vs R H hr
  obtain ⟨o, ho, hd⟩ := X.at_
  refine wpAny_call (codeAny_call_function R.depth (H.keep _ _ ho) hd X.co X.gen X.body (X.code.keeps H.keep) ?_)
  rw [X.bind vs (hr.length.trans hlen)]
  have hbl : ∀ x ∈ ps.zip vs, fd.scope.names.lookup x.1 = some .local := fun x hx => N.loc _ (List.mem_append_left _ (List.of_mem_zip hx).1)
  refine wpAny_pure (wpAny_newFunctionEnv X.nocell hbl (fun h' hns hsb => ?_) X.kind)
  refine ⟨(O.nolimit.keeps H.keep).fresh _ hsb, codeAny_func ?_⟩
  generalize hL : s.heap.objs.size = L at *
  have hL0 : s.heap.get? L = none := hL ▸ none_at
  have hk : ∀ b o, s.heap.get? b = some o → h'.get? b = some o := fun b o e => (hsb.2 b fun q => ne_none e (q ▸ hL0)).trans (Heap.get?_push_of_some _ e)
  obtain ⟨H', T'⟩ := H.grow O.toWdOk (s' := { s with heap := h', toks := s.toks + (ps.zip vs).length }) hk H.gens rfl
  have hnL : L ∉ ρ := fun q => by obtain ⟨o, e⟩ := H.there O.toWdOk q; exact ne_none e hL0
  have Z : EvOk (fnEv fd f L (ps ++ rest) gn (A.deeper (fnEnv fd f L)) os.length) n :=
    ⟨X.kind, N.loc, N.nd, X.glob, X.bins, N.gl, (fun _ h => nomatch h), List.nodup_nil, R.deeper, by simpa using N.dbg⟩
  have F : FrameIs W (fnEv fd f L (ps ++ rest) gn (A.deeper (fnEnv fd f L)) os.length) (avs.map some ++ rest.map fun _ => none) [] ρ h' := by
    refine ⟨⟨_, ⟨hns, H'.keep, ?_⟩, locals_of fun i x a h1 h2 => ?_⟩, trivial, fun a ha => ?_, fun _ h => nomatch h⟩
    · exact hL ▸ O.size _ H.keep
    · have hi : i < avs.length := by
        by_cases hi : i < avs.length
        · exact hi
        · rw [List.getElem?_append_right (by simpa using Nat.le_of_not_lt hi)] at h2
          simp at h2
      rw [List.getElem?_append_left (by omega)] at h1
      rw [List.getElem?_append_left (by simpa using hi)] at h2
      have h2' : avs[i]? = some a := by simpa using h2
      obtain ⟨v, hv, r⟩ := (hr.tr T').get h2'
      exact ⟨v, lookup_zip (List.nodup_append.mp N.nd).1 i x v h1 hv, r⟩
    · have : a = L := List.mem_singleton.mp ha
      rw [this]; exact hnL
  have htk : 1 ≤ s.toks + (ps.zip vs).length := by
    have h1 : (ps.zip vs).length = ps.length := by rw [List.length_zip, hr.length, hlen]; simp
    have h2 : ps.length ≠ 0 := fun e => hne (List.length_eq_zero_iff.mp e)
    omega
  refine noE (wpAny_mono (wpAny_toks_of (n := 1) htk (h L (A.deeper (fnEnv fd f L)) Z _ ρ ⟨H', F, Nat.le_of_eq H.len.symm⟩)) (fun fl s₁ h₁ => ?_) fun _ _ x => x.2)
  obtain ⟨htk₁, ρ₁, af, σ₁, H₁, T₁, R₁, k₁⟩ := h₁
  have TF : Trans [] s s₁ ρ ρ₁ := by
    have t := T₁.full (show os.length = ρ.length from H.len.symm) H₁.1.nd
    have t' := T'.weak (U' := [L]) (fun _ h => nomatch h)
    obtain ⟨a, b, c, d⟩ := t'.trans t
    exact ⟨a, fun x o _ h2 h3 => b x o (fun q => ne_none h3 (by rw [List.mem_singleton.mp q]; exact hL0)) h2 h3, c, d⟩
  refine ⟨htk₁, ρ₁, retOf af, σ₁.os, H₁.1, TF, ?_, k₁⟩
  cases R₁ with
  | next => exact .none
  | brk => exact .none
  | cont => exact .none
  | ret a v r => exact r
theorem CallVT.cut {f : Value} {avs : List AV} {os : List AO} {K : AV → List AO → Prop} (h : CallVT W n f avs os fun a os' => a.bel os.length ∧ (∀ o ∈ os'.take os.length, o.bel os.length) ∧ K a (os'.take os.length)) : CallVT W n f avs os K := by
  intro A s ρ vs R H hr
  refine wpAny_mono (h A s ρ vs R H hr) (fun v s₁ h₁ => ?_) fun _ _ x => x
  obtain ⟨ht, ρ', av, os', H', T', R', b1, b2, k⟩ := h₁
  obtain ⟨r, rfl, hf⟩ := T'.pre
  have e : (ρ ++ r).take os.length = ρ := by rw [← H.len]; simp
  have c := H'.cut os.length b2
  rw [e] at c
  have r' := R'.cut b1
  rw [e] at r'
  exact ⟨ht, ρ, av, _, c, ⟨⟨[], by simp, fun _ h => nomatch h⟩, T'.kept, T'.solid, T'.live⟩, r', k⟩
/-- text.replace(y, z) with y and z written out -/
theorem E_replace (O : WdOk W) (Z : EvOk Γ n) {o : Expr} {y z : Str} {cy cz : Nat} {py pz apos pos : Pos} {ly lz : List Nat} (hy : y = S ly) (hz : z = S lz) (hyz : (y == z) = false) (hlz : lz.length ≤ 100)
    (h : EVT W Γ o σ fun a σ₁ => ∃ l l', a = .str l ∧ l.length ≤ 1000 ∧ Txt.replace (S l) (S ly) (S lz) = S l' ∧ K (.str l') σ₁) (hbase : attributeBase o (Str.ofString "replace") Γ.env (eval o Γ.env) = eval o Γ.env) (hline : (apos.endLine == pos.line) = true)
    (hst : starEach [.Constant (.str y) cy py, .Constant (.str z) cz pz] Γ.env = [(false, eval (.Constant (.str y) cy py) Γ.env), (false, eval (.Constant (.str z) cz pz) Γ.env)]) :
    EVT W Γ (.Call (.Attribute o (Str.ofString "replace") apos) [.Constant (.str y) cy py, .Constant (.str z) cz pz] [] pos) σ K := by
  intro s ρ H
  refine wpAny_Call_method hbase (by rw [hst]; rfl) hline F.plainAttrs_str F.slot_str_replace F.type_str_replace (wpAny_mono (h s ρ H) (fun v s₁ h₁ => ?_) fun _ _ x => x)
  obtain ⟨htk, ρ₁, av, σ₁, H₁, T₁, R₁, l, l', rfl, hl, hr, k₁⟩ := h₁
  cases R₁
  refine ⟨typeIs_str _ _ _, (fun a e => nomatch e), ?_⟩
  have hp : ∀ pos, (backTo pos (starEach [.Constant (.str y) cy py, .Constant (.str z) cz pz] Γ.env)).any (·.1) = false := fun pos => by rw [hst]; rfl
  have hst2 : starEach [.Constant (.str z) cz pz] Γ.env = [(false, eval (.Constant (.str z) cz pz) Γ.env)] := rfl
  subst hy; subst hz
  refine callWith_any (hp pos) (evalArgs_of (hp pos) (spliced_more (wpAny_Constant_str (spliced_more (wpAny_Constant_str (spliced_none (wpAny_pure ?_))) hst2)) (by rw [hst, hst2])))
  refine wpAny_mono (wpAny_toks_of (n := 1) (by show 1 ≤ s₁.toks + 1 + 1; omega) (SC.replace (Q := RV W Γ s ρ K) (E := NoE) (by show s₁.toks ≠ 0; omega) (by show s₁.toks + 1 ≠ 0; omega) (by show s₁.toks ≠ s₁.toks + 1; omega) hyz ?_ fun t' k => ?_)) (fun _ _ x => x) (fun _ _ x => x.2)
  · rw [S_len, S_len]
    have : (l.length + 1) * lz.length ≤ 1001 * 100 := Nat.mul_le_mul (by omega) hlz
    omega
  · rw [hr]
    obtain ⟨x, y⟩ := H₁.grow O (s' := { s₁ with toks := k }) (fun _ _ e => e) H₁.1.gens rfl
    exact ⟨ρ₁, _, σ₁, x, T₁.trans y, .str _ _, k₁⟩
end
end Mine
end

section
open PySem PySem.W PyProof.Rows PySem.Calls Builtin
set_option Elab.async false
set_option maxRecDepth 100000
set_option linter.unusedVariables false
set_option maxHeartbeats 4000000
namespace Mine
theorem dec_find (b : List UInt8) (p : Nat) (hp : p < b.length) (hb : ∀ x ∈ b, x.toNat < 128) : _codecs.asciiDecoder.find true b.toArray p = .text [b[p].toNat] (p + 1) := by
  have e : (b.toArray.getD p 0) = b[p] := by simp [Array.getD, hp]
  show (if (b.toArray.getD p 0).toNat < 128 then _ else _) = _
  rw [e, if_pos (hb _ (List.getElem_mem hp))]
  rfl
theorem dec_ascii (b : List UInt8) (hb : ∀ x ∈ b, x.toNat < 128) (id : String) (hl : b.length ≤ 1000) : _codecs.runDecoder id _codecs.asciiDecoder none true b.toArray 0 [] = pure ((b.map UInt8.toNat).toArray, b.length) := by
  unfold _codecs.runDecoder
  simp only [Std.Legacy.Range.forIn_eq_forIn_range', Std.Legacy.Range.size]
  have hs : b.toArray.size - 0 + 1 - 1 = b.length := by simp
  rw [hs, Nat.div_one]
  have key : ∀ (xs : List Nat) (p : Nat) (out : Array Nat) (st : _codecs.Faults), xs.length + p = b.length → out.size = p →
      (forIn xs (p, out, st) (fun x (__s : Nat × Array Nat × _codecs.Faults) =>
            if __s.snd.fst.size > sizeLine then do
              unsupported "str:memory"
              if __s.fst ≥ b.toArray.size then pure (ForInStep.done (__s.fst, __s.snd.fst, __s.snd.snd))
                else
                  match _codecs.asciiDecoder.find true b.toArray __s.fst with
                  | _codecs.Found.text cs nxt => pure (ForInStep.yield (nxt, __s.snd.fst ++ cs.toArray, __s.snd.snd))
                  | _codecs.Found.refuse tag => do
                    unsupported (toString id ++ toString ":" ++ toString tag)
                    pure (ForInStep.yield (__s.fst, __s.snd.fst, __s.snd.snd))
                  | _codecs.Found.bad stop reason mayGrow =>
                    if (mayGrow && !true) = true then do
                      rule (toString id ++ toString ".held-back")
                      pure (ForInStep.done (__s.fst, __s.snd.fst, __s.snd.snd))
                    else do
                      rule (toString id ++ toString ".fault")
                      let __x ←
                        _codecs.decodeFault id __s.snd.snd none _codecs.asciiDecoder.own _codecs.asciiDecoder.name
                            b.toArray __s.fst stop reason
                      pure (ForInStep.yield (__x.2.snd, __s.snd.fst ++ __x.2.fst, __x.fst))
            else
              if __s.fst ≥ b.toArray.size then pure (ForInStep.done (__s.fst, __s.snd.fst, __s.snd.snd))
              else
                match _codecs.asciiDecoder.find true b.toArray __s.fst with
                | _codecs.Found.text cs nxt => pure (ForInStep.yield (nxt, __s.snd.fst ++ cs.toArray, __s.snd.snd))
                | _codecs.Found.refuse tag => do
                  unsupported (toString id ++ toString ":" ++ toString tag)
                  pure (ForInStep.yield (__s.fst, __s.snd.fst, __s.snd.snd))
                | _codecs.Found.bad stop reason mayGrow =>
                  if (mayGrow && !true) = true then do
                    rule (toString id ++ toString ".held-back")
                    pure (ForInStep.done (__s.fst, __s.snd.fst, __s.snd.snd))
                  else do
                    rule (toString id ++ toString ".fault")
                    let __x ←
                      _codecs.decodeFault id __s.snd.snd none _codecs.asciiDecoder.own _codecs.asciiDecoder.name
                          b.toArray __s.fst stop reason
                    pure (ForInStep.yield (__x.2.snd, __s.snd.fst ++ __x.2.fst, __x.fst))) : Sem (Nat × Array Nat × _codecs.Faults)) = pure (b.length, out ++ ((b.drop p).map UInt8.toNat).toArray, st) := by
    intro xs
    induction xs with
    | nil =>
      intro p out st h1 h2
      have : b.drop p = [] := List.drop_eq_nil_of_le (by simp at h1; omega)
      rw [List.forIn_nil, this]
      simp at h1
      subst h1
      simp
    | cons x xs ih =>
      intro p out st h1 h2
      have hp : p < b.length := by simp at h1; omega
      rw [List.forIn_cons]
      simp only
      rw [if_neg (by rw [h2, sizeLine_num]; omega), if_neg (by simp; omega), dec_find b p hp hb]
      simp only [pure_bind]
      rw [ih (p + 1) _ st (by simp at h1; omega) (by simp [h2])]
      have e : out ++ [b[p].toNat].toArray ++ ((b.drop (p + 1)).map UInt8.toNat).toArray = out ++ ((b.drop p).map UInt8.toNat).toArray := by
        rw [List.drop_eq_getElem_cons hp, List.map_cons]
        apply Array.ext'
        simp only [Array.toList_append, List.append_assoc]
        rfl
      rw [e]
  refine (congrArg (fun t : Sem (Nat × Array Nat × _codecs.Faults) => t >>= fun s => pure (s.2.1, s.1)) (key (List.range' 0 b.length) 0 #[] { held := [] } (by simp) rfl)).trans ?_
  simp
theorem dec_entry (c : UInt8) (cs : List UInt8) (t u : Tok) : «bytes.decode» ⟨[.bytes (c :: cs).toArray t, .str (PySem.Str.ofString "ascii") u], []⟩ = (mkStr (PySem.Str.ofString "utf-8") >>= fun _ => mkStr (PySem.Str.ofString "ascii") >>= fun e => mkStr (PySem.Str.ofString "bytes.decode") >>= fun d =>
    call (.builtin "_codecs.decode.text") [.bytes (c :: cs).toArray t, e, .none, d] >>= fun v => ret v) := by kernel_rfl
theorem dec_road (b : Array UInt8) {id : String} : _codecs.decodeRoad id b (PySem.Str.ofString "ascii") none [] = (_codecs.runDecoder id _codecs.asciiDecoder none true b 0 [] >>= fun r => mkStr ⟨r.1⟩) := by kernel_rfl
theorem dec_nil (t u : Tok) : «bytes.decode» ⟨[.bytes #[] t, .str (PySem.Str.ofString "ascii") u], []⟩ = (rule "bytes.decode.empty" >>= fun _ => retStr Str.empty) := by kernel_rfl

section
variable {W : Wd} {Γ : Ev} {n : Nat} {σ : St} {K : AV → St → Prop}
theorem dec_call {M : Program} {w : World} {A : Around} {E : Value → Shared → Prop} {s : Shared} {b : List UInt8} {t u : Tok} {Q : Value → Shared → Prop} (hb : ∀ x ∈ b, x.toNat < 128) (hl : b.length ≤ 1000)
    (hq : ∀ t' k, Q (.str (S (b.map UInt8.toNat)) t') { s with toks := k }) : wpAny (model M w) A (call (.builtin "bytes.decode") [.bytes b.toArray t, .str (Str.ofString "ascii") u]) Q E s := by
  refine wpAny_call_entry FB.slot_bytes_decode (typeIs_bytes _ _ _) FB.entry_bytes_decode ?_ (by unfold argsOk; kernel_rfl)
  cases b with
  | nil =>
    rw [show ([] : List UInt8).toArray = #[] from rfl, dec_nil]
    refine wpAny_bind (wpAny_rule ?_)
    exact wpAny_bind (wpAny_mkStr (wpAny_pure ⟨_, rfl, hq _ _⟩) (by decide))
  | cons c cs =>
    rw [dec_entry]
    refine wpAny_bind (wpAny_mkStr ?_ (by decide))
    refine wpAny_bind (wpAny_mkStr ?_ (by decide))
    refine wpAny_bind (wpAny_mkStr ?_ (by decide))
    refine wpAny_bind (call_function_entry KBd.kind_text KBd.plain_text KBd.entry_text (KBd.args_text _ _ _ _) ?_)
    show wpAny _ _ (Bytes.bytesLike _ (.bytes (c :: cs).toArray t) >>= fun r => _) _ _ _
    refine wpAny_bind (wpAny_of_eq KBd.like_eq ?_)
    refine wpAny_bind (wpAny_of_eq KBd.held_eq ?_)
    show wpAny _ _ (_codecs.decodeRoad _ (c :: cs).toArray (PySem.Str.ofString "ascii") none [] >>= fun v => _) _ _ _
    rw [dec_road, dec_ascii _ hb _ hl]
    refine wpAny_bind (wpAny_bind (wpAny_pure ?_))
    refine wpAny_mkStr (wpAny_pure ⟨_, rfl, wpAny_pure ⟨_, rfl, ?_⟩⟩) ?_
    · exact hq _ _
    · show (S ((c :: cs).map UInt8.toNat)).length ≤ sizeLine
      rw [S_len, sizeLine_num, List.length_map]; omega
/-- b.decode('ascii') -/
theorem E_decode (O : WdOk W) (Z : EvOk Γ n) {o : Expr} {ca : Nat} {pa apos pos : Pos}
    (h : EV W Γ o σ fun a σ₁ => ∃ b : List UInt8, a = .bytes b ∧ (∀ x ∈ b, x.toNat < 128) ∧ b.length ≤ 1000 ∧ K (.str (b.map UInt8.toNat)) σ₁) (hbase : attributeBase o (Str.ofString "decode") Γ.env (eval o Γ.env) = eval o Γ.env) (hline : (apos.endLine == pos.line) = true)
    (hst : starEach [.Constant (.str (Str.ofString "ascii")) ca pa] Γ.env = [(false, eval (.Constant (.str (Str.ofString "ascii")) ca pa) Γ.env)]) :
    EV W Γ (.Call (.Attribute o (Str.ofString "decode") apos) [.Constant (.str (Str.ofString "ascii")) ca pa] [] pos) σ K := by
  intro s ρ H
  refine wpAny_Call_method hbase (by rw [hst]; rfl) hline FB.plainAttrs_bytes FB.slot_bytes_decode FB.type_bytes_decode (wpAny_mono (h s ρ H) (fun v s₁ h₁ => ?_) fun _ _ x => x)
  obtain ⟨ρ₁, av, σ₁, H₁, T₁, R₁, b, rfl, hb, hl, k₁⟩ := h₁
  cases R₁
  refine ⟨typeIs_bytes _ _ _, (fun a e => nomatch e), ?_⟩
  have hp : ∀ pos, (backTo pos (starEach [.Constant (.str (Str.ofString "ascii")) ca pa] Γ.env)).any (·.1) = false := fun pos => by rw [hst]; rfl
  refine callWith_any (hp pos) (evalArgs_of (hp pos) (spliced_more (wpAny_Constant_str (spliced_none (wpAny_pure ?_))) hst))
  refine dec_call hb hl fun t' k => ?_
  obtain ⟨x, y⟩ := H₁.grow O (s' := { s₁ with toks := k }) (fun _ _ e => e) H₁.1.gens rfl
  exact ⟨ρ₁, _, σ₁, x, T₁.trans y, .str _ _, k₁⟩
/-- ''.join(e) for a list of texts -/
theorem E_joinlst (O : WdOk W) (Z : EvOk Γ n) {e : Expr} {cs : Nat} {ps apos pos : Pos}
    (h : EV W Γ e σ fun a σ₁ => ∃ k, ∃ ls : List (List Nat), a = .obj k ∧ σ₁.os[k]? = some (.lst (ls.map AV.str)) ∧ ls.length ≤ 1000 ∧ (∀ l ∈ ls, l.length ≤ 1000) ∧ K (.str ls.flatten) σ₁) (hline : (apos.endLine == pos.line) = true)
    (hst : starEach [e] Γ.env = [(false, eval e Γ.env)]) :
    EV W Γ (.Call (.Attribute (.Constant (.str (Str.ofString "")) cs ps) (Str.ofString "join") apos) [e] [] pos) σ K := by
  intro s ρ H
  obtain ⟨H₀, T₀⟩ := H.grow O (s' := { s with toks := s.toks + 1 }) (fun _ _ e => e) H.1.gens rfl
  refine wpAny_Call_method rfl (by rw [hst]; rfl) hline F.plainAttrs_str F.slot_str_join F.type_str_join (wpAny_Constant_str ⟨typeIs_str _ _ _, (fun a e => nomatch e), ?_⟩)
  have hp : ∀ pos, (backTo pos (starEach [e] Γ.env)).any (·.1) = false := fun pos => by rw [hst]; rfl
  refine callWith_any (hp pos) (evalArgs_of (hp pos) (spliced_more (wpAny_mono (h _ ρ H₀) (fun v s₁ h₁ => ?_) fun _ _ x => x) hst))
  obtain ⟨ρ₁, av, σ₁, H₁, T₁, R₁, k, ls, rfl, hk, hl, hls, k₁⟩ := h₁
  cases R₁ with | obj _ a ha =>
  obtain ⟨a', ha', vs, m, e1, hR⟩ := H₁.1.objs _ _ hk
  rw [ha] at ha'; cases ha'
  refine spliced_none (wpAny_pure ?_)
  refine join_list (items := vs.toArray) ⟨_, e1, rfl, m, rfl⟩ (by simpa using strsAre_of hR) ?_ fun t' kx => ?_
  · have := sum_le (fun l : Str => l.length) 1000 (ls.map S) (fun a ha => by
      obtain ⟨l, hl', rfl⟩ := List.mem_map.mp ha
      rw [S_len]; exact hls _ hl')
    simp only [List.length_map] at this ⊢
    show _ + _ * 0 ≤ _
    omega
  · rw [lit_e, join_nil]
    obtain ⟨x, y⟩ := H₁.grow O (s' := { s₁ with toks := kx }) (fun _ _ e => e) H₁.1.gens rfl
    exact ⟨ρ₁, _, σ₁, x, T₀.trans (T₁.trans y), .str _ _, k₁⟩
end
end Mine
end

section
open PySem PySem.W PyProof.Rows PySem.Calls Builtin
set_option Elab.async false
set_option maxRecDepth 100000
set_option linter.unusedVariables false
set_option maxHeartbeats 4000000
namespace Mine
section
variable {W : Wd} {Γ : Ev} {n : Nat} {σ : St} {K : AV → St → Prop}
theorem ints_at {h : Heap} {ρ : List Addr} : ∀ {is : List Int} {vs : List Value}, RelL h ρ (is.map AV.int) vs → ∀ (j : Nat) (i : Int), is[j]? = some i → ∃ t, vs[j]? = some (.int i t)
  | [], _, h, j, i, e => by simp at e
  | a :: is, _, h, 0, i, e => by cases h with | cons r rs => cases r; simp at e; subst e; exact ⟨_, rfl⟩
  | a :: is, _, h, j + 1, i, e => by cases h with | cons r rs => simpa using ints_at rs j i (by simpa using e)
/-- [elt for x in e]: from a list of numbers to a list of texts -/
theorem E_lcomp (O : WdOk W) (Z : EvOk Γ n) {elt iter : Expr} {x : Str} {px pos : Pos} {scope : Scope} (g : Int → List Nat)
    (hfree : ∀ y ∈ scope.names, y.2 ≠ .free) (hcell : ∀ y ∈ scope.names, y.2 ≠ .cell) (hkind : scope.kind = .function)
    (hnames : ∀ y ∈ scope.names, y.2 = .local → scope.names.lookup y.1 = some .local) (hx : scope.names.lookup x = some .local)
    (h : EV W Γ iter σ fun a σ₁ => ∃ k, ∃ is : List Int, a = .obj k ∧ σ₁.os[k]? = some (.lst (is.map AV.int)) ∧ is.length ≤ 100000 ∧
      (∀ i ∈ is, ∀ C t (s₃ : Shared) m₃ E', s₃.heap.Ns C m₃ → m₃ x = some (.int i t) → (∀ b o, W.base.get? b = some o → s₃.heap.get? b = some o) → wpAny (model W.prog W.w) Γ.A (eval elt (compEnv scope C Γ.env)) (fun y s₄ => (∃ u, y = .str (S (g i)) u) ∧ Keeps s₃ s₄) E' s₃) ∧
      K (.obj σ₁.os.length) { σ₁ with os := σ₁.os ++ [.lst (is.map fun i => .str (g i))] })
    (hs : ∀ x, foldedSetIterable iter Γ.env x = pure x) :
    EV W Γ (.ListComp elt [⟨.Name x px, iter, [], 0⟩] scope pos) σ K := by
  intro s ρ H
  refine wpAny_ListComp_walk (fun _ => true) (fun v y => ∃ i t u, v = .int i t ∧ y = .str (S (g i)) u) hfree hcell hkind hnames hx (wpAny_mono (h s ρ H) (fun v s₁ h₁ => ?_) fun _ _ x => x) hs
  obtain ⟨ρ₁, av, σ₁, H₁, T₁, R₁, k, is, rfl, hk, hl, helt, k₁⟩ := h₁
  cases R₁ with | obj _ a ha =>
  obtain ⟨a', ha', vs, m, e1, hR⟩ := H₁.1.objs _ _ hk
  rw [ha] at ha'; cases ha'
  refine wpAny_pyIter_list (items := vs.toArray) ⟨_, e1, rfl, m, rfl⟩ ?_
  generalize hI : s₁.heap.objs.size = I
  have hI0 : s₁.heap.get? I = none := hI ▸ none_at
  have hgI : (s₁.heap.push { cls := .type "list_iterator", data := .fields #[.ref a, .int 0 0] }).get? I = some { cls := .type "list_iterator", data := .fields #[.ref a, .int 0 0] } := hI ▸ Heap.get?_push_size _ rfl
  have haI : a ≠ I := fun q => ne_none e1 (q ▸ hI0)
  have hlen : vs.length = is.length := by rw [hR.length]; simp
  refine ⟨I, [I, a], [I], _, _, _, rfl, Walks.list Z.room.1 I a haI vs.toArray, by rw [sizeLine_num]; simp [hlen]; omega, ⟨⟨_, hgI, rfl, rfl⟩, ⟨_, push_old _ _ _ e1, rfl, m, rfl⟩⟩, ?_, ?_, ?_⟩
  · intro b hb
    show b < (s₁.heap.push _).objs.size
    rw [Heap.size_push, hI]
    rcases List.mem_cons.mp hb with rfl | hb
    · exact Nat.lt_succ_self _
    · rw [List.mem_singleton.mp hb]
      exact Nat.lt_succ_of_lt (hI ▸ Heap.lt_size e1)
  · refine ⟨fun C i v s₃ m₃ E' hP hn hm hkp _ => ?_, fun C i v s₃ m₃ E' hP _ hn hm hkp _ => ?_⟩
    · rw [List.forIn_nil]
      exact wpAny_pure ⟨rfl, s₃.heap, s₃.toks, rfl, fun _ _ e => e⟩
    · have hi : i < is.length := by
        have h1 : i < vs.toArray.size := (Array.getElem?_eq_some_iff.mp hP).1
        simpa [hlen] using h1
      obtain ⟨t, ht⟩ := ints_at hR i is[i] (by simp [hi])
      have hv : v = .int is[i] t := by
        have h2 : vs[i]? = some v := by simpa using hP
        rw [ht] at h2; cases h2; rfl
      subst hv
      refine wpAny_mono (helt is[i] (List.getElem_mem hi) C t s₃ m₃ E' hn hm fun b o e => ?_) (fun y s₄ hy => ?_) fun _ _ x => x
      · have h3 := H₁.1.keep b o e
        exact hkp b o (fun q => ne_none h3 (by rw [List.mem_singleton.mp q]; exact hI0)) (push_old _ b o h3)
      · obtain ⟨⟨u, e⟩, hk4⟩ := hy
        exact ⟨⟨_, _, u, rfl, e⟩, hk4⟩
  · intro D h' tk ys ws hD hDl ⟨m', hDp⟩ hwl hwP hpair hkp
    have hD0 : s₁.heap.get? D = none := by
      cases q : s₁.heap.get? D with
      | none => rfl
      | some o => exact (ne_none (push_old _ _ _ q) hD).elim
    have hws : ws = vs := by
      apply List.ext_getElem?
      intro j
      cases q : ws[j]? with
      | some v => have := hwP j v q; simpa using this.symm
      | none =>
        have : ws.length ≤ j := List.getElem?_eq_none_iff.mp q
        have h2 : vs.length ≤ j := by simp at hwl; omega
        rw [List.getElem?_eq_none h2]
    rw [hws] at hpair
    have hfil : vs.filter (fun _ => true) = vs := by simp
    rw [hfil] at hpair
    have hys : ∀ (ρ' : List Addr) (h'' : Heap), RelL h'' ρ' (is.map fun i => .str (g i)) ys.toList := by
      intro ρ' h''
      have key : ∀ (is : List Int) (vs : List Value) (ys : List Value), RelL s₁.heap ρ₁ (is.map AV.int) vs → Paired (fun v y => ∃ i t u, v = Value.int i t ∧ y = Value.str (S (g i)) u) vs ys → RelL h'' ρ' (is.map fun i => .str (g i)) ys := by
        intro is
        induction is with
        | nil => intro vs ys hr hp; cases hr; cases hp; exact .nil
        | cons i is ih =>
          intro vs ys hr hp
          cases hr with
          | cons r rs =>
            cases r
            cases hp with
            | cons h1 h2 =>
              obtain ⟨i', t, u, e, rfl⟩ := h1
              cases e
              exact .cons (.str _ _) (ih _ _ rs h2)
      exact key is vs ys.toList hR hpair
    have hk2 : ∀ b o, s₁.heap.get? b = some o → h'.get? b = some o := fun b o e => hkp b o (fun q => ne_none e (by rw [List.mem_singleton.mp q]; exact hI0)) (push_old _ b o e)
    obtain ⟨x1, y1⟩ := H₁.1.new O (a := D) (o' := .lst (is.map fun i => .str (g i))) (s' := { s₁ with heap := h', toks := tk }) hD0 hk2 ⟨ys.toList, m', by simpa using hDp, hys _ _⟩ H₁.1.gens rfl
    obtain ⟨x2, y2⟩ := H₁.step x1 y1
    exact ⟨_, _, _, x2, T₁.trans y2, .obj _ _ (by rw [← H₁.1.len]; simp), k₁⟩
end
end Mine
end

section
open PySem PySem.W PyProof.Rows PySem.Spec PySem.Builtin PySem.Builtin.Str
set_option Elab.async false
set_option linter.unusedVariables false
set_option maxHeartbeats 4000000
namespace Mine
def rep1 (c : Nat) (z l : List Nat) : List Nat := l.flatMap fun k => if k = c then z else [k]
theorem rep1_free (c : Nat) (z : List Nat) : ∀ l : List Nat, c ∉ l → rep1 c z l = l
  | [], _ => rfl
  | k :: r, h => by
    have h1 : ¬ k = c := fun e => h (e ▸ List.mem_cons_self ..)
    have ih := rep1_free c z r fun m => h (List.mem_cons_of_mem _ m)
    show (if k = c then z else [k]) ++ rep1 c z r = k :: r
    rw [if_neg h1, ih]; rfl
theorem rep1_append (c : Nat) (z a b : List Nat) : rep1 c z (a ++ b) = rep1 c z a ++ rep1 c z b := List.flatMap_append
theorem rep1_join (c : Nat) (z : Str) : ∀ parts : List Str, (∀ p ∈ parts, c ∉ p.cps.toList) → rep1 c z.cps.toList (Str.join ⟨#[c]⟩ parts).cps.toList = (Str.join z parts).cps.toList
  | [], _ => rfl
  | [p], h => rep1_free c _ _ (h p (List.mem_singleton.mpr rfl))
  | p :: q :: r, h => by
    have ih := rep1_join c z (q :: r) fun a ha => h a (List.mem_cons_of_mem _ ha)
    show rep1 c z.cps.toList (p ++ ⟨#[c]⟩ ++ Str.join ⟨#[c]⟩ (q :: r)).cps.toList = (p ++ z ++ Str.join z (q :: r)).cps.toList
    simp only [Str.cps_append, Array.toList_append]
    rw [rep1_append, rep1_append, ih, rep1_free c _ _ (h p (List.mem_cons_self ..))]
    have : rep1 c z.cps.toList (#[c] : Array Nat).toList = z.cps.toList := by simp [rep1]
    rw [this]
theorem replace_S (c : Nat) (z l : List Nat) : Txt.replace (S l) (S [c]) (S z) = S (rep1 c z l) := by
  apply Str.ext'; apply Array.ext'
  show (Txt.replace (S l) ⟨#[c]⟩ (S z)).cps.toList = (S (rep1 c z l)).cps.toList
  rw [StrLaws.replace_one, ← rep1_join c (S z) _ (StrLaws.split_free (S l) c), StrLaws.join_split]
end Mine
end

section
open PySem PySem.W PyProof.Rows PySem.Calls
set_option Elab.async false
set_option maxRecDepth 100000
set_option linter.unusedVariables false
set_option maxHeartbeats 4000000
namespace Mine
/-- a def with values for what is not handed -/
structure FnAtB (W : Wd) (f : Addr) (fd : FuncData) (ps : List Str) (body : List Stmt) : Prop where
  at_ : ∃ o, W.base.get? f = some o ∧ o.data = .func fd
  body : fd.body = .stmts body
  code : W.base.CodeRec fd.code fd.qualname
  glob : fd.globals = mainGlobals
  bins : fd.builtins = builtinsNs
  co : fd.scope.isCoroutine = false
  gen : fd.scope.isGenerator = false
  kind : fd.scope.kind = .function
  nocell : ∀ x ∈ fd.scope.names, x.2 ≠ .cell
  bind : ∀ s : Shared, (∀ b o, W.base.get? b = some o → s.heap.get? b = some o) → ∀ vs : List Value, vs.length = ps.length → BindsTo s fd ⟨vs, []⟩ (ps.zip vs)
theorem FnAtB.keep {W : Wd} {f : Addr} {fd : FuncData} {ps : List Str} {body : List Stmt} (X : FnAtB W f fd ps body) : KeepOk W (.ref f) := by
  obtain ⟨o, h1, h2⟩ := X.at_
  exact keep_fn h1 h2
theorem call_defAtB {W : Wd} {n : Nat} {f : Addr} {fd : FuncData} {ps rest gn nm : List Str} {fr : List (Option AV)} {body : List Stmt} {avs : List AV} {os : List AO} {K : AV → List AO → Prop} (O : WdMore W) (X : FnAtB W f fd ps body) (N : NmOk fd.scope ps rest gn)
    (hnm : ps ++ rest = nm) (hfr : avs.map some ++ rest.map (fun _ => none) = fr) (hlen : avs.length = ps.length)
    (h : ∀ L A, EvOk (fnEv fd f L nm gn A os.length) n → SXat W (fnEv fd f L nm gn A os.length) (.func body (fnEnv fd f L)) (execs body (fnEnv fd f L)) ⟨fr, [], os⟩ fun fl σ => K (retOf fl) σ.os) :
    CallV W (n + 1) (.ref f) avs os K := by
  subst hnm; subst hfr
  intro A s ρ vs R H hr
  obtain ⟨o, ho, hd⟩ := X.at_
  refine wpAny_call (codeAny_call_function R.depth (H.keep _ _ ho) hd X.co X.gen X.body (X.code.keeps H.keep) ?_)
  refine X.bind s H.keep vs (hr.length.trans hlen) _ _ _ _ ?_
  have hbl : ∀ x ∈ ps.zip vs, fd.scope.names.lookup x.1 = some .local := fun x hx => N.loc _ (List.mem_append_left _ (List.of_mem_zip hx).1)
  refine wpAny_newFunctionEnv X.nocell hbl (fun h' hns hsb => ?_) X.kind
  refine ⟨(O.nolimit.keeps H.keep).fresh _ hsb, ks_codeAny_funcAt ?_⟩
  generalize hL : s.heap.objs.size = L at *
  have hL0 : s.heap.get? L = none := hL ▸ none_at
  have hk : ∀ b o, s.heap.get? b = some o → h'.get? b = some o := fun b o e => (hsb.2 b fun q => ne_none e (q ▸ hL0)).trans (Heap.get?_push_of_some _ e)
  obtain ⟨H', T'⟩ := H.grow O.toWdOk (s' := { s with heap := h', toks := s.toks + (ps.zip vs).length }) hk H.gens rfl
  have hnL : L ∉ ρ := fun q => by obtain ⟨o, e⟩ := H.there O.toWdOk q; exact ne_none e hL0
  have Z : EvOk (fnEv fd f L (ps ++ rest) gn (A.deeper (fnEnv fd f L)) os.length) n :=
    ⟨X.kind, N.loc, N.nd, X.glob, X.bins, N.gl, (fun _ h => nomatch h), List.nodup_nil, R.deeper, by simpa using N.dbg⟩
  have F : FrameIs W (fnEv fd f L (ps ++ rest) gn (A.deeper (fnEnv fd f L)) os.length) (avs.map some ++ rest.map fun _ => none) [] ρ h' := by
    refine ⟨⟨_, ⟨hns, H'.keep, ?_⟩, locals_of fun i x a h1 h2 => ?_⟩, trivial, fun a ha => ?_, fun _ h => nomatch h⟩
    · exact hL ▸ O.size _ H.keep
    · have hi : i < avs.length := by
        by_cases hi : i < avs.length
        · exact hi
        · rw [List.getElem?_append_right (by simpa using Nat.le_of_not_lt hi)] at h2
          simp at h2
      rw [List.getElem?_append_left (by omega)] at h1
      rw [List.getElem?_append_left (by simpa using hi)] at h2
      have h2' : avs[i]? = some a := by simpa using h2
      obtain ⟨v, hv, r⟩ := (hr.tr T').get h2'
      exact ⟨v, lookup_zip (List.nodup_append.mp N.nd).1 i x v h1 hv, r⟩
    · have : a = L := List.mem_singleton.mp ha
      rw [this]; exact hnL
  refine ks_wpAt_mono (h L (A.deeper (fnEnv fd f L)) Z _ ρ ⟨H', F, Nat.le_of_eq H.len.symm⟩) (fun fl s₁ h₁ => ?_) fun _ _ x => x.elim
  obtain ⟨ρ₁, af, σ₁, H₁, T₁, R₁, k₁⟩ := h₁
  have TF : Trans [] s s₁ ρ ρ₁ := by
    have t := T₁.full (show os.length = ρ.length from H.len.symm) H₁.1.nd
    have t' := T'.weak (U' := [L]) (fun _ h => nomatch h)
    obtain ⟨a, b, c, d⟩ := t'.trans t
    exact ⟨a, fun x o _ h2 h3 => b x o (fun q => ne_none h3 (by rw [List.mem_singleton.mp q]; exact hL0)) h2 h3, c, d⟩
  refine ⟨ρ₁, retOf af, σ₁.os, H₁.1, TF, ?_, k₁⟩
  cases R₁ with
  | next => exact .none
  | brk => exact .none
  | cont => exact .none
  | ret a v r => exact r

end Mine
end

section
open PySem PySem.W PyProof.Rows
set_option linter.unusedVariables false
namespace Mine
/-! ## what _levenshtein_distance reckons, as plain functions -/
def subCost (x y : Nat) : Int := if x = y then 0 else if lowerL [x] = lowerL [y] then 1 else 2
/-- the length of the common front -/
def cpl : List Nat → List Nat → Nat
  | x :: a, y :: b => if x = y then cpl a b + 1 else 0
  | _, _ => 0
def big : Int := 9223372036854775807
def inner (bc : Nat) : List Nat → List Int → Int → Int → Int → List Int × Int × Int
  | x :: a, w :: row, d, r, mn =>
    let r' := min (min r w + 2) (d + subCost bc x)
    let q := inner bc a row w r' (if r' < mn then r' else mn)
    (r' :: q.1, q.2.1, q.2.2)
  | _, _, _, r, mn => ([], r, mn)
def outer (a : List Nat) (m : Int) : List Nat → Int → List Int → Int → Int
  | [], _, _, res => res
  | bc :: b, d, row, res =>
    let q := inner bc a row d d big
    if m < q.2.2 then m + 1 else outer a m b (d + 2) q.1 q.2.1
def levCore (a b : List Nat) (m : Int) : Int :=
  if m < ((b.length : Int) - a.length) * 2 then m + 1
  else outer a m b 0 ((List.range a.length).map fun (i : Nat) => (2 : Int) + (i : Int) * 2) 0
def levMid (a b : List Nat) (m : Int) : Int :=
  if a = [] ∨ b = [] then 2 * ((a.length : Int) + b.length)
  else if 40 < a.length ∨ 40 < b.length then m + 1
  else if b.length < a.length then levCore b a m else levCore a b m
def cutPost (a b : List Nat) : List Nat := a.take (a.length - cpl a.reverse b.reverse)
def cutPre (a b : List Nat) : List Nat := a.drop (cpl a b)
def levP (a b : List Nat) (m : Int) : Int :=
  if a = b then 0
  else levMid (cutPost (cutPre a b) (cutPre b a)) (cutPost (cutPre b a) (cutPre a b)) m
theorem cpl_comm : ∀ a b : List Nat, cpl a b = cpl b a
  | [], [] => rfl
  | [], _ :: _ => rfl
  | _ :: _, [] => rfl
  | x :: a, y :: b => by
    unfold cpl
    by_cases h : x = y
    · simp [h, cpl_comm a b]
    · simp [h, Ne.symm h]
theorem inner_len (bc : Nat) : ∀ (a : List Nat) (row : List Int) (d r mn : Int), a.length = row.length → (inner bc a row d r mn).1.length = row.length
  | [], [], _, _, _, _ => rfl
  | x :: a, w :: row, d, r, mn, h => by
    show (inner bc a row w _ _).1.length + 1 = row.length + 1
    rw [inner_len bc a row w _ _ (by simpa using h)]
end Mine
end

section
open PySem PySem.W PyProof.Rows
set_option maxRecDepth 100000
set_option linter.unusedVariables false
namespace Mine
section
local macro_rules | `(tactic| walk_at "at") => `(tactic| first | with_reducible exact At.here | with_reducible exact At.d1 | with_reducible exact At.d2 | with_reducible exact At.d3 | with_reducible exact At.d4 | (with_reducible apply At.skip; walk_at "at"))
local macro_rules | `(tactic| walk_at "put") => `(tactic| first | with_reducible exact Put.here | with_reducible exact Put.d1 | with_reducible exact Put.d2 | with_reducible exact Put.d3 | with_reducible exact Put.d4 | (with_reducible apply Put.skip; walk_at "put"))
local macro_rules | `(tactic| walk_at "inl") => `(tactic| first | with_reducible exact InL.here | with_reducible exact InL.d1 | with_reducible exact InL.d2 | with_reducible exact InL.d3 | with_reducible exact InL.d4 | (with_reducible apply InL.skip; walk_at "inl"))
local macro_rules | `(tactic| walk_at "mem") => `(tactic| (refine InL.mem ?_; walk_at "inl"))
local macro_rules | `(tactic| walk_at "len") => `(tactic| first | assumption | (simp only [List.length_drop, List.length_take, List.length_append, List.length_cons, List.length_nil]; omega) | omega)
local macro_rules | `(tactic| walk_at "ev") => `(tactic| (focus with_reducible first
  | refine seqK_next ?_
  | refine seqK_ret ?_
  | refine seqK_brk ?_
  | refine seqK_cont ?_
  | refine X_cons ?_
  | refine X_nil ?_
  | refine E_local (by assumption) (by walk_at "at") ?_
  | refine E_int (by assumption) ?_
  | refine E_str (by first | exact lit_e | exact lit_a | exact lit_A | exact lit_b | exact lit_B | exact lit_sp | exact lit_spb | exact lit_spB | exact lit_aAbB | exact lit_AaBb | exact lit_ascii | exact lit_ex | exact lit_BCD | exact lit_P | exact lit_nine) (by assumption) ?_
  | refine E_bytes (by assumption) ?_
  | refine E_none ?_
  | refine E_bool ?_
  | (refine E_gint (by assumption) (by assumption) ?_ (by assumption) ?_; (· (walk_at "mem")))
  | refine E_bin (by assumption) ?_
  | (refine E_len (by assumption) (by assumption) (by assumption) ?_ ?_ ?_; (· (walk_at "mem")); rotate_left; (· (with_unfolding_all (intro _; rfl))))
  | (refine E_ord (by assumption) (by assumption) (by assumption) ?_ ?_ ?_; (· (walk_at "mem")); rotate_left; (· (with_unfolding_all (intro _; rfl))))
  | (refine E_abs (by assumption) (by assumption) (by assumption) ?_ ?_ ?_; (· (walk_at "mem")); rotate_left; (· (with_unfolding_all (intro _; rfl))))
  | (refine E_intof (by assumption) (by assumption) (by assumption) ?_ ?_ ?_; (· (walk_at "mem")); rotate_left; (· (with_unfolding_all (intro _; rfl))))
  | (refine E_divmod (by assumption) (by assumption) (by assumption) ?_ ?_ ?_ ?_; (· (walk_at "mem")); rotate_left; (· (with_unfolding_all rfl)); (· (with_unfolding_all rfl)))
  | (refine E_min2 (by assumption) (by assumption) (by assumption) ?_ ?_ ?_ ?_; (· (walk_at "mem")); rotate_left; (· (with_unfolding_all rfl)); (· (with_unfolding_all rfl)))
  | (refine E_max2 (by assumption) (by assumption) (by assumption) ?_ ?_ ?_ ?_; (· (walk_at "mem")); rotate_left; (· (with_unfolding_all rfl)); (· (with_unfolding_all rfl)))
  | (refine E_post (by assumption) (by assumption) (by walk_at "at") (by walk_at "at") ?_ ?_; (· (walk_at "len")))
  | (refine E_slice (by assumption) (by assumption) ?_ ?_; rotate_left; (· (with_unfolding_all (intro _ _; exact ⟨_, rfl⟩))))
  | (refine E_sub (by assumption) ?_ ?_; rotate_left; (· (with_unfolding_all (intro _ _; exact ⟨_, rfl⟩))))
  | refine P_none ?_
  | refine P_some ?_
  | refine part_int ?_
  | refine part_none ?_
  | refine E_or2 (by assumption) ?_
  | refine E_ifexp ?_
  | refine E_list (by assumption) ?_
  | (refine E_tuple (by assumption) ?_ ?_; (· (decide)))
  | (refine B_mod (by assumption) ?_ ?_; (· (decide)))
  | (refine B_fdiv (by assumption) ?_ ?_ ?_; (· (decide)); (· (decide)))
  | (refine I_fdiv (by assumption) ?_ ?_ ?_; (· (decide)); (· (decide)))
  | (refine B_pow (by assumption) ?_ ?_ ?_ ?_; (· (decide)); (· (decide)); (· (decide)))
  | refine C_sne (by assumption) (bool_ex ?_)
  | (refine ltb_and ?_ ?_; (· (first | (simp; done) | (simp; omega))))
  | refine neg_ex ?_
  | refine E_neg (by assumption) ?_
  | refine T_and ?_
  | refine T_or ?_
  | refine T_not ?_
  | (refine T_cmp (by assumption) ?_ ?_; rotate_left; (· (with_unfolding_all rfl)))
  | (refine T_value (by assumption) ?_ ?_; rotate_left; (· (with_unfolding_all rfl)))
  | (refine X_assign (by assumption) (by assumption) ?_ ?_; rotate_left; (· (with_unfolding_all rfl)))
  | (refine X_assign2 (by assumption) (by assumption) ?_ ?_ ?_; rotate_left; (· (with_unfolding_all rfl)); (· (with_unfolding_all rfl)))
  | refine X_aug (by assumption) (by assumption) (by walk_at "at") ?_
  | (refine X_setitem (by assumption) (by assumption) ?_ ?_; rotate_left; (· (with_unfolding_all rfl)))
  | refine X_if ?_
  | (refine X_assignT ?_ ?_ ?_; rotate_left; (· (with_unfolding_all rfl)); (· (with_unfolding_all rfl)))
  | (refine X_swap2 (by assumption) (by assumption) ?_ ?_ ?_ ?_ ?_ ?_ ?_ ?_ ?_ ?_; rotate_left; (· (with_unfolding_all rfl)); (· (with_unfolding_all rfl)); (· (with_unfolding_all rfl)); (· (with_unfolding_all decide)); (· (walk_at "mem")); (· (walk_at "mem")); (· (with_unfolding_all rfl)); (· (with_unfolding_all rfl)); (· (with_unfolding_all rfl)))
  | (refine A_tup (by assumption) (by assumption) ?_ ?_ ?_; (· (repeat (first | exact AllNames.nil | refine AllNames.cons ?_))); (· (with_unfolding_all rfl)))
  | refine AsgL_cons ?_
  | refine AsgL_nil ?_
  | refine X_ret ?_
  | (refine Es_cons ?_ ?_; rotate_left; (· (with_unfolding_all rfl)))
  | refine Es_nil ?_
  | refine ⟨_, by walk_at "put", ?_⟩
  | refine ⟨_, _, by walk_at "put", by walk_at "put", ?_⟩
  | refine C_seq (by assumption) (bool_ex ?_)
  | refine C_gt (by assumption) (bool_ex ?_)
  | refine C_lt (by assumption) (bool_ex ?_)
  | refine C_eq (by assumption) (bool_ex ?_)
  | refine C_ne (by assumption) (bool_ex ?_)
  | refine B_add (by assumption) ?_
  | refine B_sub (by assumption) ?_
  | (refine B_mul (by assumption) ?_ ?_; (· (first | exact Or.inl (by decide) | exact Or.inr (by decide) | omega)))
  | (refine V_divmod (by assumption) ?_ ?_ ?_; (· (decide)); (· (decide)))
  | (refine V_len_str (by assumption) ?_ ?_; (· (walk_at "len")))
  | refine V_min2 (by assumption) ?_
  | refine V_max2 (by assumption) ?_
  | refine V_abs (by assumption) ?_
  | refine V_intof (by assumption) ?_
  | refine V_ord (by assumption) ?_
  | refine I_add (by assumption) ?_
  | refine I_sub (by assumption) ?_
  | refine Tr_int ?_
  | (refine Tr_str (by assumption) ?_ ?_; (· (walk_at "len")))
  | (refine Slc_sall (by assumption) ?_ ?_; (· (walk_at "len")))
  | (refine Slc_sfrom (by assumption) ?_ ?_; (· (walk_at "len")))
  | refine TAnd_cons ?_
  | refine TAnd_nil ?_
  | refine TOr_cons ?_
  | refine TOr_nil ?_
  | refine bsel_true ?_
  | refine bsel_false ?_
  | refine A_local (by assumption) (by assumption) (by walk_at "put") ?_
  | (refine E_lower (by assumption) ?_ ?_ ?_; rotate_left; (· (with_unfolding_all rfl)); (· (with_unfolding_all rfl)))
  ))
local macro_rules | `(tactic| walk_at "evs") => `(tactic| repeat walk_at "ev")

section
open PySem PySem.W PyProof.Rows
set_option Elab.async false
set_option maxRecDepth 100000
set_option linter.unusedVariables false

def fnBody : Stmt → List Stmt
  | .FunctionDef _ _ b _ _ _ _ _ _ _ => b
  | _ => []
def stAt (i : Nat) : Stmt := PySem.Challenge.pw_xl0010_03.main.body.getD i (.Pass default)
abbrev costNm : List Str := [Str.ofString "ch_a", Str.ofString "ch_b"]
abbrev costGn : List Str := [Str.ofString "_CASE_COST", Str.ofString "_MOVE_COST"]
theorem cost_walk {W : Wd} {n : Nat} {env : Env} {A : Around} {os : List AO} {K : AFlow → St → Prop} {x y : Nat} (O : WdOk W) (Z : EvOk ⟨env, costNm, [], costGn, A, os.length⟩ n)
    {t1 t2 : Tok} (g1 : GlobIs W (Str.ofString "_CASE_COST") (.int 1 t1)) (g2 : GlobIs W (Str.ofString "_MOVE_COST") (.int 2 t2)) (hx : (lowerL [x]).length ≤ 16777216) (hy : (lowerL [y]).length ≤ 16777216)
    (h : K (.ret (.int (subCost x y))) ⟨[some (.str [x]), some (.str [y])], [], os⟩) : EX W ⟨env, costNm, [], costGn, A, os.length⟩ (fnBody (stAt 10)) ⟨[some (.str [x]), some (.str [y])], [], os⟩ K := by
  conv => arg 3; whnf
  walk_at "evs"
  refine bsel_dec (fun e => ?_) (fun e => ?_)
  · walk_at "evs"
    rw [List.cons.injEq] at e
    rw [subCost, if_pos e.1] at h
    exact h
  · walk_at "evs"
    refine ⟨_, rfl, hx, ?_⟩
    walk_at "evs"
    refine ⟨_, rfl, hy, ?_⟩
    walk_at "evs"
    have e' : x ≠ y := fun q => e (by rw [q])
    rw [subCost, if_neg e'] at h
    refine bsel_dec (fun e => ?_) (fun e => ?_)
    · rw [if_pos e] at h
      walk_at "evs"
      exact h
    · rw [if_neg e] at h
      walk_at "evs"
      exact h

end

section
open PySem PySem.W PyProof.Rows
set_option Elab.async false
set_option maxRecDepth 100000
set_option linter.unusedVariables false
set_option maxHeartbeats 8000000

abbrev levNm : List Str := [Str.ofString "a", Str.ofString "b", Str.ofString "max_cost", Str.ofString "pre", Str.ofString "post", Str.ofString "row", Str.ofString "result", Str.ofString "bindex", Str.ofString "bchar", Str.ofString "distance", Str.ofString "minimum", Str.ofString "index", Str.ofString "substitute", Str.ofString "insert_delete"]
abbrev levGn : List Str := [Str.ofString "_MOVE_COST", Str.ofString "_MAX_STRING_SIZE", Str.ofString "_substitution_cost", Str.ofString "len", Str.ofString "min", Str.ofString "range", Str.ofString "list"]
theorem cpl_nil : ∀ x : List Nat, cpl x [] = 0
  | [] => rfl
  | _ :: _ => rfl
theorem drop_more {a : List Nat} {j : Nat} (h : a.drop j ≠ []) : ∃ x, a[j]? = some x ∧ a.drop j = x :: a.drop (j + 1) := by
  have hj : j < a.length := by
    by_cases hj : j < a.length
    · exact hj
    · exact absurd (List.drop_eq_nil_of_le (by omega)) h
  exact ⟨a[j], by simp [hj], List.drop_eq_getElem_cons hj⟩
theorem take_more {l : List Nat} {j : Nat} (h : l.take (l.length - j) ≠ []) : ∃ x, l[l.length - j - 1]? = some x ∧ j < l.length ∧ l.reverse.drop j = x :: l.reverse.drop (j + 1) := by
  have hj : j < l.length := by
    by_cases hj : j < l.length
    · exact hj
    · exact absurd (by rw [show l.length - j = 0 by omega]; rfl) h
  have h' : l.reverse.drop j ≠ [] := by simp; omega
  obtain ⟨x, h1, h2⟩ := drop_more h'
  refine ⟨x, ?_, hj, h2⟩
  rw [List.getElem?_reverse hj] at h1
  rw [← h1]; congr 1; omega
theorem take_none {l : List Nat} {j : Nat} (h : l.take (l.length - j) = []) : l.reverse.drop j = [] := by
  have hj : ¬ j < l.length := fun hj => by
    have := congrArg List.length h
    simp at this; omega
  exact List.drop_eq_nil_of_le (by simp; omega)
theorem lev1 {W : Wd} {n : Nat} {env : Env} {A : Around} {os : List AO} {K : AFlow → St → Prop} {a b : List Nat} {m : Int} (O : WdOk W) (Z : EvOk ⟨env, levNm, [], levGn, A, os.length⟩ n)
    (ha : a.length ≤ 1000) (hb : b.length ≤ 1000)
    (h0 : a = b → K (.ret (.int 0)) ⟨[some (.str a), some (.str b), some (.int m), none, none, none, none, none, none, none, none, none, none, none], [], os⟩)
    (h : a ≠ b → ∀ o1 o2, EX W ⟨env, levNm, [], levGn, A, os.length⟩ ((fnBody (stAt 11)).drop 9) ⟨[some (.str (cutPost (cutPre a b) (cutPre b a))), some (.str (cutPost (cutPre b a) (cutPre a b))), some (.int m), o1, o2, none, none, none, none, none, none, none, none, none], [], os⟩ K) :
   EX W ⟨env, levNm, [], levGn, A, os.length⟩ (fnBody (stAt 11)) ⟨[some (.str a), some (.str b), some (.int m), none, none, none, none, none, none, none, none, none, none, none], [], os⟩ K := by
  conv => arg 3; whnf
  walk_at "evs"
  refine bsel_dec (fun e => ?_) (fun e => ?_)
  · walk_at "evs"
    exact h0 e
  walk_at "evs"
  refine X_while ?_
  refine W_inv' (fun k σ => ∃ j : Nat, cpl (a.drop j) (b.drop j) = k ∧ j + k = cpl a b ∧ σ = ⟨[some (.str a), some (.str b), some (.int m), some (.int j), none, none, none, none, none, none, none, none, none, none], [], os⟩)
    (fun σ => σ = ⟨[some (.str a), some (.str b), some (.int m), some (.int (cpl a b : Nat)), none, none, none, none, none, none, none, none, none, none], [], os⟩) _ ⟨0, rfl, by simp, rfl⟩ ?_ ?_
  · rintro k σ ⟨j, h1, h2, rfl⟩
    walk_at "evs"
    refine bsel_dec (fun e1 => ?_) (fun e1 => ?_)
    · walk_at "evs"
      refine bsel_dec (fun e2 => ?_) (fun e2 => ?_)
      · walk_at "evs"
        obtain ⟨x, hx, ex⟩ := drop_more e1
        obtain ⟨y, hy, ey⟩ := drop_more e2
        refine It_str O (.inl rfl) hx (by omega) ?_
        walk_at "evs"
        refine It_str O (.inl rfl) hy (by omega) ?_
        walk_at "evs"
        rw [ex, ey] at h1
        refine bsel_dec (fun e3 => ?_) (fun e3 => ?_)
        · walk_at "evs"
          have e3' : x = y := by simpa using e3
          have h1' : cpl (a.drop (j+1)) (b.drop (j+1)) + 1 = k := by rw [cpl, if_pos e3'] at h1; exact h1
          exact whileK_next ⟨_, by omega, j + 1, rfl, by omega, rfl⟩
        · have e3' : x ≠ y := by simpa using e3
          have h1' : k = 0 := by rw [cpl, if_neg e3'] at h1; exact h1.symm
          have hj : j = cpl a b := by omega
          subst hj
          exact rfl
      · walk_at "evs"
        have e2' : b.drop j = [] := Decidable.not_not.mp e2
        rw [e2', cpl_nil] at h1
        have hj : j = cpl a b := by omega
        subst hj
        exact rfl
    · walk_at "evs"
      have e2' : a.drop j = [] := Decidable.not_not.mp e1
      rw [e2', cpl_comm, cpl_nil] at h1
      have hj : j = cpl a b := by omega
      subst hj
      exact rfl
  rintro _ rfl
  walk_at "evs"
  refine X_while ?_
  have hA : (a.drop (cpl a b)).length ≤ 1000 := by simp; omega
  have hB : (b.drop (cpl a b)).length ≤ 1000 := by simp; omega
  have eA : cutPre a b = a.drop (cpl a b) := rfl
  have eB : cutPre b a = b.drop (cpl a b) := by rw [cutPre, cpl_comm]
  rw [eA, eB] at h
  generalize a.drop (cpl a b) = x at *
  generalize b.drop (cpl a b) = y at *
  refine W_inv' (fun k σ => ∃ j : Nat, cpl (x.reverse.drop j) (y.reverse.drop j) = k ∧ j + k = cpl x.reverse y.reverse ∧ σ = ⟨[some (.str x), some (.str y), some (.int m), some (.int (cpl a b)), some (.int (-(j : Int))), none, none, none, none, none, none, none, none, none], [], os⟩)
    (fun σ => σ = ⟨[some (.str x), some (.str y), some (.int m), some (.int (cpl a b)), some (.int (-((cpl x.reverse y.reverse : Nat) : Int))), none, none, none, none, none, none, none, none, none], [], os⟩) _ ⟨0, rfl, by simp, rfl⟩ ?_ ?_
  · rintro k σ ⟨j, h1, h2, rfl⟩
    walk_at "evs"
    refine bsel_dec (fun e1 => ?_) (fun e1 => ?_)
    · walk_at "evs"
      refine bsel_dec (fun e2 => ?_) (fun e2 => ?_)
      · walk_at "evs"
        obtain ⟨u, hu, ju, eu⟩ := take_more e1
        obtain ⟨v, hv, jv, ev⟩ := take_more e2
        refine It_str O (.inr ?_) hu (by omega) ?_
        · omega
        walk_at "evs"
        refine It_str O (.inr ?_) hv (by omega) ?_
        · omega
        walk_at "evs"
        rw [eu, ev] at h1
        refine bsel_dec (fun e3 => ?_) (fun e3 => ?_)
        · walk_at "evs"
          have e3' : u = v := by simpa using e3
          have h1' : cpl (x.reverse.drop (j+1)) (y.reverse.drop (j+1)) + 1 = k := by rw [cpl, if_pos e3'] at h1; exact h1
          refine whileK_next ⟨_, by omega, j + 1, rfl, by omega, ?_⟩
          rw [show -((j + 1 : Nat) : Int) = -(j : Int) - 1 by omega]
        · have e3' : u ≠ v := by simpa using e3
          have h1' : k = 0 := by rw [cpl, if_neg e3'] at h1; exact h1.symm
          have hj : j = cpl x.reverse y.reverse := by omega
          subst hj
          exact rfl
      · walk_at "evs"
        rw [take_none (Decidable.not_not.mp e2), cpl_nil] at h1
        have hj : j = cpl x.reverse y.reverse := by omega
        subst hj
        exact rfl
    · walk_at "evs"
      rw [take_none (Decidable.not_not.mp e1), cpl_comm, cpl_nil] at h1
      have hj : j = cpl x.reverse y.reverse := by omega
      subst hj
      exact rfl
  rintro _ rfl
  have h' := h e (some (.int (cpl a b))) (some (.int (-((cpl x.reverse y.reverse : Nat) : Int))))
  rw [cutPost, cutPost, cpl_comm y.reverse x.reverse] at h'
  conv at h' => arg 3; whnf
  repeat (first | with_reducible exact h' | walk_at "ev")

end

section
open PySem PySem.W PyProof.Rows
set_option Elab.async false
set_option maxRecDepth 100000
set_option linter.unusedVariables false
set_option maxHeartbeats 8000000

theorem lev2 {W : Wd} {n : Nat} {env : Env} {A : Around} {os : List AO} {K : AFlow → St → Prop} {a b : List Nat} {m : Int} {o1 o2 : Option AV} (O : WdOk W) (Z : EvOk ⟨env, levNm, [], levGn, A, os.length⟩ n)
    {t1 t2 : Tok} (g1 : GlobIs W (Str.ofString "_MAX_STRING_SIZE") (.int 40 t1)) (g2 : GlobIs W (Str.ofString "_MOVE_COST") (.int 2 t2))
    (hlen : W.mg (Str.ofString "len") = none) (ha : a.length ≤ 1000) (hb : b.length ≤ 1000)
    (h : ∀ fr, K (.ret (.int (levMid a b m))) ⟨fr, [], os⟩)
    {P : Nat → Prop} (pa : ∀ x ∈ a, P x) (pb : ∀ x ∈ b, P x) (h3 : ∀ a' b', (∀ x ∈ a', P x) → (∀ x ∈ b', P x) → a'.length ≤ b'.length → b'.length ≤ 40 → a' ≠ [] → levMid a b m = levCore a' b' m → EX W ⟨env, levNm, [], levGn, A, os.length⟩ ((fnBody (stAt 11)).drop 12) ⟨[some (.str a'), some (.str b'), some (.int m), o1, o2, none, none, none, none, none, none, none, none, none], [], os⟩ K) :
   EX W ⟨env, levNm, [], levGn, A, os.length⟩ ((fnBody (stAt 11)).drop 9) ⟨[some (.str a), some (.str b), some (.int m), o1, o2, none, none, none, none, none, none, none, none, none], [], os⟩ K := by
  conv => arg 3; whnf
  have fin1 : a = [] ∨ b = [] → ∀ fr, K (.ret (.int (2 * ((a.length : Int) + b.length)))) ⟨fr, [], os⟩ := fun e => by
    rw [levMid, if_pos e] at h; exact h
  have fin2 : a ≠ [] → b ≠ [] → 40 < a.length ∨ 40 < b.length → ∀ fr, K (.ret (.int (m + 1))) ⟨fr, [], os⟩ := fun e1 e2 e3 => by
    rw [levMid, if_neg (fun q => q.elim e1 e2), if_pos e3] at h; exact h
  walk_at "evs"
  refine bsel_case (fun e => ?_) (fun e => ?_)
  · walk_at "evs"
    exact fin1 (.inl (by simpa using e)) _
  have e1 : a ≠ [] := by simpa using e
  walk_at "evs"
  refine bsel_case (fun e => ?_) (fun e => ?_)
  · walk_at "evs"
    exact fin1 (.inr (by simpa using e)) _
  have e2 : b ≠ [] := by simpa using e
  walk_at "evs"
  refine bsel_dec (fun e => ?_) (fun e => ?_)
  · walk_at "evs"
    exact fin2 e1 e2 (.inl (by omega)) _
  walk_at "evs"
  refine bsel_dec (fun e => ?_) (fun e => ?_)
  · walk_at "evs"
    exact fin2 e1 e2 (.inr (by omega)) _
  walk_at "evs"
  have h4 : ∀ a' b' : List Nat, (∀ x ∈ a', P x) → (∀ x ∈ b', P x) → a'.length ≤ b'.length → b'.length ≤ 40 → a' ≠ [] → levMid a b m = levCore a' b' m → _ := h3
  conv at h4 => intro a' b' _ _ _ _ _ _; arg 3; whnf
  have lm : levMid a b m = if b.length < a.length then levCore b a m else levCore a b m := by
    rw [levMid, if_neg (fun q => q.elim e1 e2), if_neg (by omega)]
  refine bsel_dec (fun e => ?_) (fun e => ?_)
  · rw [if_pos (by omega)] at lm
    have h5 := h4 b a pb pa (by omega) (by omega) e2 lm
    repeat (first
      | with_reducible exact h5
      | walk_at "ev"
      | (refine X_swap O Z (E_tuple O (by decide) ?_) (by rfl) (by decide) (by walk_at "mem") (by walk_at "mem") (by rfl) (by rfl) (by rfl))
      | (refine ⟨by simp, _, _, rfl, _, _, by walk_at "put", by walk_at "put", ?_⟩))
  · rw [if_neg (by omega)] at lm
    have h5 := h4 a b pa pb (by omega) (by omega) e1 lm
    repeat (first | with_reducible exact h5 | walk_at "ev")
theorem inner_nil (bc : Nat) (l : List Int) (d r mn : Int) : inner bc [] l d r mn = ([], r, mn) := by cases l <;> rfl
theorem lev3 {W : Wd} {n : Nat} {env : Env} {A : Around} {os : List AO} {K : AFlow → St → Prop} {a b : List Nat} {m : Int} {o1 o2 : Option AV} (O : WdOk W) (Z : EvOk ⟨env, levNm, [], levGn, A, os.length⟩ n)
    {t1 t2 : Tok} (g2 : GlobIs W (Str.ofString "_MOVE_COST") (.int 2 t2)) {fc : Value} (g3 : GlobIs W (Str.ofString "_substitution_cost") fc) (kc : KeepOk W fc)
    {P : Nat → Prop} (pa : ∀ x ∈ a, P x) (pb : ∀ x ∈ b, P x) (hc : ∀ x y os K, P x → P y → K (.int (subCost x y)) os → CallV W n fc [.str [x], .str [y]] os K)
    (hlen : W.mg (Str.ofString "len") = none) (hmin : W.mg (Str.ofString "min") = none) (hrange : W.mg (Str.ofString "range") = none) (hlist : W.mg (Str.ofString "list") = none) (hab : a.length ≤ b.length) (hb : b.length ≤ 40) (ha : a ≠ [])
    (h : ∀ fr os', K (.ret (.int (levCore a b m))) ⟨fr, [], os ++ os'⟩) :
   EX W ⟨env, levNm, [], levGn, A, os.length⟩ ((fnBody (stAt 11)).drop 12) ⟨[some (.str a), some (.str b), some (.int m), o1, o2, none, none, none, none, none, none, none, none, none], [], os⟩ K := by
  conv => arg 3; whnf
  have h0 : ∀ fr, K (.ret (.int (levCore a b m))) ⟨fr, [], os⟩ := fun fr => by simpa using h fr []
  rw [levCore] at h h0
  walk_at "evs"
  refine bsel_dec (fun e => ?_) (fun e => ?_)
  · rw [if_pos e] at h0
    walk_at "evs"
    exact h0 _
  rw [if_neg e] at h
  walk_at "evs"
  refine E_listrange O Z (by walk_at "mem") hrange (by walk_at "mem") hlist ?_ (by intro _; rfl) (by rfl)
  walk_at "evs"
  refine R_two (by omega) ?_
  refine ⟨by omega, ?_⟩
  walk_at "evs"
  refine X_for_range O Z (by walk_at "mem") hrange ?_ (by intro _; rfl) (by intro _; rfl) (by intro _ _; rfl)
  walk_at "evs"
  refine R_one (by omega) ?_
  refine ForG_inv (fun i σ => ∃ (res : Int) (rowl : List Int) (q7 q8 q9 q10 q11 q12 q13 : Option AV), rowl.length = a.length ∧ outer a m (b.drop i) (2 * (i : Int)) rowl res = outer a m b 0 ((List.range a.length).map fun (i : Nat) => (2 : Int) + (i : Int) * 2) 0 ∧
    σ = ⟨[some (.str a), some (.str b), some (.int m), o1, o2, some (.obj os.length), some (.int res), q7, q8, q9, q10, q11, q12, q13], [], os ++ [.lst (rowl.map AV.int)]⟩) ⟨0, (List.range a.length).map fun (i : Nat) => (2 : Int) + (i : Int) * 2, none, none, none, none, none, none, none, by simp, rfl, by simp [rangeL]⟩ ?_ ?_
  · rintro j x σ hx ⟨res, rowl, q7, q8, q9, q10, q11, q12, q13, hl, hR, rfl⟩
    obtain ⟨hj, rfl⟩ := rangeL_get hx
    have e0 : (0 : Int) + (j : Nat) * 1 = (j : Int) := by omega
    rw [e0]
    have hbj : b[j]? = some b[j] := by simp [hj]
    have hbd : b.drop j = b[j] :: b.drop (j + 1) := List.drop_eq_getElem_cons hj
    have hpb : P b[j] := pb _ (List.getElem_mem hj)
    rw [hbd, outer] at hR
    generalize b[j] = bc at *
    walk_at "evs"
    refine It_str O (.inl rfl) hbj (by omega) ?_
    walk_at "evs"
    refine X_for_range O Z (by walk_at "mem") hrange ?_ (by intro _; rfl) (by intro _; rfl) (by intro _ _; rfl)
    walk_at "evs"
    refine R_one (by omega) ?_
    refine ForG_inv (fun i σ => ∃ (d r mn : Int) (dn rest : List Int) (q11 q12 q13 : Option AV), dn.length = i ∧ rest.length + i = a.length ∧ dn ++ (inner bc (a.drop i) rest d r mn).1 = (inner bc a rowl (2 * (j : Int)) (2 * (j : Int)) big).1 ∧ (inner bc (a.drop i) rest d r mn).2 = (inner bc a rowl (2 * (j : Int)) (2 * (j : Int)) big).2 ∧
      σ = ⟨[some (.str a), some (.str b), some (.int m), o1, o2, some (.obj os.length), some (.int r), some (.int j), some (.str [bc]), some (.int d), some (.int mn), q11, q12, q13], [], os ++ [.lst ((dn ++ rest).map AV.int)]⟩) ⟨2 * (j : Int), 2 * (j : Int), big, [], rowl, _, _, _, rfl, by simpa using hl, rfl, rfl, by rw [Int.mul_comm]; rfl⟩ ?_ ?_
    · rintro i x σ hx ⟨d, r, mn, dn, rest, q11, q12, q13, hd, hr, h1, h2, rfl⟩
      obtain ⟨hi, rfl⟩ := rangeL_get hx
      have e1 : (0 : Int) + (i : Nat) * 1 = (i : Int) := by omega
      rw [e1]
      have hai : a[i]? = some a[i] := by simp [hi]
      have had : a.drop i = a[i] :: a.drop (i + 1) := List.drop_eq_getElem_cons hi
      have hpa : P a[i] := pa _ (List.getElem_mem hi)
      rw [had] at h1 h2
      generalize a[i] = ac at *
      cases rest with
      | nil => simp at hr; omega
      | cons w rest =>
      rw [inner] at h1 h2
      walk_at "evs"
      refine E_call O Z (by walk_at "mem") g3 kc ?_ (by intro _; rfl)
      walk_at "evs"
      refine It_str O (.inl rfl) hai (by omega) ?_
      walk_at "evs"
      refine hc _ _ _ _ hpb hpa ?_
      walk_at "evs"
      refine It_lst (k := os.length) (xs := (dn ++ w :: rest).map AV.int) (a := .int w) O (by simp) (by omega) (by omega) (by simp [← hd]) ?_
      walk_at "evs"
      refine ⟨os.length, (dn ++ w :: rest).map AV.int, i, rfl, rfl, by simp, by omega, by simp; omega, by omega, ?_⟩
      have e2 : ∀ r' : Int, (os ++ [AO.lst ((dn ++ w :: rest).map AV.int)]).set os.length (.lst (((dn ++ w :: rest).map AV.int).set (i : Int).toNat (.int r'))) = os ++ [.lst (((dn ++ [r']) ++ rest).map AV.int)] := by
        intro r'
        simp [← hd]
      rw [e2]
      walk_at "evs"
      refine bsel_dec (fun e => ?_) (fun e => ?_)
      · walk_at "evs"
        rw [if_pos e] at h1 h2
        exact forK_next trivial ⟨_, _, _, dn ++ [min (min r w + 2) (d + subCost bc ac)], rest, _, _, _, by simp; omega, by simp at hr; omega, by simpa using h1, h2, rfl⟩
      · walk_at "evs"
        rw [if_neg e] at h1 h2
        exact forK_next trivial ⟨_, _, _, dn ++ [min (min r w + 2) (d + subCost bc ac)], rest, _, _, _, by simp; omega, by simp at hr; omega, by simpa using h1, h2, rfl⟩
    · rintro σ ⟨d, r, mn, dn, rest, q11, q12, q13, hd, hr, h1, h2, rfl⟩
      rw [rangeL_length] at hd hr
      have hr0 : rest = [] := by cases rest with | nil => rfl | cons _ _ => simp at hr
      subst hr0
      rw [rangeL_length, List.drop_length, inner_nil] at h1 h2
      have hQ : inner bc a rowl (2 * (j : Int)) (2 * (j : Int)) big = (dn, r, mn) := Prod.ext (by simpa using h1.symm) h2.symm
      rw [hQ] at hR
      walk_at "evs"
      refine bsel_dec (fun e => ?_) (fun e => ?_)
      · rw [if_pos e] at hR
        rw [← hR] at h
        walk_at "evs"
        exact h _ _
      · rw [if_neg e] at hR
        walk_at "evs"
        refine forK_next trivial ⟨_, dn, _, _, _, _, _, _, _, by simpa using hd, ?_, by rw [List.append_nil]⟩
        rw [show (2 : Int) * ((j + 1 : Nat) : Int) = 2 * (j : Int) + 2 by omega]
        exact hR
  · rintro σ ⟨res, rowl, q7, q8, q9, q10, q11, q12, q13, hl, hR, rfl⟩
    rw [rangeL_length, List.drop_length, outer] at hR
    rw [← hR] at h
    walk_at "evs"
    exact h _ _

end

section
open PySem PySem.W PyProof.Rows
set_option Elab.async false
set_option maxRecDepth 100000
set_option linter.unusedVariables false
set_option maxHeartbeats 8000000

def digs (n : Nat) : List Nat := if n = 0 then [] else digs (n / 16) ++ [n % 16]
termination_by n
decreasing_by omega
theorem digs_len : ∀ {k n : Nat}, n < 16 ^ k → (digs n).length ≤ k
  | 0, n, h => by
    have : n = 0 := by simpa using h
    subst this; rw [digs]; simp
  | k + 1, n, h => by
    rw [digs]
    split
    · simp
    · have := digs_len (k := k) (n := n / 16) (by rw [Nat.div_lt_iff_lt_mul (by decide)]; rw [Nat.pow_succ] at h; omega)
      simp; omega
def apB (d : Nat) : UInt8 := UInt8.ofNat (65 + d)
def apL (n : Nat) : List UInt8 := (digs n).map apB
abbrev apNm : List Str := [Str.ofString "num", Str.ofString "val", Str.ofString "AP", Str.ofString "mod"]
abbrev apGn : List Str := [Str.ofString "abs", Str.ofString "divmod", Str.ofString "int"]
theorem ap_walk {W : Wd} {n : Nat} {env : Env} {A : Around} {os : List AO} {K : AFlow → St → Prop} {i : Int} (O : WdOk W) (Z : EvOk ⟨env, apNm, [], apGn, A, os.length⟩ n)
    (g1 : W.mg (Str.ofString "int") = none) (g2 : W.mg (Str.ofString "abs") = none) (g3 : W.mg (Str.ofString "divmod") = none) (hi : i.natAbs < 2 ^ 60)
    (h : ∀ fr, K (.ret (.bytes (apL i.natAbs))) ⟨fr, [], os⟩) :
   EX W ⟨env, apNm, [], apGn, A, os.length⟩ (fnBody (stAt 5)) ⟨[some (.int i), none, none, none], [], os⟩ K := by
  conv => arg 3; whnf
  walk_at "evs"
  refine X_while ?_
  have hpos : ∀ j : Nat, j ≠ 0 → digs j = digs (j / 16) ++ [j % 16] := fun j hj => by rw [digs, if_neg hj]
  have h0 : digs 0 = [] := by rw [digs]; rfl
  have hll : (digs i.natAbs).length ≤ 15 := digs_len (Nat.lt_of_lt_of_eq hi (by decide))
  refine W_inv' (fun k σ => ∃ (rest : List Nat) (q : Option AV), digs k ++ rest = digs i.natAbs ∧ rest.length ≤ 15 ∧ σ = ⟨[some (.int (k : Nat)), some (.bytes (rest.map apB)), some (.bytes [65, 66, 67, 68, 69, 70, 71, 72, 73, 74, 75, 76, 77, 78, 79, 80]), q], [], os⟩)
    (fun σ => ∃ (q : Option AV), σ = ⟨[some (.int 0), some (.bytes (apL i.natAbs)), some (.bytes [65, 66, 67, 68, 69, 70, 71, 72, 73, 74, 75, 76, 77, 78, 79, 80]), q], [], os⟩) i.natAbs ⟨[], none, by simp, by simp, by rfl⟩ ?_ ?_
  · rintro k σ ⟨rest, q, h1, h2, rfl⟩
    walk_at "evs"
    refine bsel_dec (fun e => ?_) (fun e => ?_)
    · have hk : k ≠ 0 := by omega
      rw [hpos k hk] at h1
      walk_at "evs"
      walk_at "evs"
      have e1 : (k : Int).fdiv 16 = ((k / 16 : Nat) : Int) := by rw [Int.fdiv_eq_ediv_of_nonneg _ (by decide)]; omega
      have e2 : (k : Int).fmod 16 = ((k % 16 : Nat) : Int) := by rw [Int.fmod_eq_emod_of_nonneg _ (by decide)]; omega
      rw [e1, e2]
      have hc : [65, 66, 67, 68, 69, 70, 71, 72, 73, 74, 75, 76, 77, 78, 79, 80][k % 16]? = some (apB (k % 16)) := by
        have : k % 16 < 16 := Nat.mod_lt _ (by decide)
        generalize k % 16 = z at this
        revert z
        decide
      refine Slc_bytes O (by simp) ?_
      rw [picked_one hc]
      walk_at "evs"
      have hl2 : (digs (k / 16) ++ [k % 16] ++ rest).length ≤ 15 := by rw [h1]; exact hll
      refine B_bcat O (by simp; omega) ?_
      walk_at "evs"
      exact whileK_next ⟨k / 16, by omega, k % 16 :: rest, _, by simpa using h1, by simp at hl2 ⊢; omega, rfl⟩
    · have hk : k = 0 := by omega
      subst hk
      rw [h0] at h1
      walk_at "evs"
      exact ⟨q, by rw [apL, ← h1]; rfl⟩
  · rintro σ ⟨q, rfl⟩
    walk_at "evs"
    exact h _

end

section
open PySem PySem.W PyProof.Rows
set_option Elab.async false
set_option maxRecDepth 100000
set_option linter.unusedVariables false
set_option maxHeartbeats 8000000

abbrev M4 := Int × Int × Int × Int
def lawStep (k : Nat) : M4 → M4
  | (p, q, r, s) => if k < 2 then (p, q + (if k % 2 = 0 then 2 else -2) * p, r, s + (if k % 2 = 0 then 2 else -2) * r) else (p + (if k % 2 = 0 then 2 else -2) * q, q, r + (if k % 2 = 0 then 2 else -2) * s, s)
def tupOf : M4 → AV
  | (p, q, r, s) => .tup [.int p, .int q, .int r, .int s]
abbrev stepNm : List Str := [Str.ofString "step", Str.ofString "p", Str.ofString "q", Str.ofString "r", Str.ofString "s", Str.ofString "twice"]
theorem step_walk {W : Wd} {n : Nat} {env : Env} {A : Around} {os : List AO} {K : AFlow → St → Prop} {k : Nat} {p q r s : Int} (O : WdOk W) (Z : EvOk ⟨env, stepNm, [], [], A, os.length⟩ n)
    (h : ∀ fr, K (.ret (tupOf (lawStep k (p, q, r, s)))) ⟨fr, [], os⟩) :
   EX W ⟨env, stepNm, [], [], A, os.length⟩ (fnBody (stAt 13)) ⟨[some (.int k), some (.int p), some (.int q), some (.int r), some (.int s), none], [], os⟩ K := by
  conv => arg 3; whnf
  have h' : ∀ t : Int, (if k % 2 = 0 then (2 : Int) else -2) = t → ∀ fr, K (.ret (if k < 2 then .tup [.int p, .int (q + t * p), .int r, .int (s + t * r)] else .tup [.int (p + t * q), .int q, .int (r + t * s), .int s])) ⟨fr, [], os⟩ := by
    rintro t rfl fr
    have := h fr
    rw [lawStep] at this
    split at this <;> rename_i hk
    · rw [if_pos hk]; exact this
    · rw [if_neg hk]; exact this
  walk_at "evs"
  refine bsel_dec (fun e => ?_) (fun e => ?_)
  · have h2 := h' 2 (by rw [if_pos]; rw [Int.fmod_eq_emod_of_nonneg _ (by decide)] at e; omega)
    walk_at "evs"
    refine bsel_dec (fun e2 => ?_) (fun e2 => ?_)
    · rw [if_pos (by omega)] at h2
      walk_at "evs"
      exact h2 _
    · rw [if_neg (by omega)] at h2
      walk_at "evs"
      exact h2 _
  · have h2 := h' (-2) (by rw [if_neg]; rw [Int.fmod_eq_emod_of_nonneg _ (by decide)] at e; omega)
    walk_at "evs"
    refine bsel_dec (fun e2 => ?_) (fun e2 => ?_)
    · rw [if_pos (by omega)] at h2
      walk_at "evs"
      exact h2 _
    · rw [if_neg (by omega)] at h2
      walk_at "evs"
      exact h2 _

end

section
open PySem PySem.W PyProof.Rows
set_option Elab.async false
set_option linter.unusedVariables false
set_option maxHeartbeats 4000000

/-! ## the free group by 2 x 2 matrices -/
def inv (k : Nat) : Nat := if k % 2 = 0 then k + 1 else k - 1
/-- a stack of steps, its top first, in which none undoes its neighbour -/
def Red : List Nat → Prop
  | [] => True
  | [x] => x < 4
  | x :: y :: u => x < 4 ∧ x ≠ inv y ∧ Red (y :: u)
def matR : List Nat → M4
  | [] => (1, 0, 0, 1)
  | x :: u => lawStep x (matR u)
theorem Red.tail {x : Nat} {u : List Nat} (h : Red (x :: u)) : Red u := by
  cases u with
  | nil => trivial
  | cons y u => exact h.2.2
theorem Red.lt {x : Nat} {u : List Nat} (h : Red (x :: u)) : x < 4 := by
  cases u with
  | nil => exact h
  | cons y u => exact h.1
theorem mul_self_nonneg' (x : Int) : 0 ≤ x * x := by
  rw [← Int.natAbs_mul_self]
  exact Int.natCast_nonneg _
theorem sq_sub (p q : Int) : 0 ≤ p * p - 2 * (p * q) + q * q := by
  have h := mul_self_nonneg' (p - q)
  have e : (p - q) * (p - q) = p * p - 2 * (p * q) + q * q := by grind
  (first | lia | omega)
theorem sq_add (p q : Int) : 0 ≤ p * p + 2 * (p * q) + q * q := by
  have h := mul_self_nonneg' (p + q)
  have e : (p + q) * (p + q) = p * p + 2 * (p * q) + q * q := by grind
  (first | lia | omega)
/-- what the top of the stack tells of p and q -/
inductive Ty : List Nat → Int → Int → Prop
  | bs {u p q} : (∀ x ∈ u, 2 ≤ x) → p = 1 → q = 0 → Ty u p q
  | a {u p q} : p * p < p * q → 0 < p * p → Ty (0 :: u) p q
  | A {u p q} : p * p < -(p * q) → 0 < p * p → Ty (1 :: u) p q
  | b {u p q} : q * q < p * q → 0 < q * q → Ty (2 :: u) p q
  | B {u p q} : q * q < -(p * q) → 0 < q * q → Ty (3 :: u) p q

theorem ty_of : ∀ u, Red u → Ty u (matR u).1 (matR u).2.1
  | [], _ => .bs (fun _ h => nomatch h) rfl rfl
  | x :: u, h => by
    have ih := ty_of u h.tail
    have hx := h.lt
    generalize hm : matR u = m at ih
    obtain ⟨p, q, r, s⟩ := m
    have s1 := sq_sub p q
    have s2 := sq_add p q
    simp only at ih
    show Ty (x :: u) (lawStep x (matR u)).1 (lawStep x (matR u)).2.1
    rw [hm]
    have hpq : p * (q + 2 * p) = p * q + 2 * (p * p) := by grind
    have hpq' : p * (q + -2 * p) = p * q - 2 * (p * p) := by grind
    have hqp : (p + 2 * q) * q = p * q + 2 * (q * q) := by grind
    have hqp' : (p + -2 * q) * q = p * q - 2 * (q * q) := by grind
    rcases (by (first | lia | omega) : x = 0 ∨ x = 1 ∨ x = 2 ∨ x = 3) with rfl | rfl | rfl | rfl
    · show Ty _ p (q + 2 * p)
      cases ih with
      | bs h1 h2 h3 => subst h2; subst h3; exact .a (by decide) (by decide)
      | a h1 h2 => exact .a (by (first | lia | omega)) h2
      | A h1 h2 => exact absurd rfl h.2.1
      | b h1 h2 => exact .a (by (first | lia | omega)) (by (first | lia | omega))
      | B h1 h2 => exact .a (by (first | lia | omega)) (by (first | lia | omega))
    · show Ty _ p (q + -2 * p)
      cases ih with
      | bs h1 h2 h3 => subst h2; subst h3; exact .A (by decide) (by decide)
      | a h1 h2 => exact absurd rfl h.2.1
      | A h1 h2 => exact .A (by (first | lia | omega)) h2
      | b h1 h2 => exact .A (by (first | lia | omega)) (by (first | lia | omega))
      | B h1 h2 => exact .A (by (first | lia | omega)) (by (first | lia | omega))
    · show Ty _ (p + 2 * q) q
      cases ih with
      | bs h1 h2 h3 => subst h2; subst h3; exact .bs (fun y hy => by cases hy with | head => decide | tail _ hy => exact h1 y hy) (by decide) rfl
      | a h1 h2 => exact .b (by (first | lia | omega)) (by (first | lia | omega))
      | A h1 h2 => exact .b (by (first | lia | omega)) (by (first | lia | omega))
      | b h1 h2 => exact .b (by (first | lia | omega)) h2
      | B h1 h2 => exact absurd rfl h.2.1
    · show Ty _ (p + -2 * q) q
      cases ih with
      | bs h1 h2 h3 => subst h2; subst h3; exact .bs (fun y hy => by cases hy with | head => decide | tail _ hy => exact h1 y hy) (by decide) rfl
      | a h1 h2 => exact .B (by (first | lia | omega)) (by (first | lia | omega))
      | A h1 h2 => exact .B (by (first | lia | omega)) (by (first | lia | omega))
      | b h1 h2 => exact absurd rfl h.2.1
      | B h1 h2 => exact .B (by (first | lia | omega)) h2
theorem natAbs_lt_of_sq {p q : Int} (h : p * p < q * q) : p.natAbs < q.natAbs := by
  by_cases hc : p.natAbs < q.natAbs
  · exact hc
  · have h1 : q.natAbs * q.natAbs ≤ p.natAbs * p.natAbs := Nat.mul_le_mul (by (first | lia | omega)) (by (first | lia | omega))
    have h2 : ((q.natAbs * q.natAbs : Nat) : Int) ≤ ((p.natAbs * p.natAbs : Nat) : Int) := by exact_mod_cast h1
    rw [Int.natAbs_mul_self, Int.natAbs_mul_self] at h2
    (first | lia | omega)
/-- the nearest multiple -/
theorem near {p q : Int} (e : Int) (h : q.natAbs < p.natAbs) : ((q + 2 * e * p) + p).fdiv (2 * p) = e := by
  have hp : p ≠ 0 := by rintro rfl; simp at h
  have h2 : (q + p).fdiv (2 * p) = 0 := by
    rcases Int.lt_or_gt_of_ne hp with hp | hp
    · have : (q + p).fdiv (2 * p) = (-(q + p)).fdiv (-(2 * p)) := by rw [Int.neg_fdiv_neg]
      rw [this, Int.fdiv_eq_ediv_of_nonneg _ (by (first | lia | omega))]
      exact Int.ediv_eq_zero_of_lt (by (first | lia | omega)) (by (first | lia | omega))
    · rw [Int.fdiv_eq_ediv_of_nonneg _ (by (first | lia | omega))]
      exact Int.ediv_eq_zero_of_lt (by (first | lia | omega)) (by (first | lia | omega))
  have e1 : q + 2 * e * p + p = (q + p) + (2 * p) * e := by grind
  rw [e1, Int.add_mul_fdiv_left _ _ (by (first | lia | omega)), h2]
  (first | lia | omega)

theorem inv_inv (x : Nat) : inv (inv x) = x := by unfold inv; split <;> split <;> (first | lia | omega)
theorem block (x : Nat) : ∀ u, Red (x :: u) → ∃ n u', x :: u = List.replicate (n + 1) x ++ u' ∧ Red u' ∧ ∀ y v, u' = y :: v → y ≠ x ∧ y ≠ inv x
  | [], h => ⟨0, [], rfl, trivial, fun _ _ e => nomatch e⟩
  | y :: u, h => by
    by_cases e : y = x
    · subst e
      obtain ⟨n, u', h1, h2, h3⟩ := block y u h.tail
      exact ⟨n + 1, u', by rw [h1, List.replicate_succ (n := n + 1)]; rfl, h2, h3⟩
    · refine ⟨0, y :: u, rfl, h.tail, fun z v ez => ?_⟩
      cases ez
      exact ⟨e, fun q => h.2.1 (by rw [q, inv_inv])⟩
def eps (x : Nat) : Int := if x % 2 = 0 then 1 else -1
theorem lawStep_lo {x : Nat} (hx : x < 2) (p q r s : Int) : lawStep x (p, q, r, s) = (p, q + 2 * eps x * p, r, s + 2 * eps x * r) := by
  rw [lawStep, if_pos hx, eps]; split <;> rfl
theorem lawStep_hi {x : Nat} (hx : ¬ x < 2) (p q r s : Int) : lawStep x (p, q, r, s) = (p + 2 * eps x * q, q, r + 2 * eps x * s, s) := by
  rw [lawStep, if_neg hx, eps]; split <;> rfl
theorem mat_lo {x : Nat} (hx : x < 2) {u : List Nat} {p q r s : Int} (h : matR u = (p, q, r, s)) : ∀ n : Nat, matR (List.replicate n x ++ u) = (p, q + 2 * (eps x * n) * p, r, s + 2 * (eps x * n) * r)
  | 0 => by simp [h]
  | n + 1 => by
    rw [List.replicate_succ, List.cons_append, matR, mat_lo hx h n, lawStep_lo hx]
    congr 2
    · push_cast; grind
    · congr 1; push_cast; grind
theorem mat_hi {x : Nat} (hx : ¬ x < 2) {u : List Nat} {p q r s : Int} (h : matR u = (p, q, r, s)) : ∀ n : Nat, matR (List.replicate n x ++ u) = (p + 2 * (eps x * n) * q, q, r + 2 * (eps x * n) * s, s)
  | 0 => by simp [h]
  | n + 1 => by
    rw [List.replicate_succ, List.cons_append, matR, mat_hi hx h n, lawStep_hi hx]
    congr 1
    · push_cast; grind
    · congr 2; push_cast; grind
def letr (k : Nat) : Nat := [97, 65, 98, 66].getD k 0
/-- the word of a stack -/
def txt (u : List Nat) : List Nat := u.reverse.map letr
theorem txt_rep (n x : Nat) (u : List Nat) : txt (List.replicate n x ++ u) = txt u ++ List.replicate n (letr x) := by
  simp [txt]
def blk (e : Int) (l L : Nat) : List Nat := List.replicate (max e 0).toNat l ++ List.replicate (max (-e) 0).toNat L
theorem blk_eps {x n l L : Nat} (h : (x % 2 = 0 ∧ letr x = l) ∨ (x % 2 = 1 ∧ letr x = L)) : blk (eps x * n) l L = List.replicate n (letr x) := by
  rcases h with ⟨h1, h2⟩ | ⟨h1, h2⟩
  · have e : eps x * n = n := by rw [eps, if_pos h1]; (first | lia | omega)
    rw [e, blk, show (max (n : Int) 0).toNat = n by (first | lia | omega), show (max (-(n : Int)) 0).toNat = 0 by (first | lia | omega), h2]; simp
  · have e : eps x * n = -n := by rw [eps, if_neg (by (first | lia | omega))]; (first | lia | omega)
    rw [e, blk, show (max (-(n : Int)) 0).toNat = 0 by (first | lia | omega), show (max (-(-(n : Int))) 0).toNat = n by (first | lia | omega), h2]; simp
theorem eps_abs (x n : Nat) : (eps x * n).natAbs = n := by
  rw [eps]; split <;> (first | lia | omega)
structure Bnd (m : M4) (k : Nat) : Prop where
  p : m.1.natAbs ≤ 3 ^ k
  q : m.2.1.natAbs ≤ 3 ^ k
  r : m.2.2.1.natAbs ≤ 3 ^ k
  s : m.2.2.2.natAbs ≤ 3 ^ k
theorem bnd : ∀ u, Bnd (matR u) u.length
  | [] => ⟨by decide, by decide, by decide, by decide⟩
  | x :: u => by
    have ih := bnd u
    generalize hm : matR u = m at ih
    obtain ⟨p, q, r, s⟩ := m
    obtain ⟨h1, h2, h3, h4⟩ := ih
    simp only at h1 h2 h3 h4
    show Bnd (lawStep x (matR u)) (u.length + 1)
    rw [hm]
    have e3 : 3 ^ (u.length + 1) = 3 * 3 ^ u.length := by rw [Nat.pow_succ, Nat.mul_comm]
    by_cases hx : x < 2
    · rw [lawStep_lo hx]
      rcases (by rw [eps]; split <;> simp : eps x = 1 ∨ eps x = -1) with e | e <;> rw [e] <;> exact ⟨by simp only; (first | lia | omega), by simp only; (first | lia | omega), by simp only; (first | lia | omega), by simp only; (first | lia | omega)⟩
    · rw [lawStep_hi hx]
      rcases (by rw [eps]; split <;> simp : eps x = 1 ∨ eps x = -1) with e | e <;> rw [e] <;> exact ⟨by simp only; (first | lia | omega), by simp only; (first | lia | omega), by simp only; (first | lia | omega), by simp only; (first | lia | omega)⟩
/-- one block off: by q -/
theorem peel_lo {u : List Nat} {p q r s : Int} (h : Red u) (hm : matR u = (p, q, r, s)) (hq : p.natAbs < q.natAbs) :
    ∃ (e : Int) (u' : List Nat), (q + p).fdiv (2 * p) = e ∧ p ≠ 0 ∧ e.natAbs ≤ u.length ∧ Red u' ∧ u'.length < u.length ∧ matR u' = (p, q - 2 * e * p, r, s - 2 * e * r) ∧ txt u = txt u' ++ blk e 97 65 := by
  have ty := ty_of u h
  rw [hm] at ty
  simp only at ty
  have s1 := sq_sub p q
  have s2 := sq_add p q
  have hsq : ¬ q * q < p * p := fun c => by have := natAbs_lt_of_sq c; (first | lia | omega)
  have key : ∀ x v, u = x :: v → x < 2 → (x % 2 = 0 ∧ letr x = 97 ∨ x % 2 = 1 ∧ letr x = 65) → ∃ (e : Int) (u' : List Nat), (q + p).fdiv (2 * p) = e ∧ p ≠ 0 ∧ e.natAbs ≤ u.length ∧ Red u' ∧ u'.length < u.length ∧ matR u' = (p, q - 2 * e * p, r, s - 2 * e * r) ∧ txt u = txt u' ++ blk e 97 65 := by
    rintro x v rfl hx hl
    obtain ⟨n, u', h1, h2, h3⟩ := block x v h
    generalize hm' : matR u' = m' at *
    obtain ⟨p', q', r', s'⟩ := m'
    have e0 := mat_lo hx hm' (n + 1)
    rw [← h1, hm] at e0
    have ep : p = p' := congrArg (·.1) e0
    have eq : q = q' + 2 * (eps x * ((n + 1 : Nat) : Int)) * p' := congrArg (·.2.1) e0
    have er : r = r' := congrArg (·.2.2.1) e0
    have es : s = s' + 2 * (eps x * ((n + 1 : Nat) : Int)) * r' := congrArg (·.2.2.2) e0
    have ty' := ty_of u' h2
    rw [hm'] at ty'
    simp only at ty'
    have hlt : q'.natAbs < p'.natAbs := by
      have s1 := sq_sub p' q'
      have s2 := sq_add p' q'
      cases ty' with
      | bs h1 h2 h3 => subst h2; subst h3; decide
      | a a1 a2 => have := h3 _ _ rfl; unfold inv at this; split at this <;> (first | lia | omega)
      | A a1 a2 => have := h3 _ _ rfl; unfold inv at this; split at this <;> (first | lia | omega)
      | b a1 a2 => exact natAbs_lt_of_sq (by (first | lia | omega))
      | B a1 a2 => exact natAbs_lt_of_sq (by (first | lia | omega))
    have hnear := near (p := p') (q := q') (eps x * ((n + 1 : Nat) : Int)) hlt
    refine ⟨eps x * ((n + 1 : Nat) : Int), u', by rw [ep, eq]; exact hnear, by rintro rfl; rw [← ep] at hlt; simp at hlt, by rw [eps_abs, h1]; simp, h2, by rw [h1]; simp, ?_, ?_⟩
    · rw [hm', ep, eq, er, es]
      congr 2
      · (first | lia | omega)
      · congr 1; (first | lia | omega)
    · rw [h1, txt_rep, blk_eps hl]
  cases ty with
  | bs h1 h2 h3 => subst h3; simp at hq
  | a h1 h2 => exact key 0 _ rfl (by decide) (by decide)
  | A h1 h2 => exact key 1 _ rfl (by decide) (by decide)
  | b h1 h2 => exact absurd (by (first | lia | omega) : q * q < p * p) hsq
  | B h1 h2 => exact absurd (by (first | lia | omega) : q * q < p * p) hsq

theorem lt_of_block {x : Nat} {y : Nat} {v : List Nat} (hx : 2 ≤ x ∧ x < 4) (h : y ≠ x ∧ y ≠ inv x) : ¬ (2 ≤ y ∧ y < 4) := by
  unfold inv at h; split at h <;> (first | lia | omega)
theorem peel_hi {u : List Nat} {p q r s : Int} (h : Red u) (hm : matR u = (p, q, r, s)) (h0 : q ≠ 0) (hq : ¬ p.natAbs < q.natAbs) :
    ∃ (e : Int) (u' : List Nat), (p + q).fdiv (2 * q) = e ∧ e.natAbs ≤ u.length ∧ Red u' ∧ u'.length < u.length ∧ matR u' = (p - 2 * e * q, q, r - 2 * e * s, s) ∧ txt u = txt u' ++ blk e 98 66 := by
  have ty := ty_of u h
  rw [hm] at ty
  simp only at ty
  have s1 := sq_sub p q
  have s2 := sq_add p q
  have hsq : ¬ p * p < q * q := fun c => hq (natAbs_lt_of_sq c)
  have key : ∀ x v, u = x :: v → ¬ x < 2 → (x % 2 = 0 ∧ letr x = 98 ∨ x % 2 = 1 ∧ letr x = 66) → ∃ (e : Int) (u' : List Nat), (p + q).fdiv (2 * q) = e ∧ e.natAbs ≤ u.length ∧ Red u' ∧ u'.length < u.length ∧ matR u' = (p - 2 * e * q, q, r - 2 * e * s, s) ∧ txt u = txt u' ++ blk e 98 66 := by
    rintro x v rfl hx hl
    have hx4 := h.lt
    obtain ⟨n, u', h1, h2, h3⟩ := block x v h
    generalize hm' : matR u' = m' at *
    obtain ⟨p', q', r', s'⟩ := m'
    have e0 := mat_hi hx hm' (n + 1)
    rw [← h1, hm] at e0
    have ep : p = p' + 2 * (eps x * ((n + 1 : Nat) : Int)) * q' := congrArg (·.1) e0
    have eq : q = q' := congrArg (·.2.1) e0
    have er : r = r' + 2 * (eps x * ((n + 1 : Nat) : Int)) * s' := congrArg (·.2.2.1) e0
    have es : s = s' := congrArg (·.2.2.2) e0
    have ty' := ty_of u' h2
    rw [hm'] at ty'
    simp only at ty'
    have hlt : p'.natAbs < q'.natAbs := by
      have s1 := sq_sub p' q'
      have s2 := sq_add p' q'
      cases ty' with
      | bs h1 h2 h3 => exact absurd (eq.trans h3) h0
      | b a1 a2 => exact absurd ⟨by decide, by decide⟩ (lt_of_block (v := []) ⟨by (first | lia | omega), hx4⟩ (h3 _ _ rfl))
      | B a1 a2 => exact absurd ⟨by decide, by decide⟩ (lt_of_block (v := []) ⟨by (first | lia | omega), hx4⟩ (h3 _ _ rfl))
      | a a1 a2 => exact natAbs_lt_of_sq (by (first | lia | omega))
      | A a1 a2 => exact natAbs_lt_of_sq (by (first | lia | omega))
    have hnear := near (p := q') (q := p') (eps x * ((n + 1 : Nat) : Int)) hlt
    refine ⟨eps x * ((n + 1 : Nat) : Int), u', by rw [ep, eq]; exact hnear, by rw [eps_abs, h1]; simp, h2, by rw [h1]; simp, ?_, ?_⟩
    · rw [hm', ep, eq, er, es]
      congr 1
      · (first | lia | omega)
      · congr 2; (first | lia | omega)
    · rw [h1, txt_rep, blk_eps hl]
  cases ty with
  | bs h1 h2 h3 => exact absurd h3 h0
  | b h1 h2 => exact key 2 _ rfl (by decide) (by decide)
  | B h1 h2 => exact key 3 _ rfl (by decide) (by decide)
  | a h1 h2 => exact absurd (by (first | lia | omega) : p * p < q * q) hsq
  | A h1 h2 => exact absurd (by (first | lia | omega) : p * p < q * q) hsq
/-- where q is nought: b's alone -/
theorem peel_end {u : List Nat} {p q r s : Int} (h : Red u) (hm : matR u = (p, q, r, s)) (h0 : q = 0) : (r.fdiv 2).natAbs ≤ u.length ∧ txt u = blk (r.fdiv 2) 98 66 := by
  have ty := ty_of u h
  rw [hm] at ty
  simp only at ty
  have hb : ∀ x ∈ u, 2 ≤ x := by
    cases ty with
    | bs h1 h2 h3 => exact h1
    | b h1 h2 => subst h0; simp at h2
    | B h1 h2 => subst h0; simp at h2
    | a h1 h2 => subst h0; simp at h1; (first | lia | omega)
    | A h1 h2 => subst h0; simp at h1; (first | lia | omega)
  cases u with
  | nil =>
    have : r = 0 := congrArg (·.2.2.1) hm.symm
    subst this
    exact ⟨by decide, by decide⟩
  | cons x v =>
    have hx4 := h.lt
    have hx2 := hb x (.head _)
    obtain ⟨n, u', h1, h2, h3⟩ := block x v h
    have hu : u' = [] := by
      cases u' with
      | nil => rfl
      | cons y w => exact absurd ⟨hb y (by rw [h1]; simp), h2.lt⟩ (lt_of_block (v := []) ⟨hx2, hx4⟩ (h3 _ _ rfl))
    subst hu
    have e0 := mat_hi (by (first | lia | omega) : ¬ x < 2) (show matR [] = (1, 0, 0, 1) from rfl) (n + 1)
    rw [← h1, hm] at e0
    have er : r = 0 + 2 * (eps x * ((n + 1 : Nat) : Int)) * 1 := congrArg (·.2.2.1) e0
    have er' : r.fdiv 2 = eps x * ((n + 1 : Nat) : Int) := by
      rw [er, Int.fdiv_eq_ediv_of_nonneg _ (by decide)]
      (first | lia | omega)
    rw [er']
    refine ⟨by rw [eps_abs, h1]; simp, ?_⟩
    rw [h1, txt_rep, blk_eps (by rcases (by (first | lia | omega) : x = 2 ∨ x = 3) with rfl | rfl <;> decide)]
    rfl

end

section
open PySem PySem.W PyProof.Rows
set_option Elab.async false
set_option maxRecDepth 100000
set_option linter.unusedVariables false
set_option maxHeartbeats 8000000

theorem flat_rep (n l : Nat) : (List.replicate n [l]).flatten = List.replicate n l := by
  induction n with
  | zero => rfl
  | succ n ih => rw [List.replicate_succ, List.flatten_cons, ih, List.replicate_succ]; rfl
theorem B_rep1 {W : Wd} {n : Nat} {os : List AO} {K : AV → List AO → Prop} (O : WdOk W) {l : Nat} {k : Int} (h0 : 0 ≤ k) (hk : k ≤ 100) (h : K (.str (List.replicate k.toNat l)) os) : BinOk W n .Mult (.str [l]) (.int k) os K :=
  B_rep O h0 hk (by simp) (by rw [flat_rep]; exact h)
theorem blk_len (e : Int) (l L : Nat) : (blk e l L).length = e.natAbs := by simp [blk]; omega
abbrev readNm : List Str := [Str.ofString "p", Str.ofString "q", Str.ofString "r", Str.ofString "s", Str.ofString "text", Str.ofString "k"]
abbrev readGn : List Str := [Str.ofString "abs", Str.ofString "max"]
theorem read_walk {W : Wd} {n : Nat} {env : Env} {A : Around} {os : List AO} {K : AFlow → St → Prop} {u : List Nat} {p q r s : Int} (O : WdOk W) (Z : EvOk ⟨env, readNm, [], readGn, A, os.length⟩ n)
    (hR : Red u) (hm : matR u = (p, q, r, s)) (hl : u.length ≤ 16) (gabs : W.mg (Str.ofString "abs") = none) (gmax : W.mg (Str.ofString "max") = none)
    (h : ∀ fr, K (.ret (.str (txt u))) ⟨fr, [], os⟩) :
   EX W ⟨env, readNm, [], readGn, A, os.length⟩ (fnBody (stAt 14)) ⟨[some (.int p), some (.int q), some (.int r), some (.int s), none, none], [], os⟩ K := by
  conv => arg 3; whnf
  walk_at "evs"
  refine X_while ?_
  refine W_inv' (fun k σ => ∃ (v : List Nat) (p q r s : Int) (rest : List Nat) (o : Option AV), Red v ∧ matR v = (p, q, r, s) ∧ v.length = k ∧ v.length ≤ 16 ∧ rest.length ≤ 16 ∧ txt v ++ rest = txt u ∧ σ = ⟨[some (.int p), some (.int q), some (.int r), some (.int s), some (.str rest), o], [], os⟩)
    (fun σ => ∃ (v : List Nat) (p r s : Int) (rest : List Nat) (o : Option AV), (r.fdiv 2).natAbs ≤ 16 ∧ rest.length ≤ 16 ∧ blk (r.fdiv 2) 98 66 ++ rest = txt u ∧ σ = ⟨[some (.int p), some (.int 0), some (.int r), some (.int s), some (.str rest), o], [], os⟩) u.length ⟨u, p, q, r, s, [], none, hR, hm, rfl, hl, by simp, by simp, rfl⟩ ?_ ?_
  · rintro k σ ⟨v, p, q, r, s, rest, o, h1, h2, h3, h4, h5, h6, rfl⟩
    have tl : (txt v ++ rest).length ≤ 16 := by rw [h6]; simp [txt]; exact hl
    have bd := bnd v
    rw [h2] at bd
    have b3 : 3 ^ v.length ≤ 3 ^ 16 := Nat.pow_le_pow_right (by decide) h4
    have b3' : (3 : Nat) ^ 16 = 43046721 := by decide
    have bp : p.natAbs ≤ 43046721 := by have := bd.p; simp only at this; omega
    have bq : q.natAbs ≤ 43046721 := by have := bd.q; simp only at this; omega
    walk_at "evs"
    refine bsel_dec (fun e => ?_) (fun e => ?_)
    · walk_at "evs"
      refine bsel_dec (fun e2 => ?_) (fun e2 => ?_)
      · obtain ⟨d, v', a1, a2, a3, a4, a5, a6, a7⟩ := peel_lo h1 h2 (by omega)
        walk_at "evs"
        refine B_fdiv O (by omega) (by omega) ?_
        rw [a1]
        walk_at "evs"
        refine B_rep1 O (by omega) (by omega) ?_
        walk_at "evs"
        refine B_rep1 O (by omega) (by omega) ?_
        walk_at "evs"
        refine B_cat O (by simp; omega) ?_
        walk_at "evs"
        have lt7 : (txt v' ++ (blk d 97 65 ++ rest)).length ≤ 16 := by rw [← List.append_assoc, ← a7]; exact tl
        have lt8 : (blk d 97 65 ++ rest).length ≤ 16 := by rw [List.length_append] at lt7; omega
        refine B_cat O (by have := blk_len d 97 65; rw [blk] at this; rw [this]; omega) ?_
        walk_at "evs"
        exact whileK_next ⟨v'.length, by omega, v', _, _, _, _, blk d 97 65 ++ rest, _, a4, a6, rfl, by omega, lt8, by rw [← List.append_assoc, ← a7]; exact h6, rfl⟩
      · obtain ⟨d, v', a1, a3, a4, a5, a6, a7⟩ := peel_hi h1 h2 (by omega) (by omega)
        walk_at "evs"
        refine B_fdiv O (by omega) (by omega) ?_
        rw [a1]
        walk_at "evs"
        refine B_rep1 O (by omega) (by omega) ?_
        walk_at "evs"
        refine B_rep1 O (by omega) (by omega) ?_
        walk_at "evs"
        refine B_cat O (by simp; omega) ?_
        walk_at "evs"
        have lt7 : (txt v' ++ (blk d 98 66 ++ rest)).length ≤ 16 := by rw [← List.append_assoc, ← a7]; exact tl
        have lt8 : (blk d 98 66 ++ rest).length ≤ 16 := by rw [List.length_append] at lt7; omega
        refine B_cat O (by have := blk_len d 98 66; rw [blk] at this; rw [this]; omega) ?_
        walk_at "evs"
        exact whileK_next ⟨v'.length, by omega, v', _, _, _, _, blk d 98 66 ++ rest, _, a4, a6, rfl, by omega, lt8, by rw [← List.append_assoc, ← a7]; exact h6, rfl⟩
    · walk_at "evs"
      have hq : q = 0 := by omega
      subst hq
      obtain ⟨c1, c2⟩ := peel_end h1 h2 rfl
      exact ⟨v, p, r, s, rest, o, by omega, h5, by rw [← c2]; exact h6, rfl⟩
  · rintro σ ⟨v, p, r, s, rest, o, h1, h2, h3, rfl⟩
    walk_at "evs"
    refine B_rep1 O (by omega) (by omega) ?_
    walk_at "evs"
    refine B_rep1 O (by omega) (by omega) ?_
    walk_at "evs"
    refine B_cat O (by simp; omega) ?_
    walk_at "evs"
    refine B_cat O (by have := blk_len (r.fdiv 2) 98 66; rw [blk] at this; rw [this]; omega) ?_
    walk_at "evs"
    rw [← h3] at h
    exact h _

end

section
open PySem PySem.W PyProof.Rows
set_option Elab.async false
set_option maxRecDepth 100000
set_option linter.unusedVariables false
set_option maxHeartbeats 8000000

def clsBody : Stmt → List Stmt
  | .ClassDef _ _ _ b .. => b
  | _ => []
def methBody (i : Nat) : List Stmt := fnBody ((clsBody (stAt 3)).getD i (.Pass default))
abbrev pushNm : List Str := [Str.ofString "self", Str.ofString "fws", Str.ofString "string"]
theorem push_walk {W : Wd} {K : Frag} {n : Nat} {env : Env} {A : Around} {os : List AO} {K' : AFlow → St → Prop} (O : WdOk W) (Y : AccCls W K) (Z : EvOk ⟨env, pushNm, [], [], A, os.length⟩ n) {k dk : Nat} {xs : List AV} {i : Int} {a b : AV}
    (hacc : IsAcc os k xs dk i) (hap : MethIs W K (Str.ofString "append") (.builtin "list.append")) (hl : xs.length ≤ 1000000)
    (h : ∀ fr, K' .next ⟨fr, [], os.set k (.acc (xs ++ [.tup [a, b]]) dk)⟩) : EX W ⟨env, pushNm, [], [], A, os.length⟩ (methBody 1) ⟨[some (.obj k), some a, some b], [], os⟩ K' := by
  conv => arg 3; whnf
  walk_at "evs"
  refine X_expr Z (E_meth O Z Y hap keep_builtin ?_ (by rfl) (by rfl) (by intro _; rfl)) (by rfl)
  walk_at "evs"
  refine ⟨k, xs, dk, i, rfl, hacc, ?_⟩
  walk_at "evs"
  refine V_append O Y hacc.1 hacc.2 hl ?_
  walk_at "evs"
  exact h _

theorem wd_lk : typeLookup (.type "wrapper_descriptor") "__get__" = pure (some (.builtin "wrapper_descriptor.__get__")) := slot_wd_get.lookup
theorem md_lk : typeLookup (.type "method_descriptor") "__get__" = pure (some (.builtin "method_descriptor.__get__")) := slot_md_get.lookup
theorem count_walk {W : Wd} {K : Frag} {n : Nat} {fd : FuncData} {f L : Addr} {A : Around} {os : List AO} {K' : AFlow → St → Prop} (O : WdOk W) (Y : AccCls W K) (Z : EvOk (fnEv fd f L [Str.ofString "self"] [] A os.length) n) {cda cc : Addr}
    (Su : SupOk W K (fnEv fd f L [Str.ofString "self"] [] A os.length) f cda cc) {k dk : Nat} {xs : List AV} {i : Int} {body : List Stmt}
    (hacc : IsAcc os k xs dk i) (hf : ks_superIn K W.C W.C (Str.ofString "__len__") = some (some (.builtin "list.__len__")))
    (h : ∀ fr, K' (.ret (.int xs.length)) ⟨fr, [], os⟩) : SXat W (fnEv fd f L [Str.ofString "self"] [] A os.length) (.func body (fnEnv fd f L)) (execs (methBody 8) (fnEnv fd f L)) ⟨[some (.obj k)], [], os⟩ K' := by
  conv => arg 4; arg 1; whnf
  refine XA_cons (Γ := fnEv fd f L [Str.ofString "self"] [] A os.length) (XA_ret (Γ := fnEv fd f L [Str.ofString "self"] [] A os.length) ?_)
  refine E_super O Z Y Su (B := "method-wrapper") (by walk_at "at") hacc (by decide) hf ty_len wd_lk (.inr rfl) (fun hx hT hq => wd_get (.inl rfl) hx hT hq) ?_ (by rfl)
  exact bound_len O hacc (h _)
theorem pop_walk {W : Wd} {K : Frag} {n : Nat} {fd : FuncData} {f L : Addr} {A : Around} {os : List AO} {K' : AFlow → St → Prop} (O : WdOk W) (Y : AccCls W K) (Z : EvOk (fnEv fd f L [Str.ofString "self"] [] A os.length) n) {cda cc : Addr}
    (Su : SupOk W K (fnEv fd f L [Str.ofString "self"] [] A os.length) f cda cc) {k dk : Nat} {xs : List AV} {i : Int} {body : List Stmt} {pc : Value}
    (hacc : IsAcc os k xs dk i) (hf : ks_superIn K W.C W.C (Str.ofString "pop") = some (some (.builtin "list.pop"))) (hl : xs.length ≤ 1000000)
    (hpc : MethIs W K (Str.ofString "part_count") pc) (kpc : KeepOk W pc) (cpc : ∀ K' : AV → List AO → Prop, K' (.int xs.length) os → CallV W n pc [.obj k] os K')
    (h0 : xs = [] → ∀ fr, K' (.ret (.tup [.str [], .str []])) ⟨fr, [], os⟩) (h1 : ∀ ys a, xs = ys ++ [a] → ∀ fr, K' (.ret a) ⟨fr, [], os.set k (.acc ys dk)⟩) :
    SXat W (fnEv fd f L [Str.ofString "self"] [] A os.length) (.func body (fnEnv fd f L)) (execs (methBody 3) (fnEnv fd f L)) ⟨[some (.obj k)], [], os⟩ K' := by
  conv => arg 4; arg 1; whnf
  refine XA_cons (Γ := fnEv fd f L [Str.ofString "self"] [] A os.length) (XA_of ?_)
  refine X_if (T_cmp Z (E_meth O Z Y hpc kpc ?_ (by rfl) (by rfl) (by intro _; rfl)) (by with_unfolding_all rfl))
  walk_at "evs"
  refine ⟨k, xs, dk, i, rfl, hacc, ?_⟩
  walk_at "evs"
  refine cpc _ ?_
  walk_at "evs"
  refine bsel_dec (fun e => ?_) (fun e => ?_)
  · have hx : xs = [] := by cases xs with | nil => rfl | cons _ _ => simp at e; omega
    walk_at "evs"
    exact h0 hx _
  · have hx : ∃ ys a, xs = ys ++ [a] := by
      rcases List.eq_nil_or_concat xs with rfl | ⟨ys, a, rfl⟩
      · simp at e
      · exact ⟨ys, a, by simp⟩
    obtain ⟨ys, a, rfl⟩ := hx
    refine X_nil ?_
    refine XA_cons (Γ := fnEv fd f L [Str.ofString "self"] [] A os.length) (XA_ret (Γ := fnEv fd f L [Str.ofString "self"] [] A os.length) ?_)
    refine E_super O Z Y Su (B := "builtin_function_or_method") (by walk_at "at") hacc (by decide) hf ty_pop md_lk (.inl rfl) (fun hx hT hq => md_get hx hT hq) ?_ (by rfl)
    exact bound_pop O Y hacc (by simp at hl; omega) (h1 ys a rfl _)
abbrev initNm : List Str := [Str.ofString "self", Str.ofString "initial_size"]
theorem init_walk {W : Wd} {K : Frag} {n : Nat} {fd : FuncData} {f L : Addr} {A : Around} {os : List AO} {K' : AFlow → St → Prop} (O : WdOk W) (Y : AccCls W K) (Z : EvOk (fnEv fd f L initNm [] A os.length) n) {cda cc : Addr}
    (Su : SupOk W K (fnEv fd f L initNm [] A os.length) f cda cc) {cd : ClassData} (hc : clsIn K W.C = some cd) (hmro : cd.mro = [.ref W.C, .type "list", .type "object"]) (hdict : cd.hasDict = true)
    (hs : findIn K (.ref W.C) "__setattr__" = some (some (.builtin "object.__setattr__"))) (hn : findIn K (.ref W.C) sizeN = some none) {k dk : Nat} {i : Int} {body : List Stmt}
    (hk : os[k]? = some (.acc [] dk)) (hd : os[dk]? = some .edict) (hkd : k ≠ dk) (hf : ks_superIn K W.C W.C (Str.ofString "__init__") = some (some (.builtin "list.__init__")))
    (h : ∀ fr, K' .next ⟨fr, [], os.set dk (.idict i)⟩) : SXat W (fnEv fd f L initNm [] A os.length) (.func body (fnEnv fd f L)) (execs (methBody 0) (fnEnv fd f L)) ⟨[some (.obj k), some (.int i)], [], os⟩ K' := by
  conv => arg 4; arg 1; whnf
  refine XA_cons (Γ := fnEv fd f L initNm [] A os.length) (XA_of ?_)
  refine X_setsize O Z Y hc hmro hdict hs hn ?_ (by rfl)
  walk_at "evs"
  refine ⟨k, dk, [], rfl, hk, hd, ?_⟩
  have hdl := (List.getElem?_eq_some_iff.mp hd).1
  have hacc : IsAcc (os.set dk (.idict i)) k [] dk i := ⟨by rw [List.getElem?_set_ne (Ne.symm hkd)]; exact hk, by rw [List.getElem?_set_self hdl]⟩
  refine XA_cons (Γ := fnEv fd f L initNm [] A os.length) (XA_expr Z ?_ (by rfl))
  refine E_super O Z Y Su (B := "method-wrapper") (by walk_at "at") hacc (by decide) hf ty_init wd_lk (.inr rfl) (fun hx hT hq => wd_get (.inr rfl) hx hT hq) ?_ (by rfl)
  exact bound_init O hacc (XA_nil (h _))

abbrev strGn : List Str := [Str.ofString "EMPTYSTRING"]
theorem str_walk {W : Wd} {K : Frag} {n : Nat} {fd : FuncData} {f L : Addr} {A : Around} {os : List AO} {K' : AFlow → St → Prop} (O : WdOk W) (Y : AccCls W K) (Z : EvOk (fnEv fd f L [Str.ofString "self"] strGn A os.length) n) {cS : Addr} {j kt : Nat}
    (G : GenOk W (fnEv fd f L [Str.ofString "self"] strGn A os.length) cS j) (hkt : os[kt]? = some (.tab j)) {k dk : Nat} {ps : List (List Nat × List Nat)} {i : Int} {t : Tok}
    (hacc : IsAcc os k (ps.map pairAV) dk i) (hit : findIn K (.ref W.C) "__iter__" = some (some (.builtin "list.__iter__"))) (hg : GlobIs W (Str.ofString "EMPTYSTRING") (.str (S []) t))
    (hl : ps.length ≤ 1000) (hls : ∀ p ∈ ps, p.1.length ≤ 400 ∧ p.2.length ≤ 400)
    (h : ∀ fr, K' (.ret (.str (ps.map fun p => p.1 ++ p.2).flatten)) ⟨fr, [], os⟩) : EX W (fnEv fd f L [Str.ofString "self"] strGn A os.length) (methBody 5) ⟨[some (.obj k)], [], os⟩ K' := by
  conv => arg 3; whnf
  walk_at "evs"
  refine E_joingen O Z Y G hkt hacc (by walk_at "at") hit (by walk_at "mem") hg (by rfl) (by rfl) hl hls (by rfl) (by rfl) (by decide) (by rfl) (by rfl) (by rfl) (by decide) (by rfl) (by intro _; rfl) (by rfl) (by decide) (by decide) (by decide) ?_ (by rfl)
  exact h _

end

section
open PySem PySem.W PyProof.Rows
set_option Elab.async false
set_option maxRecDepth 100000
set_option linter.unusedVariables false
set_option maxHeartbeats 8000000

/-! ## what the law reckons -/
def num03 (xs : List Int) : Int := xs.foldl (fun n x => (5 * n + x).fmod 16777216) 186502
def stp (n : Nat) : List Nat := (digs n).flatMap fun d => [d / 4, d % 4]
def wlk (n : Nat) : List Nat := (stp n).map letr
abbrev lawNm : List Str := [Str.ofString "script", Str.ofString "number", Str.ofString "x", Str.ofString "walk", Str.ofString "letter", Str.ofString "figure", Str.ofString "steps", Str.ofString "pile", Str.ofString "p", Str.ofString "q", Str.ofString "r", Str.ofString "s", Str.ofString "step", Str.ofString "lead", Str.ofString "top", Str.ofString "left", Str.ofString "price"]
abbrev lawGn : List Str := [Str.ofString "Int2AP", Str.ofString "ord", Str.ofString "_Accumulator", Str.ofString "len", Str.ofString "_law_step", Str.ofString "_law_read", Str.ofString "_levenshtein_distance", Str.ofString "str"]
abbrev lawEv (env : Env) (A : Around) (p : Nat) : Ev := ⟨env, lawNm, [], lawGn, A, p⟩
def lawBody : List Stmt := fnBody (stAt 15)
theorem num_range (xs : List Int) : 0 ≤ num03 xs ∧ num03 xs < 16777216 := by
  unfold num03
  have : ∀ (xs : List Int) (n : Int), (0 ≤ n ∧ n < 16777216) → 0 ≤ xs.foldl (fun n x => (5 * n + x).fmod 16777216) n ∧ xs.foldl (fun n x => (5 * n + x).fmod 16777216) n < 16777216 := by
    intro xs
    induction xs with
    | nil => intro n h; exact h
    | cons x xs ih =>
      intro n h
      refine ih _ ?_
      show 0 ≤ (5 * n + x).fmod 16777216 ∧ (5 * n + x).fmod 16777216 < 16777216
      rw [Int.fmod_eq_emod_of_nonneg _ (by decide)]
      exact ⟨Int.emod_nonneg _ (by decide), Int.emod_lt_of_pos _ (by decide)⟩
  exact this xs _ (by decide)
theorem law0 {W : Wd} {n : Nat} {env : Env} {A : Around} {p : Nat} {os : List AO} {K : AFlow → St → Prop} {xs : List Int} {sk : Nat} (O : WdOk W) (Z : EvOk (lawEv env A p) n)
    (hs : os[sk]? = some (.frz (xs.map AV.int)))
    (h : ∀ o2, EX W (lawEv env A p) (lawBody.drop 2) ⟨[some (.obj sk), some (.int (num03 xs)), o2, none, none, none, none, none, none, none, none, none, none, none, none, none, none], [], os⟩ K) :
    EX W (lawEv env A p) lawBody ⟨[some (.obj sk), none, none, none, none, none, none, none, none, none, none, none, none, none, none, none, none], [], os⟩ K := by
  conv => arg 3; whnf
  conv at h => intro o2; arg 3; whnf
  walk_at "evs"
  refine X_for_frz O Z ?_ (by intro _; rfl) (by intro _ _; rfl)
  walk_at "evs"
  refine ⟨sk, xs.map AV.int, rfl, hs, ?_⟩
  have Z' := Z.prot (m := sk + 1)
  refine ForG_inv (fun i σ => ∃ o2, σ = ⟨[some (.obj sk), some (.int (num03 (xs.take i))), o2, none, none, none, none, none, none, none, none, none, none, none, none, none, none], [], os⟩) ⟨none, rfl⟩ ?_ ?_
  · rintro j y σ hy ⟨o2, rfl⟩
    have hj : j < xs.length := by have := (List.getElem?_eq_some_iff.mp hy).1; simpa using this
    have hy' : y = .int xs[j] := by simp [hj] at hy; exact hy.symm
    subst hy'
    walk_at "evs"
    refine forK_next hs ⟨some (.int xs[j]), ?_⟩
    have e : num03 (xs.take (j + 1)) = (5 * num03 (xs.take j) + xs[j]).fmod 16777216 := by
      unfold num03
      rw [List.take_succ_eq_append_getElem hj, List.foldl_append]
      rfl
    rw [e]
    rfl
  · rintro σ ⟨o2, rfl⟩
    rw [List.length_map, List.take_length]
    exact seqK_next (h o2)

theorem digs_lt (N : Nat) : ∀ d ∈ digs N, d < 16 := by
  induction N using Nat.strongRecOn with
  | ind N ih =>
    intro d hd
    rw [digs] at hd
    split at hd
    · cases hd
    · rcases List.mem_append.mp hd with h | h
      · exact ih _ (by omega) d h
      · rw [List.mem_singleton.mp h]; exact Nat.mod_lt _ (by decide)
theorem letr_get {k : Nat} (h : k < 4) : ([97, 65, 98, 66] : List Nat)[k]? = some (letr k) := by
  rcases (by omega : k = 0 ∨ k = 1 ∨ k = 2 ∨ k = 3) with rfl | rfl | rfl | rfl <;> rfl
theorem ap_nat {d : Nat} (h : d < 16) : (apB d).toNat = 65 + d := by
  revert d; decide
def wlkD (ds : List Nat) : List Nat := (ds.flatMap fun d => [d / 4, d % 4]).map letr
theorem wlkD_len (ds : List Nat) : (wlkD ds).length = 2 * ds.length := by
  simp only [wlkD, List.length_map]
  induction ds with
  | nil => rfl
  | cons d ds ih => simp [List.flatMap_cons, ih]; omega
theorem digs_len6 {N : Nat} (h : N < 16777216) : (digs N).length ≤ 6 := digs_len (by have : (16 : Nat) ^ 6 = 16777216 := by decide
                                                                                     omega)
theorem law1 {W : Wd} {n : Nat} {env : Env} {A : Around} {p : Nat} {os : List AO} {K : AFlow → St → Prop} {N sk : Nat} {o2 : Option AV} (O : WdOk W) (Z : EvOk (lawEv env A p) n)
    (hN : N < 16777216) (hord : W.mg (Str.ofString "ord") = none) {fAP : Value} (gAP : GlobIs W (Str.ofString "Int2AP") fAP) (kAP : KeepOk W fAP) (cAP : ∀ (i : Int) os K, i.natAbs < 2 ^ 60 → K (.bytes (apL i.natAbs)) os → CallV W n fAP [.int i] os K)
    (h : ∀ o5 o6, EX W (lawEv env A p) (lawBody.drop 4) ⟨[some (.obj sk), some (.int N), o2, some (.str (wlk N)), o5, o6, none, none, none, none, none, none, none, none, none, none, none], [], os⟩ K) :
    EX W (lawEv env A p) (lawBody.drop 2) ⟨[some (.obj sk), some (.int N), o2, none, none, none, none, none, none, none, none, none, none, none, none, none, none], [], os⟩ K := by
  conv => arg 3; whnf
  conv at h => intro o5 o6; arg 3; whnf
  walk_at "evs"
  refine X_for_str O Z ?_ (by intro _; rfl) (by intro _ _; rfl)
  refine E_decode O Z (E_call O Z (by walk_at "mem") gAP kAP ?_ (by intro _; rfl)) (by rfl) (by rfl) (by rfl)
  walk_at "evs"
  refine cAP _ _ _ (by omega) ?_
  have e0 : (-(N : Int)).natAbs = N := by omega
  rw [e0]
  have hap : ∀ x ∈ apL N, x.toNat < 128 := by
    intro x hx
    obtain ⟨d, hd, rfl⟩ := List.mem_map.mp hx
    have := digs_lt N d hd
    rw [ap_nat this]; omega
  have hl6 := digs_len6 hN
  refine ⟨apL N, rfl, hap, by simp [apL]; omega, ?_⟩
  refine ⟨_, rfl, ?_, ?_⟩
  · intro c hc
    obtain ⟨x, hx, rfl⟩ := List.mem_map.mp hc
    exact hap x hx
  have e1 : (apL N).map UInt8.toNat = (digs N).map fun d => 65 + d := by
    rw [apL, List.map_map]
    exact List.map_congr_left fun d hd => ap_nat (digs_lt N d hd)
  rw [e1]
  refine ForG_inv (fun i σ => ∃ o5 o6, σ = ⟨[some (.obj sk), some (.int N), o2, some (.str (wlkD ((digs N).take i))), o5, o6, none, none, none, none, none, none, none, none, none, none, none], [], os⟩) ⟨none, none, rfl⟩ ?_ ?_
  · rintro j y σ hy ⟨o5, o6, rfl⟩
    have hj : j < (digs N).length := by have := (List.getElem?_eq_some_iff.mp hy).1; simpa using this
    have hy' : y = .str [65 + (digs N)[j]] := by simp [hj] at hy; exact hy.symm
    subst hy'
    have hd := digs_lt N (digs N)[j] (List.getElem_mem hj)
    have e : wlkD ((digs N).take (j + 1)) = wlkD ((digs N).take j) ++ ([letr ((digs N)[j] / 4)] ++ [letr ((digs N)[j] % 4)]) := by
      simp only [wlkD]
      rw [List.take_succ_eq_append_getElem hj, List.flatMap_append, List.map_append]
      rfl
    have hwl : (wlkD ((digs N).take j)).length ≤ 12 := by rw [wlkD_len, List.length_take]; omega
    rw [e]
    generalize (digs N)[j] = d at *
    walk_at "evs"
    have e2 : ((65 + d : Nat) : Int) - 65 = (d : Int) := by omega
    rw [e2]
    have e3 : (d : Int).fdiv 4 = ((d / 4 : Nat) : Int) := by rw [Int.fdiv_eq_ediv_of_nonneg _ (by decide)]; omega
    have e4 : (d : Int).fmod 4 = ((d % 4 : Nat) : Int) := by rw [Int.fmod_eq_emod_of_nonneg _ (by decide)]; omega
    rw [e3]
    refine It_str O (.inl rfl) (letr_get (by omega)) (by decide) ?_
    walk_at "evs"
    rw [e4]
    refine It_str O (.inl rfl) (letr_get (by omega)) (by decide) ?_
    walk_at "evs"
    refine B_cat O (by simp) ?_
    walk_at "evs"
    refine I_cat O (by simp; omega) ?_
    walk_at "evs"
    exact forK_next trivial ⟨_, _, rfl⟩
  · rintro σ ⟨o5, o6, rfl⟩
    rw [List.length_map, List.length_map, List.take_length]
    exact seqK_next (h o5 o6)

end

section
open PySem PySem.W PyProof.Rows
set_option Elab.async false
set_option maxRecDepth 100000
set_option linter.unusedVariables false
set_option maxHeartbeats 8000000

abbrev intsOf (l : List Nat) : List AV := l.map fun c => .int (c : Nat)
def Ext (os os' : List AO) : Prop := ∀ (i : Nat) (a : AO), os[i]? = some a → os'[i]? = some a
theorem Ext.refl (os : List AO) : Ext os os := fun _ _ e => e
theorem Ext.push {os os' : List AO} (x : Ext os os') (l : List AO) : Ext os (os' ++ l) := fun i a e => by rw [List.getElem?_append_left (List.getElem?_eq_some_iff.mp (x i a e)).1]; exact x i a e
theorem get_left {os : List AO} {i : Nat} {a : AO} (l : List AO) (e : os[i]? = some a) : (os ++ l)[i]? = some a := by rw [List.getElem?_append_left (List.getElem?_eq_some_iff.mp e).1]; exact e
theorem stp_lt (N : Nat) : ∀ k ∈ stp N, k < 4 := by
  intro k hk
  obtain ⟨d, hd, hk⟩ := List.mem_flatMap.mp hk
  have := digs_lt N d hd
  simp at hk
  omega
theorem stp_len {N : Nat} (h : N < 16777216) : (stp N).length ≤ 12 := by
  have h1 : (wlkD (digs N)).length = 2 * (digs N).length := wlkD_len _
  have h2 := digs_len6 h
  have h3 : (wlkD (digs N)).length = (stp N).length := by simp [wlkD, stp]
  omega
theorem flat_one (l : List Nat) : (l.map fun k => [letr k]).flatten = l.map letr := by
  induction l with
  | nil => rfl
  | cons a l ih => rw [List.map_cons, List.flatten_cons, ih]; rfl
theorem law2 {W : Wd} {n : Nat} {env : Env} {A : Around} {p : Nat} {os : List AO} {K : AFlow → St → Prop} {N sk : Nat} {o2 o5 o6 : Option AV} (O : WdOk W) (Z : EvOk (lawEv env A p) n) (hN : N < 16777216)
    (h : ∀ osx st, Ext os osx → osx[st]? = some (.lst (intsOf (stp N))) → EX W (lawEv env A p) (lawBody.drop 7) ⟨[some (.obj sk), some (.int 0), o2, some (.str (wlk N)), o5, o6, some (.obj st), none, none, none, none, none, none, none, none, none, none], [], osx⟩ K) :
    EX W (lawEv env A p) (lawBody.drop 4) ⟨[some (.obj sk), some (.int N), o2, some (.str (wlk N)), o5, o6, none, none, none, none, none, none, none, none, none, none, none], [], os⟩ K := by
  conv => arg 3; whnf
  conv at h => intro osx st _ _; arg 3; whnf
  have hpos : ∀ j : Nat, j ≠ 0 → digs j = digs (j / 16) ++ [j % 16] := fun j hj => by rw [digs, if_neg hj]
  have hd0 : digs 0 = [] := by rw [digs]; rfl
  have hsl := stp_len hN
  walk_at "evs"
  refine X_while ?_
  refine W_inv' (fun k σ => ∃ osx st cur, Ext os osx ∧ osx[st]? = some (.lst (intsOf cur)) ∧ stp k ++ cur = stp N ∧ σ = ⟨[some (.obj sk), some (.int (k : Nat)), o2, some (.str (wlk N)), o5, o6, some (.obj st), none, none, none, none, none, none, none, none, none, none], [], osx⟩)
    (fun σ => ∃ osx st, Ext os osx ∧ osx[st]? = some (.lst (intsOf (stp N))) ∧ σ = ⟨[some (.obj sk), some (.int 0), o2, some (.str (wlk N)), o5, o6, some (.obj st), none, none, none, none, none, none, none, none, none, none], [], osx⟩) N ⟨_, _, [], (Ext.refl os).push _, by rw [List.getElem?_append_right (Nat.le_refl _), Nat.sub_self]; rfl, by rw [List.append_nil], rfl⟩ ?_ ?_
  · rintro k σ ⟨osx, st, cur, hx, hst, hc, rfl⟩
    walk_at "evs"
    refine bsel_dec (fun e => ?_) (fun e => ?_)
    · have hk : k ≠ 0 := by omega
      have e1 : ((k : Int).fmod 16).fdiv 4 = ((k % 16 / 4 : Nat) : Int) := by rw [Int.fmod_eq_emod_of_nonneg _ (by decide), Int.fdiv_eq_ediv_of_nonneg _ (by decide)]; omega
      have e2 : (k : Int).fmod 4 = ((k % 16 % 4 : Nat) : Int) := by rw [Int.fmod_eq_emod_of_nonneg _ (by decide)]; omega
      have e3 : (k : Int).fdiv 16 = ((k / 16 : Nat) : Int) := by rw [Int.fdiv_eq_ediv_of_nonneg _ (by decide)]; omega
      have hc2 : stp (k / 16) ++ ([k % 16 / 4, k % 16 % 4] ++ cur) = stp N := by
        rw [← hc, stp, stp, hpos k hk, List.flatMap_append]
        simp
      have hl2 : (stp (k / 16) ++ ([k % 16 / 4, k % 16 % 4] ++ cur)).length ≤ 12 := by rw [hc2]; exact hsl
      walk_at "evs"
      rw [e1, e2]
      have hnew : (osx ++ [AO.lst [.int ((k % 16 / 4 : Nat) : Int), .int ((k % 16 % 4 : Nat) : Int)]])[osx.length]? = some (.lst [.int ((k % 16 / 4 : Nat) : Int), .int ((k % 16 % 4 : Nat) : Int)]) := by simp
      refine B_lcat O (k := osx.length) (xs := [.int ((k % 16 / 4 : Nat) : Int), .int ((k % 16 % 4 : Nat) : Int)]) (ys := intsOf cur) hnew (get_left _ hst) ?_ ?_
      · simp at hl2 ⊢; omega
      walk_at "evs"
      refine whileK_next ⟨k / 16, by omega, _, _, [k % 16 / 4, k % 16 % 4] ++ cur, (hx.push _).push _, ?_, hc2, by rw [e3]⟩
      simp
    · have hk : k = 0 := by omega
      subst hk
      have : cur = stp N := by rw [← hc, stp, hd0]; rfl
      subst this
      walk_at "evs"
      exact ⟨osx, st, hx, hst, rfl⟩
  · rintro σ ⟨osx, st, hx, hst, rfl⟩
    have h' := h osx st hx hst
    walk_at "evs"
    refine E_joinlst O Z (E_lcomp O Z (fun i => [letr i.toNat]) (by decide) (by decide) (by rfl) (by decide) (by rfl) ?_ (by intro _; rfl)) (by rfl) (by rfl)
    have his : intsOf (stp N) = ((stp N).map fun k => ((k : Nat) : Int)).map AV.int := by rw [List.map_map]; rfl
    rw [his] at hst
    walk_at "evs"
    refine ⟨st, (stp N).map fun k => ((k : Nat) : Int), rfl, hst, by simp; omega, ?_, ?_⟩
    · intro i hi C t s₃ m₃ E' hns hm hb
      obtain ⟨k, hk, rfl⟩ := List.mem_map.mp hi
      have hk4 := stp_lt N k hk
      refine Subscript_ (wpAny_Constant_str (wpAny_Name (wpAny_loadName_local (by rfl) (by rfl) hns hm ?_) (by decide)))
      refine sub_go (typeIs_str _ _ _) F.slot_str_getitem.lookup ⟨_, rfl⟩ ?_
      rw [lit_aAbB]
      refine PyProof.Rows.getItem_str (c := letr k) (by simp; omega) ?_ ?_
      · have : seqIndex? (k : Int) (S [97, 65, 98, 66]).length = some k := by
          rw [S_len]; simp [seqIndex?]; omega
        rw [this]
        show ([97, 65, 98, 66] : List Nat).toArray[k]? = some (letr k)
        have := letr_get hk4
        simpa using this
      · exact ⟨⟨_, rfl⟩, _, _, rfl, fun _ _ e => e⟩
    refine ⟨osx.length, (stp N).map fun k => [letr k], rfl, ?_, by simp; omega, ?_, ?_⟩
    · simp
    · intro l hl
      obtain ⟨k, hk, rfl⟩ := List.mem_map.mp hl
      simp
    rw [flat_one]
    walk_at "evs"
    refine bsel_dec (fun e => absurd rfl e) (fun e => ?_)
    refine X_nil (seqK_next ?_)
    exact h _ st (hx.push _) (get_left _ (by rw [his]; exact hst))

end

section
open PySem PySem.W PyProof.Rows
set_option Elab.async false
set_option maxRecDepth 100000
set_option linter.unusedVariables false
set_option maxHeartbeats 8000000

/-! ## the stack of the walk -/
def push1 (u : List Nat) (k : Nat) : List Nat := match u with
  | x :: t => if x = inv k then t else k :: x :: t
  | [] => [k]
def stackOf (ks : List Nat) : List Nat := ks.foldl push1 []
theorem inv_lt {k : Nat} (h : k < 4) : inv k < 4 := by unfold inv; split <;> omega
theorem red_push {u : List Nat} {k : Nat} (h : Red u) (hk : k < 4) : Red (push1 u k) := by
  cases u with
  | nil => exact hk
  | cons x t =>
    show Red (if x = inv k then t else k :: x :: t)
    split
    · exact h.tail
    · rename_i hx
      exact ⟨hk, fun e => hx (by rw [e, inv_inv]), h⟩
theorem lawStep_inv {k : Nat} (hk : k < 4) (m : M4) : lawStep k (lawStep (inv k) m) = m := by
  obtain ⟨p, q, r, s⟩ := m
  rcases (by omega : k = 0 ∨ k = 1 ∨ k = 2 ∨ k = 3) with rfl | rfl | rfl | rfl
  · show (p, q + -2 * p + 2 * p, r, s + -2 * r + 2 * r) = _
    refine Prod.ext ?_ (Prod.ext ?_ (Prod.ext ?_ ?_)) <;> simp only <;> omega
  · show (p, q + 2 * p + -2 * p, r, s + 2 * r + -2 * r) = _
    refine Prod.ext ?_ (Prod.ext ?_ (Prod.ext ?_ ?_)) <;> simp only <;> omega
  · show (p + -2 * q + 2 * q, q, r + -2 * s + 2 * s, s) = _
    refine Prod.ext ?_ (Prod.ext ?_ (Prod.ext ?_ ?_)) <;> simp only <;> omega
  · show (p + 2 * q + -2 * q, q, r + 2 * s + -2 * s, s) = _
    refine Prod.ext ?_ (Prod.ext ?_ (Prod.ext ?_ ?_)) <;> simp only <;> omega
theorem mat_push {u : List Nat} {k : Nat} (hk : k < 4) : matR (push1 u k) = lawStep k (matR u) := by
  cases u with
  | nil => rfl
  | cons x t =>
    show matR (if x = inv k then t else k :: x :: t) = lawStep k (lawStep x (matR t))
    split
    · rename_i hx
      rw [hx, lawStep_inv hk]
    · rfl
theorem push_len (u : List Nat) (k : Nat) : (push1 u k).length ≤ u.length + 1 := by
  cases u with
  | nil => simp [push1]
  | cons x t =>
    show (if x = inv k then t else k :: x :: t).length ≤ _
    split
    · simp only [List.length_cons]; omega
    · simp
theorem stack_take {ks : List Nat} {j : Nat} (hj : j < ks.length) : stackOf (ks.take (j + 1)) = push1 (stackOf (ks.take j)) ks[j] := by
  unfold stackOf
  rw [List.take_succ_eq_append_getElem hj, List.foldl_append]
  rfl
theorem stack_red : ∀ {ks : List Nat}, (∀ k ∈ ks, k < 4) → Red (stackOf ks) := by
  have key : ∀ (ks u : List Nat), Red u → (∀ k ∈ ks, k < 4) → Red (ks.foldl push1 u) := by
    intro ks
    induction ks with
    | nil => intro u h _; exact h
    | cons k ks ih => intro u h hk; exact ih _ (red_push h (hk k (.head _))) fun x hx => hk x (.tail _ hx)
  exact fun {ks} h => key ks [] trivial h
theorem stack_len : ∀ ks : List Nat, (stackOf ks).length ≤ ks.length := by
  have key : ∀ (ks u : List Nat), (ks.foldl push1 u).length ≤ u.length + ks.length := by
    intro ks
    induction ks with
    | nil => intro u; simp
    | cons k ks ih => intro u; have := ih (push1 u k); have := push_len u k; simp at *; omega
  intro ks
  have := key ks []
  simpa [stackOf] using this
def lead (k : Nat) : List Nat := List.replicate (k / 2) 32
def pr (k : Nat) : List Nat × List Nat := (lead k, [letr k])
theorem letr_inj {a b : Nat} (ha : a < 4) (hb : b < 4) (h : letr a = letr b) : a = b := by
  revert h; revert hb; revert ha
  rcases Nat.lt_or_ge a 4 with h1 | h1
  · rcases Nat.lt_or_ge b 4 with h2 | h2
    · have : ∀ a, a < 4 → ∀ b, b < 4 → letr a = letr b → a = b := by decide
      intro _ _ h; exact this a h1 b h2 h
    · intro _ h; omega
  · intro h; omega
theorem lead_inv {k : Nat} : lead (inv k) = lead k := by
  unfold lead inv; split <;> congr 1 <;> omega
theorem letr_small (k : Nat) : letr k < 128 := by
  unfold letr
  rcases (by omega : k = 0 ∨ k = 1 ∨ k = 2 ∨ k = 3 ∨ 4 ≤ k) with rfl | rfl | rfl | rfl | h
  · decide
  · decide
  · decide
  · decide
  · have e : ([97, 65, 98, 66] : List Nat)[k]? = none := by simp; omega
    rw [List.getD_eq_getElem?_getD, e]; decide
theorem strOk_small {l : List Nat} (h : ∀ c ∈ l, c < 128) : PyData.strOk (S l) = true := by
  show (l.toArray.all fun x => decide (x < 0x110000)) = true
  rw [List.all_toArray, List.all_eq_true]
  intro c hc
  exact decide_eq_true (by have := h c hc; omega)
theorem lead_small {k : Nat} : ∀ c ∈ lead k, c < 128 := fun c hc => by rw [(List.mem_replicate.mp hc).2]; decide
/-- what lies on the pile, read by str, and the word with blanks ahead of b and B -/
theorem pile_text (u : List Nat) (h : ∀ k ∈ u, k < 4) : ((u.reverse.map pr).map fun p => p.1 ++ p.2).flatten = rep1 66 [32, 66] (rep1 98 [32, 98] (txt u)) := by
  unfold txt
  have hr : ∀ k ∈ u.reverse, k < 4 := fun k hk => h k (List.mem_reverse.mp hk)
  generalize u.reverse = v at hr
  induction v with
  | nil => rfl
  | cons k v ih =>
    have ih' := ih fun x hx => hr x (.tail _ hx)
    have hk := hr k (.head _)
    simp only [List.map_cons, List.flatten_cons]
    rw [ih', show letr k :: v.map letr = [letr k] ++ v.map letr from rfl, rep1_append, rep1_append]
    congr 1
    rcases (by omega : k = 0 ∨ k = 1 ∨ k = 2 ∨ k = 3) with rfl | rfl | rfl | rfl <;> rfl
theorem rep1_len (c : Nat) (z l : List Nat) (hz : z.length ≤ 2) : (rep1 c z l).length ≤ 2 * l.length := by
  induction l with
  | nil => simp [rep1]
  | cons a l ih =>
    have : rep1 c z (a :: l) = (if a = c then z else [a]) ++ rep1 c z l := rfl
    rw [this, List.length_append]
    have : (if a = c then z else [a]).length ≤ 2 := by
      split
      · exact hz
      · simp
    simp only [List.length_cons]; omega

end

section
open PySem PySem.W PyProof.Rows
set_option Elab.async false
set_option maxRecDepth 100000
set_option linter.unusedVariables false
set_option maxHeartbeats 16000000

def okCh (c : Nat) : Prop := c = 97 ∨ c = 65 ∨ c = 98 ∨ c = 66
/-- what the called ones do -/
structure Con (W : Wd) (K : Frag) (n kt : Nat) (fNew fPop fPush fStep fRead fLev : Value) : Prop where
  gNew : GlobIs W (Str.ofString "_Accumulator") fNew
  kNew : KeepOk W fNew
  new : ∀ (i : Int) os K', K' (.obj (os.length + 1)) (os ++ [.idict i, .acc [] os.length]) → CallV W n fNew [.int i] os K'
  mPop : MethIs W K (Str.ofString "pop") fPop
  kPop : KeepOk W fPop
  pop : ∀ os k xs dk i K', IsAcc os k xs dk i → xs.length ≤ 1000 → (xs = [] → K' (.tup [.str [], .str []]) os) → (∀ ys a, xs = ys ++ [a] → K' a (os.set k (.acc ys dk))) → CallV W n fPop [.obj k] os K'
  mPush : MethIs W K (Str.ofString "push") fPush
  kPush : KeepOk W fPush
  push : ∀ os k xs dk i a b K', IsAcc os k xs dk i → xs.length ≤ 1000 → K' .none (os.set k (.acc (xs ++ [.tup [a, b]]) dk)) → CallV W n fPush [.obj k, a, b] os K'
  gStr : W.mg (Str.ofString "str") = none
  str : ∀ os k (ps : List (List Nat × List Nat)) dk i K', os[kt]? = some (.tab 0) → IsAcc os k (ps.map pairAV) dk i → ps.length ≤ 100 → (∀ p ∈ ps, p.1.length ≤ 400 ∧ p.2.length ≤ 400) → K' (.str (ps.map fun p => p.1 ++ p.2).flatten) os → CallV W n (.type "str") [.obj k] os K'
  gStep : GlobIs W (Str.ofString "_law_step") fStep
  kStep : KeepOk W fStep
  step : ∀ os (k : Nat) (p q r s : Int) K', K' (tupOf (lawStep k (p, q, r, s))) os → CallV W n fStep [.int k, .int p, .int q, .int r, .int s] os K'
  gRead : GlobIs W (Str.ofString "_law_read") fRead
  kRead : KeepOk W fRead
  read : ∀ os u (p q r s : Int) K', Red u → matR u = (p, q, r, s) → u.length ≤ 16 → K' (.str (txt u)) os → CallVT W n fRead [.int p, .int q, .int r, .int s] os K'
  gLev : GlobIs W (Str.ofString "_levenshtein_distance") fLev
  kLev : KeepOk W fLev
  lev : ∀ os a b (m : Int) K', a.length ≤ 100 → b.length ≤ 100 → (∀ c ∈ a, okCh c) → (∀ c ∈ b, okCh c) → K' (.int (levP a b m)) os → CallV W n fLev [.str a, .str b, .int m] os K'
def forBody : Stmt → List Stmt
  | .For _ _ b .. => b
  | _ => []
def loopBody : List Stmt := forBody (lawBody.getD 9 (.Pass default))
theorem gl_str {W : Wd} (h : W.mg (Str.ofString "str") = none) : GlobIs W (Str.ofString "str") (.type "str") := .boot h (by decide +kernel) (by decide +kernel)
theorem acc_set {os : List AO} {k dk : Nat} {xs : List AV} {i : Int} (h : IsAcc os k xs dk i) (hk : k ≠ dk) (ys : List AV) : IsAcc (os.set k (.acc ys dk)) k ys dk i :=
  ⟨List.getElem?_set_self (List.getElem?_eq_some_iff.mp h.1).1, by rw [List.getElem?_set_ne hk]; exact h.2⟩
theorem set_other {os : List AO} {k j : Nat} {a b : AO} (h : os[j]? = some b) (hk : k ≠ j) : (os.set k a)[j]? = some b := by rw [List.getElem?_set_ne hk]; exact h
theorem law3t {W : Wd} {Kf : Frag} {n kt : Nat} {env : Env} {A : Around} {p : Nat} {K : AFlow → St → Prop} {N sk st pk dk k : Nat} {i0 P Q R S : Int} {o2 o5 o6 o9 o13 : Option AV} {osx : List AO} {u : List Nat} {fNew fPop fPush fStep fRead fLev : Value} (O : WdOk W) (Z : EvOk (lawEv env A p) n) (Y : AccCls W Kf) (C : Con W Kf n kt fNew fPop fPush fStep fRead fLev)
    (hkt : osx[kt]? = some (.tab 0)) (hk4 : k < 4) (hr : Red (push1 u k)) (hul : u.length ≤ 12) (hm : matR u = (P, Q, R, S)) (hu4 : ∀ x ∈ push1 u k, x < 4)
    (hacc : IsAcc osx pk (((push1 u k).reverse.map pr).map pairAV) dk i0)
    (h : ∀ (P Q R S : Int), matR (push1 u k) = (P, Q, R, S) → K .next ⟨[some (.obj sk), some (.int 0), o2, some (.str (wlk N)), o5, o6, some (.obj st), some (.obj pk), some (.int P), some (.int Q), some (.int R), some (.int S), some (.int (k : Nat)), o9, o13, none, none], [], osx⟩) :
    EX W (lawEv env A p) (loopBody.drop 3) ⟨[some (.obj sk), some (.int 0), o2, some (.str (wlk N)), o5, o6, some (.obj st), some (.obj pk), some (.int P), some (.int Q), some (.int R), some (.int S), some (.int (k : Nat)), o9, o13, none, none], [], osx⟩ K := by
  conv => arg 3; whnf
  have hm' : lawStep k (P, Q, R, S) = matR (push1 u k) := by rw [mat_push hk4, hm]
  have hl' := push_len u k
  generalize push1 u k = v at *
  refine X_cons (X_assignT ?_ (by with_unfolding_all rfl) (by with_unfolding_all rfl))
  refine E_call O Z (by walk_at "mem") C.gStep C.kStep ?_ (by intro _; rfl)
  walk_at "evs"
  refine C.step _ _ _ _ _ _ _ ?_
  rw [hm']
  obtain ⟨⟨P', Q', R', S'⟩, hmv⟩ : ∃ m, matR v = m := ⟨_, rfl⟩
  rw [hmv] at hm' ⊢
  show AS _ _ _ (AV.tup [.int P', .int Q', .int R', .int S']) _ _
  walk_at "evs"
  refine E_call O Z (by walk_at "mem") (gl_str C.gStr) keep_type ?_ (by intro _; rfl)
  walk_at "evs"
  refine C.str _ _ _ _ _ _ hkt hacc (by simp; omega) ?_ ?_
  · intro p hp
    obtain ⟨x, hx, rfl⟩ := List.mem_map.mp hp
    have := hu4 x (List.mem_reverse.mp hx)
    simp [pr, lead]; omega
  refine (E_replace O Z lit_B lit_spB (by decide +kernel) (by decide) (E_replace O Z lit_b lit_spb (by decide +kernel) (by decide) (E_callT O Z (by walk_at "mem") C.gRead C.kRead ?_ (by intro _; rfl)) (by rfl) (by rfl) (by rfl)) (by rfl) (by rfl) (by rfl)).ev
  walk_at "evs"
  refine C.read _ v _ _ _ _ _ hr hmv (by omega) ?_
  have hl1 := rep1_len 98 [32, 98] (txt v) (by decide)
  have hl0 : (txt v).length = v.length := by simp [txt]
  refine ⟨_, _, rfl, by omega, replace_S _ _ _, ?_⟩
  refine ⟨_, _, rfl, by omega, replace_S _ _ _, ?_⟩
  rw [pile_text v hu4]
  walk_at "evs"
  refine bsel_dec (fun e => absurd rfl e) (fun e => ?_)
  walk_at "evs"
  exact h _ _ _ _ hmv
theorem law3b {W : Wd} {Kf : Frag} {n kt : Nat} {env : Env} {A : Around} {p : Nat} {K : AFlow → St → Prop} {N sk st pk dk k : Nat} {i0 P Q R S : Int} {o2 o5 o6 o9 o13 : Option AV} {osx : List AO} {u : List Nat} {fNew fPop fPush fStep fRead fLev : Value} (O : WdOk W) (Z : EvOk (lawEv env A p) n) (Y : AccCls W Kf) (C : Con W Kf n kt fNew fPop fPush fStep fRead fLev) (hn : 5 ≤ n) (hne : pk ≠ kt) (hns : pk ≠ st)
    (hkt : osx[kt]? = some (.tab 0)) (hst : osx[st]? = some (.lst (intsOf (stp N)))) (hk4 : k < 4) (hr : Red u) (hul : u.length ≤ 12) (hm : matR u = (P, Q, R, S)) (hu4 : ∀ x ∈ u, x < 4) (hpd : pk ≠ dk)
    (hacc : IsAcc osx pk ((u.reverse.map pr).map pairAV) dk i0)
    (h : ∀ (P Q R S : Int) (osx' : List AO) (o9 o13 : Option AV), osx'[kt]? = some (.tab 0) → osx'[st]? = some (.lst (intsOf (stp N))) → IsAcc osx' pk (((push1 u k).reverse.map pr).map pairAV) dk i0 → matR (push1 u k) = (P, Q, R, S) →
      K .next ⟨[some (.obj sk), some (.int 0), o2, some (.str (wlk N)), o5, o6, some (.obj st), some (.obj pk), some (.int P), some (.int Q), some (.int R), some (.int S), some (.int (k : Nat)), o9, o13, none, none], [], osx'⟩) :
    EX W (lawEv env A p) loopBody ⟨[some (.obj sk), some (.int 0), o2, some (.str (wlk N)), o5, o6, some (.obj st), some (.obj pk), some (.int P), some (.int Q), some (.int R), some (.int S), some (.int (k : Nat)), o9, o13, none, none], [], osx⟩ K := by
  have tl := @law3t W Kf n kt env A p K N sk st pk dk k i0 P Q R S o2 o5 o6
  conv at tl => intro o9 o13 osx u fNew fPop fPush fStep fRead fLev O Z Y C _ _ _ _ _ _ _ _; arg 3; whnf
  conv => arg 3; whnf
  have hpr : ∀ osx', osx'[kt]? = some (AO.tab 0) → osx'[st]? = some (AO.lst (intsOf (stp N))) → IsAcc osx' pk (((push1 u k).reverse.map pr).map pairAV) dk i0 → ∀ P Q R S, matR (push1 u k) = (P, Q, R, S) → True := fun _ _ _ _ _ _ _ _ _ => trivial
  have hr' := red_push hr hk4
  have hu4' : ∀ x ∈ push1 u k, x < 4 := by
    intro x hx
    cases u with
    | nil => simp [push1] at hx; omega
    | cons y t =>
      simp only [push1] at hx
      split at hx
      · exact hu4 x (.tail _ hx)
      · rcases List.mem_cons.mp hx with rfl | hx
        · exact hk4
        · exact hu4 x hx
  have ek : ((k : Nat) : Int).fdiv 2 = ((k / 2 : Nat) : Int) := by rw [Int.fdiv_eq_ediv_of_nonneg _ (by decide)]; omega
  have hAa : ([65, 97, 66, 98] : List Nat)[k]? = some (letr (inv k)) := by
    rcases (by omega : k = 0 ∨ k = 1 ∨ k = 2 ∨ k = 3) with rfl | rfl | rfl | rfl <;> rfl
  have hlk : (lead k).length ≤ 100 := by simp [lead]; omega
  have sl : ∀ k, PyData.strOk (Mine.S (lead k)) = true := fun k => strOk_small lead_small
  have s1 : ∀ k, PyData.strOk (Mine.S [letr k]) = true := fun k => strOk_small (by intro c hc; rw [List.mem_singleton.mp hc]; exact letr_small k)
  have s0 : PyData.strOk (Mine.S []) = true := strOk_small (by simp)
  walk_at "evs"
  rw [ek]
  refine B_rep1 O (by omega) (by omega) ?_
  walk_at "evs"
  rw [show List.replicate ((k / 2 : Nat) : Int).toNat 32 = lead k from rfl]
  refine E_meth O Z Y C.mPop C.kPop ?_ (by rfl) (by rfl) (by intro _; rfl)
  walk_at "evs"
  refine ⟨pk, _, dk, i0, rfl, hacc, ?_⟩
  walk_at "evs"
  refine C.pop _ _ _ _ _ _ hacc (by simp; omega) ?_ ?_
  · intro hnil
    have hu : u = [] := by simpa using hnil
    subst hu
    walk_at "evs"
    refine It_str O (.inl rfl) hAa (by decide) ?_
    walk_at "evs"
    refine C_ne_pair O hn s0 s0 (sl k) (s1 _) ⟨_, rfl, ?_⟩
    refine bsel_dec (fun e => ?_) (fun e => absurd (by simp) e)
    walk_at "evs"
    refine C_ne_pair O hn s0 s0 s0 s0 ⟨_, rfl, ?_⟩
    refine bsel_dec (fun e => absurd rfl e) (fun e => ?_)
    walk_at "evs"
    refine X_expr Z (E_meth O Z Y C.mPush C.kPush ?_ (by rfl) (by rfl) (by intro _; rfl)) (by rfl)
    walk_at "evs"
    refine ⟨pk, _, dk, i0, rfl, hacc, ?_⟩
    walk_at "evs"
    refine It_str O (.inl rfl) (letr_get hk4) (by decide) ?_
    walk_at "evs"
    refine C.push _ _ _ _ _ _ _ _ hacc (by simp) ?_
    refine X_nil ?_
    exact tl (u := []) O Z Y C (set_other hkt hne) hk4 hr' (by simp) hm hu4' (acc_set hacc hpd _) fun P Q R S hm => h P Q R S _ _ _ (set_other hkt hne) (set_other hst hns) (acc_set hacc hpd _) hm
  · intro ys a hya
    obtain ⟨x, t, rfl⟩ : ∃ x t, u = x :: t := by
      cases u with
      | nil => simp at hya
      | cons x t => exact ⟨x, t, rfl⟩
    simp only [List.reverse_cons, List.map_append, List.map_cons, List.map_nil] at hya
    obtain ⟨rfl, ha⟩ := List.append_inj' hya rfl
    obtain rfl : pairAV (pr x) = a := by simpa using ha
    have hx4 := hu4 x (.head _)
    have hl2 : t.length ≤ 12 := by simp at hul; omega
    have hacc1 := acc_set hacc hpd ((t.reverse.map pr).map pairAV)
    have hkt1 := set_other (a := .acc ((t.reverse.map pr).map pairAV) dk) hkt hne
    have hst1 := set_other (a := .acc ((t.reverse.map pr).map pairAV) dk) hst hns
    generalize osx.set pk (.acc ((t.reverse.map pr).map pairAV) dk) = osy at *
    show ∃ _, _
    walk_at "evs"
    refine It_str O (.inl rfl) hAa (by decide) ?_
    walk_at "evs"
    refine C_ne_pair O hn (sl x) (s1 x) (sl k) (s1 _) ⟨_, rfl, ?_⟩
    refine bsel_dec (fun e => ?_) (fun e => ?_)
    · walk_at "evs"
      refine C_ne_pair O hn (sl x) (s1 x) s0 s0 ⟨_, rfl, ?_⟩
      refine bsel_dec (fun e' => ?_) (fun e' => absurd (by simp [pr]) e')
      have hp1 : push1 (x :: t) k = k :: x :: t := by
        show (if x = inv k then t else k :: x :: t) = _
        rw [if_neg]
        intro e2
        apply e
        rw [e2]
        show (lead (inv k), [letr (inv k)]) = _
        rw [lead_inv]
      have hacc2 := acc_set hacc1 hpd ((t.reverse.map pr).map pairAV ++ [pairAV (pr x)])
      have hkt2 := set_other (a := .acc ((t.reverse.map pr).map pairAV ++ [pairAV (pr x)]) dk) hkt1 hne
      have hst2 := set_other (a := .acc ((t.reverse.map pr).map pairAV ++ [pairAV (pr x)]) dk) hst1 hns
      walk_at "evs"
      refine X_expr Z (E_meth O Z Y C.mPush C.kPush ?_ (by rfl) (by rfl) (by intro _; rfl)) (by rfl)
      walk_at "evs"
      refine ⟨pk, _, dk, i0, rfl, hacc1, ?_⟩
      walk_at "evs"
      refine It_tup O (by decide) (by decide) (by rfl) ?_
      walk_at "evs"
      refine It_tup O (by decide) (by decide) (by rfl) ?_
      walk_at "evs"
      refine C.push _ _ _ _ _ _ _ _ hacc1 (by simp; omega) ?_
      rw [show AV.tup [AV.str (pr x).1, AV.str (pr x).2] = pairAV (pr x) from rfl]
      generalize osy.set pk (.acc ((t.reverse.map pr).map pairAV ++ [pairAV (pr x)]) dk) = osz at *
      walk_at "evs"
      refine X_expr Z (E_meth O Z Y C.mPush C.kPush ?_ (by rfl) (by rfl) (by intro _; rfl)) (by rfl)
      walk_at "evs"
      refine ⟨pk, _, dk, i0, rfl, hacc2, ?_⟩
      walk_at "evs"
      refine It_str O (.inl rfl) (letr_get hk4) (by decide) ?_
      walk_at "evs"
      refine C.push _ _ _ _ _ _ _ _ hacc2 (by simp; omega) ?_
      have hfin : ((t.reverse.map pr).map pairAV ++ [pairAV (pr x)]) ++ [AV.tup [AV.str (lead k), AV.str [letr k]]] = ((push1 (x :: t) k).reverse.map pr).map pairAV := by
        rw [hp1]; simp [pr]
      rw [hfin]
      refine X_nil ?_
      exact tl (u := x :: t) O Z Y C (set_other hkt2 hne) hk4 hr' hul hm hu4' (acc_set hacc2 hpd _) fun P Q R S hm => h P Q R S _ _ _ (set_other hkt2 hne) (set_other hst2 hns) (acc_set hacc2 hpd _) hm
    · have e2 : x = inv k := by
        have e3 : ((pr x).1, (pr x).2) = (lead k, [letr (inv k)]) := Decidable.not_not.mp e
        have e4 : [letr x] = [letr (inv k)] := congrArg Prod.snd e3
        exact letr_inj hx4 (inv_lt hk4) (by simpa using e4)
      have hp1 : push1 (x :: t) k = t := by
        show (if x = inv k then t else k :: x :: t) = _
        rw [if_pos e2]
      rw [← hp1] at hacc1
      refine X_nil ?_
      exact tl (u := x :: t) O Z Y C hkt1 hk4 hr' hul hm hu4' hacc1 fun P Q R S hm => h P Q R S _ _ _ hkt1 hst1 hacc1 hm
theorem red_lt : ∀ {u : List Nat}, Red u → ∀ x ∈ u, x < 4
  | [], _, x, hx => nomatch hx
  | [k], h, x, hx => by rw [List.mem_singleton.mp hx]; exact h
  | k :: y :: t, h, x, hx => by
    rcases List.mem_cons.mp hx with rfl | hx
    · exact h.1
    · exact red_lt h.tail x hx
theorem law3 {W : Wd} {Kf : Frag} {n kt : Nat} {env : Env} {A : Around} {p : Nat} {os : List AO} {K : AFlow → St → Prop} {N sk st : Nat} {o2 o5 o6 : Option AV} {fNew fPop fPush fStep fRead fLev : Value} (O : WdOk W) (Z : EvOk (lawEv env A p) n) (Y : AccCls W Kf) (C : Con W Kf n kt fNew fPop fPush fStep fRead fLev)
    (hn : 5 ≤ n) (hN : N < 16777216) (hlen : W.mg (Str.ofString "len") = none) (hkt : os[kt]? = some (.tab 0)) (hst : os[st]? = some (.lst (intsOf (stp N))))
    (h : ∀ (osx : List AO) (P Q R S : Int) (o8 o9 o13 : Option AV), osx[kt]? = some (.tab 0) → matR (stackOf (stp N)) = (P, Q, R, S) → EX W (lawEv env A p) (lawBody.drop 10) ⟨[some (.obj sk), some (.int 0), o2, some (.str (wlk N)), o5, o6, some (.obj st), some (.obj (os.length + 1)), some (.int P), some (.int Q), some (.int R), some (.int S), o8, o9, o13, none, none], [], osx⟩ K) :
    EX W (lawEv env A p) (lawBody.drop 7) ⟨[some (.obj sk), some (.int 0), o2, some (.str (wlk N)), o5, o6, some (.obj st), none, none, none, none, none, none, none, none, none, none], [], os⟩ K := by
  conv => arg 3; whnf
  conv at h => intro osx P Q R S o8 o9 o13 _ _; arg 3; whnf
  have hsl := stp_len hN
  have hs4 := stp_lt N
  walk_at "evs"
  refine E_call O Z (by walk_at "mem") C.gNew C.kNew ?_ (by intro _; rfl)
  walk_at "evs"
  refine V_len_lst O hst (by simp; omega) ?_
  walk_at "evs"
  refine C.new _ _ _ ?_
  walk_at "evs"
  refine X_for_list O Z ?_ (by intro _; rfl) (by intro _ _; rfl)
  walk_at "evs"
  refine ⟨st, intsOf (stp N), rfl, get_left _ hst, ?_⟩
  have Z' := Z.prot (m := st + 1)
  have hstl : st < os.length := (List.getElem?_eq_some_iff.mp hst).1
  have hktl : kt < os.length := (List.getElem?_eq_some_iff.mp hkt).1
  refine ForG_inv (fun i σ => ∃ osx i0, ∃ P Q R S : Int, ∃ o8 o9 o13 : Option AV, osx[kt]? = some (.tab 0) ∧ osx[st]? = some (.lst (intsOf (stp N))) ∧ IsAcc osx (os.length + 1) (((stackOf ((stp N).take i)).reverse.map pr).map pairAV) os.length i0 ∧ matR (stackOf ((stp N).take i)) = (P, Q, R, S) ∧
     σ = ⟨[some (.obj sk), some (.int 0), o2, some (.str (wlk N)), o5, o6, some (.obj st), some (.obj (os.length + 1)), some (.int P), some (.int Q), some (.int R), some (.int S), o8, o9, o13, none, none], [], osx⟩)
     ?_ ?_ ?_
  · refine ⟨os ++ [.idict (1 + ((intsOf (stp N)).length : Int).fmod 3), .acc [] os.length], 1 + ((intsOf (stp N)).length : Int).fmod 3, 1, 0, 0, 1, none, none, none, get_left _ hkt, get_left _ hst, ⟨?_, ?_⟩, rfl, rfl⟩
    · rw [List.getElem?_append_right (Nat.le_succ _)]; simp [stackOf]
    · rw [List.getElem?_append_right (Nat.le_refl _), Nat.sub_self]; rfl
  · rintro j y σ hy ⟨osx, i0, P, Q, R, S, o8, o9, o13, hkt', hst', hacc, hm, rfl⟩
    have hj : j < (stp N).length := by have := (List.getElem?_eq_some_iff.mp hy).1; simpa using this
    have hy' : y = .int ((stp N)[j] : Nat) := by simp [hj] at hy; exact hy.symm
    subst hy'
    have hk4 := hs4 (stp N)[j] (List.getElem_mem hj)
    have hst1 : stackOf ((stp N).take (j + 1)) = push1 (stackOf ((stp N).take j)) (stp N)[j] := stack_take hj
    have hul : (stackOf ((stp N).take j)).length ≤ 12 := by have := stack_len ((stp N).take j); simp at this; omega
    have hu4 : ∀ k ∈ (stp N).take j, k < 4 := fun k hk => hs4 k (List.mem_of_mem_take hk)
    have hur := stack_red hu4
    generalize (stp N)[j] = k at *
    generalize stackOf ((stp N).take j) = u at *
    refine A_local O Z' (by walk_at "put") ?_
    have hb := @law3b W Kf n kt env A (max p (st + 1))
    refine hb O Z' Y C hn (by omega) (by omega) hkt' hst' hk4 hur hul hm (red_lt hur) (by omega) hacc ?_
    · intro P Q R S osx' o9 o13 hkt hst hacc hm
      refine forK_next hst ⟨osx', i0, P, Q, R, S, some (.int (k : Nat)), o9, o13, hkt, hst, ?_, ?_, rfl⟩
      · rw [hst1]; exact hacc
      · rw [hst1]; exact hm
  · rintro σ ⟨osx, i0, P, Q, R, S, o8, o9, o13, hkt', hst', hacc, hm, rfl⟩
    have e : (intsOf (stp N)).length = (stp N).length := by simp
    rw [e, List.take_length] at hm
    exact seqK_next (h _ _ _ _ _ _ _ _ hkt' hm)

end

section
open PySem PySem.W PyProof.Rows
set_option Elab.async false
set_option maxRecDepth 100000
set_option linter.unusedVariables false
set_option maxHeartbeats 16000000

theorem letr_ok {k : Nat} (h : k < 4) : okCh (letr k) := by
  rcases (by omega : k = 0 ∨ k = 1 ∨ k = 2 ∨ k = 3) with rfl | rfl | rfl | rfl
  · exact .inl rfl
  · exact .inr (.inl rfl)
  · exact .inr (.inr (.inl rfl))
  · exact .inr (.inr (.inr rfl))
theorem law4 {W : Wd} {Kf : Frag} {n kt : Nat} {env : Env} {A : Around} {p : Nat} {os : List AO} {K : AFlow → St → Prop} {N sk st pk : Nat} {P Q R S : Int} {o2 o5 o6 o8 o9 o13 : Option AV} {fNew fPop fPush fStep fRead fLev : Value} (O : WdOk W) (Z : EvOk (lawEv env A p) n) (C : Con W Kf n kt fNew fPop fPush fStep fRead fLev)
    (hN : N < 16777216) (hlen : W.mg (Str.ofString "len") = none) (hm : matR (stackOf (stp N)) = (P, Q, R, S))
    (l1 : levP (wlk N) (txt (stackOf (stp N))) (2 * ((wlk N).length - (txt (stackOf (stp N))).length)) = 2 * ((wlk N).length - (txt (stackOf (stp N))).length))
    (l2 : levP (txt (stackOf (stp N))) (wlk N) (2 * ((wlk N).length - (txt (stackOf (stp N))).length) - 1) = 2 * ((wlk N).length - (txt (stackOf (stp N))).length))
    (h : ∀ fr cr, K (.ret (.bool true)) ⟨fr, cr, os⟩) :
    EX W (lawEv env A p) (lawBody.drop 10) ⟨[some (.obj sk), some (.int 0), o2, some (.str (wlk N)), o5, o6, some (.obj st), some (.obj pk), some (.int P), some (.int Q), some (.int R), some (.int S), o8, o9, o13, none, none], [], os⟩ K := by
  conv => arg 3; whnf
  have hs4 := stp_lt N
  have hsl := stp_len hN
  have hur := stack_red hs4
  have hul := stack_len (stp N)
  have hu4 := red_lt hur
  have hwl : (wlk N).length ≤ 12 := by simpa [wlk] using hsl
  have hwo : ∀ c ∈ wlk N, okCh c := by
    intro c hc
    obtain ⟨k, hk, rfl⟩ := List.mem_map.mp hc
    exact letr_ok (hs4 k hk)
  have hto : ∀ c ∈ txt (stackOf (stp N)), okCh c := by
    intro c hc
    obtain ⟨k, hk, rfl⟩ := List.mem_map.mp hc
    exact letr_ok (hu4 k (List.mem_reverse.mp hk))
  have htl : (txt (stackOf (stp N))).length ≤ 12 := by simp [txt]; omega
  walk_at "evs"
  refine E_call O Z (by walk_at "mem") C.gRead C.kRead ?_ (by intro _; rfl)
  walk_at "evs"
  refine (C.read _ _ _ _ _ _ _ hur hm (by omega) ?_).v
  generalize txt (stackOf (stp N)) = T at *
  walk_at "evs"
  refine E_call O Z (by walk_at "mem") C.gLev C.kLev ?_ (by intro _; rfl)
  walk_at "evs"
  refine C.lev _ _ _ _ _ (by omega) (by omega) hwo hto ?_
  rw [l1]
  walk_at "evs"
  refine bsel_dec (fun e => absurd rfl e) (fun e => ?_)
  walk_at "evs"
  refine E_cmp Z (E_call O Z (by walk_at "mem") C.gLev C.kLev ?_ (by intro _; rfl)) (by with_unfolding_all rfl)
  walk_at "evs"
  refine C.lev _ _ _ _ _ (by omega) (by omega) hto hwo ?_
  rw [l2]
  walk_at "evs"
  refine C_eq O ?_
  rw [decide_eq_true rfl]
  walk_at "evs"
  exact h _ _

end

section
open PySem PySem.W PyProof.Rows
set_option Elab.async false
set_option maxRecDepth 100000
set_option linter.unusedVariables false
set_option maxHeartbeats 16000000

def LevFact (N : Nat) : Prop :=
  levP (wlk N) (txt (stackOf (stp N))) (2 * ((wlk N).length - (txt (stackOf (stp N))).length)) = 2 * ((wlk N).length - (txt (stackOf (stp N))).length) ∧
  levP (txt (stackOf (stp N))) (wlk N) (2 * ((wlk N).length - (txt (stackOf (stp N))).length) - 1) = 2 * ((wlk N).length - (txt (stackOf (stp N))).length)
theorem law_walk {W : Wd} {Kf : Frag} {n kt : Nat} {env : Env} {A : Around} {p : Nat} {os : List AO} {K : AFlow → St → Prop} {xs : List Int} {sk : Nat} {fNew fPop fPush fStep fRead fLev fAP : Value} (O : WdOk W) (Z : EvOk (lawEv env A p) n) (Y : AccCls W Kf) (C : Con W Kf n kt fNew fPop fPush fStep fRead fLev)
    (hn : 5 ≤ n) (hlen : W.mg (Str.ofString "len") = none) (hord : W.mg (Str.ofString "ord") = none) (gAP : GlobIs W (Str.ofString "Int2AP") fAP) (kAP : KeepOk W fAP) (cAP : ∀ (i : Int) os K, i.natAbs < 2 ^ 60 → K (.bytes (apL i.natAbs)) os → CallV W n fAP [.int i] os K)
    (hs : os[sk]? = some (.frz (xs.map AV.int))) (hkt : os[kt]? = some (.tab 0)) (lf : ∀ N, N < 16777216 → LevFact N) (h : ∀ σ, σ.os[kt]? = some (.tab 0) → K (.ret (.bool true)) σ) :
    EX W (lawEv env A p) lawBody ⟨[some (.obj sk), none, none, none, none, none, none, none, none, none, none, none, none, none, none, none, none], [], os⟩ K := by
  refine law0 O Z hs fun o2 => ?_
  have hr := num_range xs
  obtain ⟨N, hN⟩ : ∃ N : Nat, num03 xs = (N : Int) := ⟨(num03 xs).toNat, by omega⟩
  rw [hN] at hr ⊢
  have hN' : N < 16777216 := by omega
  refine law1 O Z hN' hord gAP kAP cAP fun o5 o6 => ?_
  refine law2 O Z hN' fun osx st hx hst => ?_
  refine law3 O Z Y C hn hN' hlen (hx _ _ hkt) hst fun osy P Q R S o8 o9 o13 hky hm => ?_
  exact law4 O Z C hN' hlen hm (lf N hN').1 (lf N hN').2 fun _ _ => h _ hky

end

section
open PySem PySem.W
set_option linter.unusedVariables false

/-! ## a word and what is left of it by crossing letters out -/
theorem subCost_self (x : Nat) : subCost x x = 0 := by simp [subCost]
theorem subCost_le (x y : Nat) : subCost x y ≤ 2 ∧ 0 ≤ subCost x y := by
  unfold subCost; split
  · (first | lia | omega)
  · split <;> (first | lia | omega)
theorem inner_mn (bc : Nat) : ∀ (a : List Nat) (row : List Int) (d r mn : Int), (inner bc a row d r mn).2.2 ≤ mn ∧ ∀ (i : Nat) (v : Int), (inner bc a row d r mn).1[i]? = some v → (inner bc a row d r mn).2.2 ≤ v
  | [], _, _, _, mn => ⟨Int.le_refl _, fun i v h => by simp [inner] at h⟩
  | _ :: _, [], _, _, mn => ⟨Int.le_refl _, fun i v h => by simp [inner] at h⟩
  | x :: a, w :: row, d, r, mn => by
    have ih := inner_mn bc a row w (min (min r w + 2) (d + subCost bc x)) (if min (min r w + 2) (d + subCost bc x) < mn then min (min r w + 2) (d + subCost bc x) else mn)
    have hle : (if min (min r w + 2) (d + subCost bc x) < mn then min (min r w + 2) (d + subCost bc x) else mn) ≤ mn ∧ (if min (min r w + 2) (d + subCost bc x) < mn then min (min r w + 2) (d + subCost bc x) else mn) ≤ min (min r w + 2) (d + subCost bc x) := by split <;> (first | lia | omega)
    refine ⟨Int.le_trans ih.1 hle.1, fun i v h => ?_⟩
    cases i with
    | zero =>
      have e : min (min r w + 2) (d + subCost bc x) = v := by simpa [inner] using h
      rw [← e]
      exact Int.le_trans ih.1 hle.2
    | succ i => exact ih.2 i v (by simpa [inner] using h)
theorem inner_last (bc : Nat) : ∀ (a : List Nat) (row : List Int) (d r mn : Int), a.length = row.length → a ≠ [] → (inner bc a row d r mn).1[a.length - 1]? = some (inner bc a row d r mn).2.1
  | [], _, _, _, _, _, h => absurd rfl h
  | [x], [w], d, r, mn, _, _ => by simp [inner]
  | x :: y :: a, w :: row, d, r, mn, h, _ => by
    have ih := inner_last bc (y :: a) row w (min (min r w + 2) (d + subCost bc x)) (if min (min r w + 2) (d + subCost bc x) < mn then min (min r w + 2) (d + subCost bc x) else mn) (by simpa using h) (by simp)
    have e : (x :: y :: a).length - 1 = ((y :: a).length - 1) + 1 := by simp
    rw [e]
    simpa [inner] using ih
theorem inner_low (bc : Nat) : ∀ (a : List Nat) (row : List Int) (d r mn z : Int), z ≤ d → z ≤ r → (∀ (i : Nat) (v : Int), row[i]? = some v → z - 2 * ((i : Int) + 1) ≤ v) → ∀ (i : Nat) (v : Int), (inner bc a row d r mn).1[i]? = some v → z - 2 * (i : Int) ≤ v
  | [], _, _, _, _, _, _, _, _, i, v, h => by simp [inner] at h
  | _ :: _, [], _, _, _, _, _, _, _, i, v, h => by simp [inner] at h
  | x :: a, w :: row, d, r, mn, z, hd, hr, hw, i, v, h => by
    have h0 := hw 0 w rfl
    have hs := subCost_le bc x
    have hz : z ≤ min (min r w + 2) (d + subCost bc x) := by (first | lia | omega)
    cases i with
    | zero =>
      have e : min (min r w + 2) (d + subCost bc x) = v := by simpa [inner] using h
      rw [← e]; simp; (first | lia | omega)
    | succ i =>
      have ih := inner_low bc a row w (min (min r w + 2) (d + subCost bc x)) (if min (min r w + 2) (d + subCost bc x) < mn then min (min r w + 2) (d + subCost bc x) else mn) (z - 2) (by simp at h0; (first | lia | omega)) (by (first | lia | omega))
        (fun i v h => by have := hw (i + 1) v (by simpa using h); push_cast at this; (first | lia | omega)) i v (by simpa [inner] using h)
      push_cast; (first | lia | omega)
theorem inner_up (bc : Nat) : ∀ (a : List Nat) (row : List Int) (d r mn : Int), a.length = row.length → ∀ (i : Nat) (v : Int), row[i]? = some v → ∃ v', (inner bc a row d r mn).1[i]? = some v' ∧ v' ≤ v + 2
  | [], [], _, _, _, _, i, v, h => by simp at h
  | x :: a, w :: row, d, r, mn, hl, i, v, h => by
    cases i with
    | zero =>
      have e : w = v := by simpa using h
      refine ⟨min (min r w + 2) (d + subCost bc x), by simp [inner], by (first | lia | omega)⟩
    | succ i => exact inner_up bc a row w _ _ (by simpa using hl) i v (by simpa using h)
theorem inner_diag (bc : Nat) : ∀ (a : List Nat) (row : List Int) (d r mn : Int), a.length = row.length → ∀ (i : Nat) (v : Int), row[i]? = some v → a[i + 1]? = some bc → ∃ v', (inner bc a row d r mn).1[i + 1]? = some v' ∧ v' ≤ v
  | [], [], _, _, _, _, i, v, h, _ => by simp at h
  | [x], [w], d, r, mn, hl, i, v, h, h2 => by simp at h2
  | x :: y :: a, w :: u :: row, d, r, mn, hl, i, v, h, h2 => by
    cases i with
    | zero =>
      have e : w = v := by simpa using h
      have e2 : y = bc := by simpa using h2
      subst e; subst e2
      refine ⟨min (min (min (min r w + 2) (d + subCost y x)) u + 2) (w + subCost y y), by simp [inner], ?_⟩
      rw [subCost_self]; (first | lia | omega)
    | succ i => exact inner_diag bc (y :: a) (u :: row) w _ _ (by simpa using hl) i v (by simpa using h) (by simpa using h2)
theorem inner_first (bc x : Nat) (a : List Nat) (w : Int) (row : List Int) (d r mn : Int) : ∃ v', (inner bc (x :: a) (w :: row) d r mn).1[0]? = some v' ∧ v' ≤ d + subCost bc x :=
  ⟨min (min r w + 2) (d + subCost bc x), by simp [inner], by (first | lia | omega)⟩
theorem outer_sub (a : List Nat) (ha : a ≠ []) (J : Nat) (m : Int) (hm : m = 2 * ((J : Int) - a.length)) : ∀ (b : List Nat) (j c : Nat) (row : List Int) (res : Int), row.length = a.length → j + b.length = J → c ≤ a.length → (a.drop c).Sublist b →
    (∀ (i : Nat) (v : Int), row[i]? = some v → 2 * (j : Int) - 2 * ((i : Int) + 1) ≤ v) → (c ≠ 0 → ∃ v, row[c - 1]? = some v ∧ v ≤ 2 * ((j : Int) - c)) → (c ≠ 0 → row[a.length - 1]? = some res) → outer a m b (2 * (j : Int)) row res = m
  | [], j, c, row, res, hl, hj, hc, hsub, hlow, hup, hres => by
    have hc' : c = a.length := by
      have := List.sublist_nil.mp hsub
      have := List.drop_eq_nil_iff.mp this
      (first | lia | omega)
    have h0 : c ≠ 0 := fun e => ha (List.length_eq_zero_iff.mp (by (first | lia | omega)))
    obtain ⟨v, hv, hle⟩ := hup h0
    have hr := hres h0
    have e : v = res := by rw [hc'] at hv; rw [hv] at hr; exact Option.some.inj hr
    have h1 := hlow _ _ hr
    have : outer a m [] (2 * (j : Int)) row res = res := rfl
    rw [this]
    simp at hj
    have : a.length ≠ 0 := by (first | lia | omega)
    (first | lia | omega)
  | bc :: b, j, c, row, res, hl, hj, hc, hsub, hlow, hup, hres => by
    have hla := hl.symm
    have hlen := inner_len bc a row (2 * (j : Int)) (2 * (j : Int)) big hla
    have hmn := (inner_mn bc a row (2 * (j : Int)) (2 * (j : Int)) big).2
    have hlast := inner_last bc a row (2 * (j : Int)) (2 * (j : Int)) big hla ha
    have hlo := inner_low bc a row (2 * (j : Int)) (2 * (j : Int)) big (2 * (j : Int)) (Int.le_refl _) (Int.le_refl _) hlow
    have hu := inner_up bc a row (2 * (j : Int)) (2 * (j : Int)) big hla
    have hd := inner_diag bc a row (2 * (j : Int)) (2 * (j : Int)) big hla
    have hf : ∃ v', (inner bc a row (2 * (j : Int)) (2 * (j : Int)) big).1[0]? = some v' ∧ v' ≤ 2 * (j : Int) + 2 ∧ (a[0]? = some bc → v' ≤ 2 * (j : Int)) := by
      cases a with
      | nil => exact absurd rfl ha
      | cons x a =>
        cases row with
        | nil => simp at hl
        | cons w row =>
          obtain ⟨v', h1, h2⟩ := inner_first bc x a w row (2 * (j : Int)) (2 * (j : Int)) big
          have := subCost_le bc x
          refine ⟨v', h1, by (first | lia | omega), fun e => ?_⟩
          have e : x = bc := by simpa using e
          subst e
          rw [subCost_self] at h2; (first | lia | omega)
    have key : ∃ c', c' ≤ a.length ∧ (a.drop c').Sublist b ∧ (c' ≠ 0 → ∃ v, (inner bc a row (2 * (j : Int)) (2 * (j : Int)) big).1[c' - 1]? = some v ∧ v ≤ 2 * (((j + 1 : Nat) : Int) - c')) := by
      by_cases he : a[c]? = some bc
      · refine ⟨c + 1, by have := (List.getElem?_eq_some_iff.mp he).1; (first | lia | omega), ?_, fun _ => ?_⟩
        · have hcl := (List.getElem?_eq_some_iff.mp he).1
          have e1 : a.drop c = bc :: a.drop (c + 1) := by
            rw [List.drop_eq_getElem_cons hcl, (List.getElem?_eq_some_iff.mp he).2]
          rw [e1] at hsub
          exact List.cons_sublist_cons.mp hsub
        · cases c with
          | zero =>
            obtain ⟨v', h1, h2, h3⟩ := hf
            exact ⟨v', h1, by have := h3 he; simp; (first | lia | omega)⟩
          | succ c =>
            obtain ⟨v, hv, hle⟩ := hup (by (first | lia | omega))
            obtain ⟨v', h1, h2⟩ := hd c v (by simpa using hv) he
            exact ⟨v', by simpa using h1, by push_cast at *; (first | lia | omega)⟩
      · refine ⟨c, hc, ?_, fun h0 => ?_⟩
        · cases hs : a.drop c with
          | nil => exact List.nil_sublist _
          | cons y t =>
            rw [hs] at hsub
            cases hsub with
            | cons _ h => exact h
            | cons_cons _ h =>
              exfalso; apply he
              have : a[c]? = (a.drop c)[0]? := by simp
              rw [this, hs]; rfl
        · obtain ⟨v, hv, hle⟩ := hup h0
          obtain ⟨v', h1, h2⟩ := hu _ v hv
          exact ⟨v', h1, by push_cast; (first | lia | omega)⟩
    obtain ⟨c', hc', hs', hu'⟩ := key
    have hlb := hs'.length_le
    simp only [List.length_drop] at hlb
    have hjb : j + 1 + b.length = J := by simp at hj; (first | lia | omega)
    have hle : (inner bc a row (2 * (j : Int)) (2 * (j : Int)) big).2.2 ≤ m := by
      by_cases h0 : c' = 0
      · obtain ⟨v', h1, h2, _⟩ := hf
        have := hmn 0 v' h1
        (first | lia | omega)
      · obtain ⟨v, hv, hle⟩ := hu' h0
        have := hmn _ v hv
        push_cast at hle
        (first | lia | omega)
    show (if m < _ then m + 1 else outer a m b (2 * (j : Int) + 2) _ _) = m
    rw [if_neg (by (first | lia | omega))]
    have e : 2 * (j : Int) + 2 = 2 * ((j + 1 : Nat) : Int) := by push_cast; (first | lia | omega)
    rw [e]
    refine outer_sub a ha J m hm b (j + 1) c' _ _ (by rw [hlen, hl]) hjb hc' hs' (fun i v h => ?_) hu' (fun _ => hlast)
    have := hlo i v h
    push_cast; (first | lia | omega)
theorem core_sub {a b : List Nat} (ha : a ≠ []) (h : a.Sublist b) : levCore a b (2 * ((b.length : Int) - a.length)) = 2 * ((b.length : Int) - a.length) := by
  unfold levCore
  rw [if_neg (by (first | lia | omega))]
  have := outer_sub a ha b.length (2 * ((b.length : Int) - a.length)) rfl b 0 0 ((List.range a.length).map fun (i : Nat) => (2 : Int) + (i : Int) * 2) 0 (by simp) (by simp) (by simp) (by simpa using h)
    (fun i v h => by simp at h; obtain ⟨w, hw, rfl⟩ := h; push_cast; (first | lia | omega)) (fun h => absurd rfl h) (fun h => absurd rfl h)
  simpa using this
theorem pre_sub : ∀ {a b : List Nat}, a.Sublist b → (a.drop (cpl a b)).Sublist (b.drop (cpl a b)) ∧ cpl a b ≤ a.length
  | [], _, _ => ⟨by simp, by simp [cpl]⟩
  | x :: a, [], h => by cases h
  | x :: a, y :: b, h => by
    by_cases e : x = y
    · subst e
      have ih := pre_sub (List.cons_sublist_cons.mp h)
      have e : cpl (x :: a) (x :: b) = cpl a b + 1 := by simp [cpl]
      rw [e]
      exact ⟨by simpa using ih.1, by simpa using ih.2⟩
    · have e : cpl (x :: a) (y :: b) = 0 := by simp [cpl, e]
      rw [e]; exact ⟨by simpa using h, by simp⟩
theorem post_sub {a b : List Nat} (h : a.Sublist b) : (cutPost a b).Sublist (cutPost b a) ∧ ((cutPost b a).length : Int) - (cutPost a b).length = b.length - a.length := by
  have hr := pre_sub (List.reverse_sublist.mpr h)
  have hb := h.length_le
  have e1 : (cutPost a b).reverse = a.reverse.drop (cpl a.reverse b.reverse) := by
    unfold cutPost; rw [List.drop_reverse]
  have e2 : (cutPost b a).reverse = b.reverse.drop (cpl a.reverse b.reverse) := by
    unfold cutPost; rw [List.drop_reverse, cpl_comm]
  refine ⟨List.reverse_sublist.mp (by rw [e1, e2]; exact hr.1), ?_⟩
  have l1 : (cutPost a b).length = a.length - cpl a.reverse b.reverse := by rw [← List.length_reverse, e1]; simp
  have l2 : (cutPost b a).length = b.length - cpl a.reverse b.reverse := by rw [← List.length_reverse, e2]; simp
  have := hr.2
  simp at this
  rw [l1, l2]; (first | lia | omega)
theorem cut_sub {a b : List Nat} (h : a.Sublist b) : (cutPre a b).Sublist (cutPre b a) ∧ ((cutPre b a).length : Int) - (cutPre a b).length = b.length - a.length := by
  have hr := pre_sub h
  have hb := h.length_le
  unfold cutPre
  rw [cpl_comm b a]
  refine ⟨hr.1, ?_⟩
  simp only [List.length_drop]
  have := hr.2
  (first | lia | omega)
theorem lev_sub {a b : List Nat} (h : a.Sublist b) (hb : b.length ≤ 40) : levP b a (2 * ((b.length : Int) - a.length)) = 2 * ((b.length : Int) - a.length) ∧ levP a b (2 * ((b.length : Int) - a.length) - 1) = 2 * ((b.length : Int) - a.length) := by
  by_cases e : a = b
  · subst e
    unfold levP; simp
  · have hne : a.length < b.length := by
      rcases Nat.lt_or_ge a.length b.length with h1 | h1
      · exact h1
      · exact absurd (h.eq_of_length_le h1) e
    unfold levP
    rw [if_neg (Ne.symm e), if_neg e]
    have c1 := cut_sub h
    have c2 := post_sub c1.1
    have hl : (cutPost (cutPre b a) (cutPre a b)).length ≤ b.length := by
      unfold cutPost cutPre; simp; (first | lia | omega)
    have hd : ((cutPost (cutPre b a) (cutPre a b)).length : Int) - (cutPost (cutPre a b) (cutPre b a)).length = b.length - a.length := by (first | lia | omega)
    have hs := c2.1
    generalize cutPost (cutPre b a) (cutPre a b) = y at *
    generalize cutPost (cutPre a b) (cutPre b a) = x at *
    rw [← hd]
    have hy : y ≠ [] := fun e => by subst e; simp at hd; (first | lia | omega)
    by_cases hx : x = []
    · subst hx
      unfold levMid
      simp
    · refine ⟨?_, ?_⟩
      · rw [levMid, if_neg (fun q => q.elim hy hx), if_neg (by (first | lia | omega)), if_pos (by (first | lia | omega))]
        exact core_sub hx hs
      · rw [levMid, if_neg (fun q => q.elim hx hy), if_neg (by (first | lia | omega)), if_neg (by (first | lia | omega)), levCore, if_pos (by (first | lia | omega))]
        (first | lia | omega)


end

section
open PySem PySem.W
set_option linter.unusedVariables false

theorem stack_sub (ks : List Nat) : (stackOf ks).reverse.Sublist ks := by
  have key : ∀ (ks u v : List Nat), u.reverse.Sublist v → (ks.foldl push1 u).reverse.Sublist (v ++ ks) := by
    intro ks
    induction ks with
    | nil => intro u v h; simpa using h
    | cons k ks ih =>
      intro u v h
      have hk : (push1 u k).reverse.Sublist (v ++ [k]) := by
        cases u with
        | nil => exact List.sublist_append_right _ _
        | cons x t =>
          show (if x = inv k then t else k :: x :: t).reverse.Sublist (v ++ [k])
          split
          · have h1 : t.reverse.Sublist (x :: t).reverse := by rw [List.reverse_cons]; exact List.sublist_append_left _ _
            exact (h1.trans h).trans (List.sublist_append_left _ _)
          · rw [List.reverse_cons]; exact h.append (List.Sublist.refl _)
      have := ih (push1 u k) (v ++ [k]) hk
      simpa using this
  simpa [stackOf] using key ks [] [] (List.Sublist.refl _)
theorem lev_fact (N : Nat) (hN : N < 16777216) : LevFact N := by
  have hs : (txt (stackOf (stp N))).Sublist (wlk N) := by
    unfold txt wlk
    exact (stack_sub (stp N)).map _
  have hl : (wlk N).length ≤ 40 := by have := stp_len hN; simp [wlk]; omega
  exact lev_sub hs hl

end

end
end Mine
end

section
open PySem PySem.W PyProof.Rows
set_option Elab.async false
set_option maxRecDepth 100000
set_option maxHeartbeats 8000000
namespace Mine
def fnScope : Stmt → Scope
  | .FunctionDef _ _ _ _ _ _ sc _ _ _ => sc
  | _ => { kind := .module, names := [], isGenerator := false, isCoroutine := false }
def fnParams : Stmt → Arguments
  | .FunctionDef _ a _ _ _ _ _ _ _ _ => a
  | _ => { posonlyargs := [], args := [], vararg := none, kwonlyargs := [], kw_defaults := [], kwarg := none, defaults := [] }
def stC (i : Nat) : Stmt := (clsBody (stAt 3)).getD i (.Pass default)
def K39.p (i : Nat) : Arguments := fnParams (stAt i)
def K39.b (i : Nat) : List Stmt := fnBody (stAt i)
def K39.s (i : Nat) : Scope := fnScope (stAt i)
def K39.cp (i : Nat) : Arguments := fnParams (stC i)
def K39.cb (i : Nat) : List Stmt := fnBody (stC i)
def K39.cs (i : Nat) : Scope := fnScope (stC i)
/-- the objects that stand at the call (written by genK) -/
noncomputable def K39 (P : Params) : Frag :=
  [(2, { cls := Value.none, data := Data.dict #[] }),
  (3,
    { cls := Value.type "dict",
      data :=
        Data.dict
          #[{ hash := PyData.keyHash P (Str.ofString "__name__"), key := Value.str (Str.ofString "__name__") 165, val := Value.str (Str.ofString "law_xl0010_03") 341 },
            { hash := PyData.keyHash P (Str.ofString "__doc__"), key := Value.str (Str.ofString "__doc__") 166, val := Value.none },
            { hash := PyData.keyHash P (Str.ofString "__package__"), key := Value.str (Str.ofString "__package__") 167, val := Value.none },
            { hash := PyData.keyHash P (Str.ofString "__loader__"), key := Value.str (Str.ofString "__loader__") 168, val := Value.builtin "__main__.__loader__#opaque" },
            { hash := PyData.keyHash P (Str.ofString "__spec__"), key := Value.str (Str.ofString "__spec__") 169, val := Value.none },
            { hash := PyData.keyHash P (Str.ofString "__annotations__"), key := Value.str (Str.ofString "__annotations__") 170, val := Value.ref 6 },
            { hash := PyData.keyHash P (Str.ofString "__builtins__"), key := Value.str (Str.ofString "__builtins__") 171, val := Value.ref 4 },
            { hash := PyData.keyHash P (Str.ofString "__file__"), key := Value.str (Str.ofString "__file__") 173, val := Value.str (Str.ofString "/claim/cut.py") 172 },
            { hash := PyData.keyHash P (Str.ofString "__cached__"), key := Value.str (Str.ofString "__cached__") 174, val := Value.none },
            { hash := PyData.keyHash P (Str.ofString "_wall"), key := Value.str (Str.ofString "_wall") 193, val := Value.ref 21 },
            { hash := PyData.keyHash P (Str.ofString "EMPTYSTRING"), key := Value.str (Str.ofString "EMPTYSTRING") 197, val := Value.str (Str.ofString "") 196 },
            { hash := PyData.keyHash P (Str.ofString "_Accumulator"), key := Value.str (Str.ofString "_Accumulator") 292, val := Value.ref 101 },
            { hash := PyData.keyHash P (Str.ofString "Int2AP"), key := Value.str (Str.ofString "Int2AP") 304, val := Value.ref 112 },
            { hash := PyData.keyHash P (Str.ofString "_MAX_STRING_SIZE"), key := Value.str (Str.ofString "_MAX_STRING_SIZE") 308, val := Value.int 40 307 },
            { hash := PyData.keyHash P (Str.ofString "_MOVE_COST"), key := Value.str (Str.ofString "_MOVE_COST") 310, val := Value.int 2 309 },
            { hash := PyData.keyHash P (Str.ofString "_CASE_COST"), key := Value.str (Str.ofString "_CASE_COST") 312, val := Value.int 1 311 },
            { hash := PyData.keyHash P (Str.ofString "_substitution_cost"), key := Value.str (Str.ofString "_substitution_cost") 320, val := Value.ref 119 },
            { hash := PyData.keyHash P (Str.ofString "_levenshtein_distance"), key := Value.str (Str.ofString "_levenshtein_distance") 340, val := Value.ref 126 },
            { hash := PyData.keyHash P (Str.ofString "_law_step"), key := Value.str (Str.ofString "_law_step") 354, val := Value.ref 133 },
            { hash := PyData.keyHash P (Str.ofString "_law_read"), key := Value.str (Str.ofString "_law_read") 366, val := Value.ref 140 },
            { hash := PyData.keyHash P (Str.ofString "law"), key := Value.str (Str.ofString "law") 372, val := Value.ref 145 }]
          21 }),
  (15, { cls := Value.type "tuple", data := Data.seq #[] }), (17, { cls := Value.type "tuple", data := Data.seq #[Value.str (Str.ofString "k") 190] }),
  (18, { cls := Value.type "tuple", data := Data.seq #[] }),
  (20,
    { cls := Value.type "code",
      data :=
        Data.fields
          #[Value.str (Str.ofString "_wall") 187, Value.str (Str.ofString "_wall") 188, Value.str (Str.ofString "/claim/cut.py") 189, Value.int 1 0, Value.int 1 0, Value.int 0 0,
            Value.int 0 0, Value.int 3 0, Value.ref 15, Value.bool Bool.true, Value.int 181 0, Value.ref 16, Value.none, Value.ref 17, Value.ref 18, Value.ref 19,
            Value.int 191 0, Value.int 1 0, Value.str (Str.ofString "/claim/cut.py") 192] }),
  (21,
    { cls := Value.type "function",
      data :=
        Data.func
          { name := Str.ofString "_wall", qualname := Str.ofString "_wall", params := K39.p 0, body := FuncBody.stmts (K39.b 0), scope := K39.s 0, globals := 3, closure := [], defaults := Value.none,
            kwdefaults := Value.none, pyModule := Value.str (Str.ofString "__main__") 164, code := Value.ref 20 } }),
  (22, { cls := Value.type "tuple", data := Data.seq #[Value.type "list"] }), (25, { cls := Value.type "cell", data := Data.cell (Option.some (Value.ref 101)) }),
  (30, { cls := Value.type "tuple", data := Data.seq #[Value.int 0 210] }), (31, { cls := Value.type "tuple", data := Data.seq #[Value.ref 25] }),
  (32, { cls := Value.type "tuple", data := Data.seq #[Value.str (Str.ofString "__class__") 214] }),
  (34, { cls := Value.type "tuple", data := Data.seq #[Value.str (Str.ofString "self") 215, Value.str (Str.ofString "initial_size") 216] }),
  (35, { cls := Value.type "tuple", data := Data.seq #[] }),
  (37,
    { cls := Value.type "code",
      data :=
        Data.fields
          #[Value.str (Str.ofString "__init__") 211, Value.str (Str.ofString "_Accumulator.__init__") 212, Value.str (Str.ofString "/claim/cut.py") 213, Value.int 8 0, Value.int 2 0,
            Value.int 0 0, Value.int 0 0, Value.int 3 0, Value.ref 32, Value.bool Bool.true, Value.int 181 0, Value.ref 33, Value.none, Value.ref 34, Value.ref 35,
            Value.ref 36, Value.int 217 0, Value.int 8 0, Value.str (Str.ofString "/claim/cut.py") 218] }),
  (38,
    { cls := Value.type "function",
      data :=
        Data.func
          { name := Str.ofString "__init__", qualname := Str.ofString "_Accumulator.__init__", params := K39.cp 0, body := FuncBody.stmts (K39.cb 0), scope := K39.cs 0, globals := 3,
            closure := [(Str.ofString "__class__", 25)], defaults := Value.ref 30, kwdefaults := Value.none, pyModule := Value.str (Str.ofString "cpy313.email.header") 194, code := Value.ref 37,
            closureTuple := Value.ref 31 } }),
  (39, { cls := Value.type "tuple", data := Data.seq #[] }),
  (41, { cls := Value.type "tuple", data := Data.seq #[Value.str (Str.ofString "self") 223, Value.str (Str.ofString "fws") 224, Value.str (Str.ofString "string") 225] }),
  (42, { cls := Value.type "tuple", data := Data.seq #[] }),
  (44,
    { cls := Value.type "code",
      data :=
        Data.fields
          #[Value.str (Str.ofString "push") 220, Value.str (Str.ofString "_Accumulator.push") 221, Value.str (Str.ofString "/claim/cut.py") 222, Value.int 12 0, Value.int 3 0,
            Value.int 0 0, Value.int 0 0, Value.int 3 0, Value.ref 39, Value.bool Bool.true, Value.int 181 0, Value.ref 40, Value.none, Value.ref 41, Value.ref 42,
            Value.ref 43, Value.int 226 0, Value.int 12 0, Value.str (Str.ofString "/claim/cut.py") 227] }),
  (45,
    { cls := Value.type "function",
      data :=
        Data.func
          { name := Str.ofString "push", qualname := Str.ofString "_Accumulator.push", params := K39.cp 1, body := FuncBody.stmts (K39.cb 1), scope := K39.cs 1, globals := 3, closure := [], defaults := Value.none,
            kwdefaults := Value.none, pyModule := Value.str (Str.ofString "cpy313.email.header") 194, code := Value.ref 44 } }),
  (46, { cls := Value.type "tuple", data := Data.seq #[Value.int 0 229] }), (47, { cls := Value.type "tuple", data := Data.seq #[] }),
  (49, { cls := Value.type "tuple", data := Data.seq #[Value.str (Str.ofString "self") 233, Value.str (Str.ofString "i") 234] }), (50, { cls := Value.type "tuple", data := Data.seq #[] }),
  (52,
    { cls := Value.type "code",
      data :=
        Data.fields
          #[Value.str (Str.ofString "pop_from") 230, Value.str (Str.ofString "_Accumulator.pop_from") 231, Value.str (Str.ofString "/claim/cut.py") 232, Value.int 15 0, Value.int 2 0,
            Value.int 0 0, Value.int 0 0, Value.int 3 0, Value.ref 47, Value.bool Bool.true, Value.int 181 0, Value.ref 48, Value.none, Value.ref 49, Value.ref 50,
            Value.ref 51, Value.int 235 0, Value.int 15 0, Value.str (Str.ofString "/claim/cut.py") 236] }),
  (53,
    { cls := Value.type "function",
      data :=
        Data.func
          { name := Str.ofString "pop_from", qualname := Str.ofString "_Accumulator.pop_from", params := K39.cp 2, body := FuncBody.stmts (K39.cb 2), scope := K39.cs 2, globals := 3, closure := [],
            defaults := Value.ref 46, kwdefaults := Value.none, pyModule := Value.str (Str.ofString "cpy313.email.header") 194, code := Value.ref 52 } }),
  (54, { cls := Value.type "tuple", data := Data.seq #[Value.ref 25] }), (55, { cls := Value.type "tuple", data := Data.seq #[Value.str (Str.ofString "__class__") 241] }),
  (57, { cls := Value.type "tuple", data := Data.seq #[Value.str (Str.ofString "self") 242] }), (58, { cls := Value.type "tuple", data := Data.seq #[] }),
  (60,
    { cls := Value.type "code",
      data :=
        Data.fields
          #[Value.str (Str.ofString "pop") 238, Value.str (Str.ofString "_Accumulator.pop") 239, Value.str (Str.ofString "/claim/cut.py") 240, Value.int 18 0, Value.int 1 0,
            Value.int 0 0, Value.int 0 0, Value.int 3 0, Value.ref 55, Value.bool Bool.true, Value.int 181 0, Value.ref 56, Value.none, Value.ref 57, Value.ref 58,
            Value.ref 59, Value.int 243 0, Value.int 18 0, Value.str (Str.ofString "/claim/cut.py") 244] }),
  (61,
    { cls := Value.type "function",
      data :=
        Data.func
          { name := Str.ofString "pop", qualname := Str.ofString "_Accumulator.pop", params := K39.cp 3, body := FuncBody.stmts (K39.cb 3), scope := K39.cs 3, globals := 3,
            closure := [(Str.ofString "__class__", 25)], defaults := Value.none, kwdefaults := Value.none, pyModule := Value.str (Str.ofString "cpy313.email.header") 194, code := Value.ref 60,
            closureTuple := Value.ref 54 } }),
  (62, { cls := Value.type "tuple", data := Data.seq #[] }), (64, { cls := Value.type "tuple", data := Data.seq #[Value.str (Str.ofString "self") 249] }),
  (65, { cls := Value.type "tuple", data := Data.seq #[] }),
  (67,
    { cls := Value.type "code",
      data :=
        Data.fields
          #[Value.str (Str.ofString "__len__") 246, Value.str (Str.ofString "_Accumulator.__len__") 247, Value.str (Str.ofString "/claim/cut.py") 248, Value.int 23 0, Value.int 1 0,
            Value.int 0 0, Value.int 0 0, Value.int 3 0, Value.ref 62, Value.bool Bool.true, Value.int 181 0, Value.ref 63, Value.none, Value.ref 64, Value.ref 65,
            Value.ref 66, Value.int 250 0, Value.int 23 0, Value.str (Str.ofString "/claim/cut.py") 251] }),
  (68,
    { cls := Value.type "function",
      data :=
        Data.func
          { name := Str.ofString "__len__", qualname := Str.ofString "_Accumulator.__len__", params := K39.cp 4, body := FuncBody.stmts (K39.cb 4), scope := K39.cs 4, globals := 3, closure := [],
            defaults := Value.none, kwdefaults := Value.none, pyModule := Value.str (Str.ofString "cpy313.email.header") 194, code := Value.ref 67 } }),
  (69, { cls := Value.type "tuple", data := Data.seq #[] }), (71, { cls := Value.type "tuple", data := Data.seq #[Value.str (Str.ofString "self") 256] }),
  (72, { cls := Value.type "tuple", data := Data.seq #[] }),
  (74,
    { cls := Value.type "code",
      data :=
        Data.fields
          #[Value.str (Str.ofString "__str__") 253, Value.str (Str.ofString "_Accumulator.__str__") 254, Value.str (Str.ofString "/claim/cut.py") 255, Value.int 26 0, Value.int 1 0,
            Value.int 0 0, Value.int 0 0, Value.int 3 0, Value.ref 69, Value.bool Bool.true, Value.int 181 0, Value.ref 70, Value.none, Value.ref 71, Value.ref 72,
            Value.ref 73, Value.int 257 0, Value.int 26 0, Value.str (Str.ofString "/claim/cut.py") 258] }),
  (75,
    { cls := Value.type "function",
      data :=
        Data.func
          { name := Str.ofString "__str__", qualname := Str.ofString "_Accumulator.__str__", params := K39.cp 5, body := FuncBody.stmts (K39.cb 5), scope := K39.cs 5, globals := 3, closure := [],
            defaults := Value.none, kwdefaults := Value.none, pyModule := Value.str (Str.ofString "cpy313.email.header") 194, code := Value.ref 74 } }),
  (76, { cls := Value.type "tuple", data := Data.seq #[Value.none] }), (77, { cls := Value.type "tuple", data := Data.seq #[] }),
  (79, { cls := Value.type "tuple", data := Data.seq #[Value.str (Str.ofString "self") 263, Value.str (Str.ofString "startval") 264] }),
  (80, { cls := Value.type "tuple", data := Data.seq #[] }),
  (82,
    { cls := Value.type "code",
      data :=
        Data.fields
          #[Value.str (Str.ofString "reset") 260, Value.str (Str.ofString "_Accumulator.reset") 261, Value.str (Str.ofString "/claim/cut.py") 262, Value.int 29 0, Value.int 2 0,
            Value.int 0 0, Value.int 0 0, Value.int 3 0, Value.ref 77, Value.bool Bool.true, Value.int 181 0, Value.ref 78, Value.none, Value.ref 79, Value.ref 80,
            Value.ref 81, Value.int 265 0, Value.int 29 0, Value.str (Str.ofString "/claim/cut.py") 266] }),
  (83,
    { cls := Value.type "function",
      data :=
        Data.func
          { name := Str.ofString "reset", qualname := Str.ofString "_Accumulator.reset", params := K39.cp 6, body := FuncBody.stmts (K39.cb 6), scope := K39.cs 6, globals := 3, closure := [],
            defaults := Value.ref 76, kwdefaults := Value.none, pyModule := Value.str (Str.ofString "cpy313.email.header") 194, code := Value.ref 82 } }),
  (84, { cls := Value.type "tuple", data := Data.seq #[] }), (86, { cls := Value.type "tuple", data := Data.seq #[Value.str (Str.ofString "self") 271] }),
  (87, { cls := Value.type "tuple", data := Data.seq #[] }),
  (89,
    { cls := Value.type "code",
      data :=
        Data.fields
          #[Value.str (Str.ofString "is_onlyws") 268, Value.str (Str.ofString "_Accumulator.is_onlyws") 269, Value.str (Str.ofString "/claim/cut.py") 270, Value.int 32 0, Value.int 1 0,
            Value.int 0 0, Value.int 0 0, Value.int 3 0, Value.ref 84, Value.bool Bool.true, Value.int 181 0, Value.ref 85, Value.none, Value.ref 86, Value.ref 87,
            Value.ref 88, Value.int 272 0, Value.int 32 0, Value.str (Str.ofString "/claim/cut.py") 273] }),
  (90,
    { cls := Value.type "function",
      data :=
        Data.func
          { name := Str.ofString "is_onlyws", qualname := Str.ofString "_Accumulator.is_onlyws", params := K39.cp 7, body := FuncBody.stmts (K39.cb 7), scope := K39.cs 7, globals := 3, closure := [],
            defaults := Value.none, kwdefaults := Value.none, pyModule := Value.str (Str.ofString "cpy313.email.header") 194, code := Value.ref 89 } }),
  (91, { cls := Value.type "tuple", data := Data.seq #[Value.ref 25] }), (92, { cls := Value.type "tuple", data := Data.seq #[Value.str (Str.ofString "__class__") 278] }),
  (94, { cls := Value.type "tuple", data := Data.seq #[Value.str (Str.ofString "self") 279] }), (95, { cls := Value.type "tuple", data := Data.seq #[] }),
  (97,
    { cls := Value.type "code",
      data :=
        Data.fields
          #[Value.str (Str.ofString "part_count") 275, Value.str (Str.ofString "_Accumulator.part_count") 276, Value.str (Str.ofString "/claim/cut.py") 277, Value.int 35 0, Value.int 1 0,
            Value.int 0 0, Value.int 0 0, Value.int 3 0, Value.ref 92, Value.bool Bool.true, Value.int 181 0, Value.ref 93, Value.none, Value.ref 94, Value.ref 95,
            Value.ref 96, Value.int 280 0, Value.int 35 0, Value.str (Str.ofString "/claim/cut.py") 281] }),
  (98,
    { cls := Value.type "function",
      data :=
        Data.func
          { name := Str.ofString "part_count", qualname := Str.ofString "_Accumulator.part_count", params := K39.cp 8, body := FuncBody.stmts (K39.cb 8), scope := K39.cs 8, globals := 3,
            closure := [(Str.ofString "__class__", 25)], defaults := Value.none, kwdefaults := Value.none, pyModule := Value.str (Str.ofString "cpy313.email.header") 194, code := Value.ref 97,
            closureTuple := Value.ref 91 } }),
  (99, { cls := Value.type "tuple", data := Data.seq #[Value.str (Str.ofString "_initial_size") 283] }),
  (100,
    { cls := Value.type "dict",
      data :=
        Data.dict
          #[{ hash := PyData.keyHash P (Str.ofString "__module__"), key := Value.str (Str.ofString "__module__") 205, val := Value.str (Str.ofString "cpy313.email.header") 194 },
            { hash := PyData.keyHash P (Str.ofString "__firstlineno__"), key := Value.str (Str.ofString "__firstlineno__") 209, val := Value.int 6 208 },
            { hash := PyData.keyHash P (Str.ofString "__init__"), key := Value.str (Str.ofString "__init__") 219, val := Value.ref 38 },
            { hash := PyData.keyHash P (Str.ofString "push"), key := Value.str (Str.ofString "push") 228, val := Value.ref 45 },
            { hash := PyData.keyHash P (Str.ofString "pop_from"), key := Value.str (Str.ofString "pop_from") 237, val := Value.ref 53 },
            { hash := PyData.keyHash P (Str.ofString "pop"), key := Value.str (Str.ofString "pop") 245, val := Value.ref 61 },
            { hash := PyData.keyHash P (Str.ofString "__len__"), key := Value.str (Str.ofString "__len__") 252, val := Value.ref 68 },
            { hash := PyData.keyHash P (Str.ofString "__str__"), key := Value.str (Str.ofString "__str__") 259, val := Value.ref 75 },
            { hash := PyData.keyHash P (Str.ofString "reset"), key := Value.str (Str.ofString "reset") 267, val := Value.ref 83 },
            { hash := PyData.keyHash P (Str.ofString "is_onlyws"), key := Value.str (Str.ofString "is_onlyws") 274, val := Value.ref 90 },
            { hash := PyData.keyHash P (Str.ofString "part_count"), key := Value.str (Str.ofString "part_count") 282, val := Value.ref 98 },
            { hash := PyData.keyHash P (Str.ofString "__static_attributes__"), key := Value.str (Str.ofString "__static_attributes__") 284, val := Value.ref 99 },
            { hash := PyData.keyHash P (Str.ofString "__dict__"), key := Value.str (Str.ofString "__dict__") 287, val := Value.ref 102 },
            { hash := PyData.keyHash P (Str.ofString "__weakref__"), key := Value.str (Str.ofString "__weakref__") 289, val := Value.ref 103 },
            { hash := PyData.keyHash P (Str.ofString "__doc__"), key := Value.str (Str.ofString "__doc__") 290, val := Value.none }]
          5 }),
  (101,
    { cls := Value.type "type",
      data :=
        Data.cls
          { name := Str.ofString "_Accumulator", bases := [Value.type "list"], mro := [Value.ref 101, Value.type "list", Value.type "object"], ns := 100, qualname := Str.ofString "_Accumulator" },
      slots :=
        #[Option.some (Value.ref 22), Option.none, Option.some (Value.str (Str.ofString "_Accumulator") 198), Option.some (Value.str (Str.ofString "_Accumulator") 206),
          Option.some (Value.builtin "list.__new__"), Option.some (Value.bool Bool.true)] }),
  (102,
    { cls := Value.type "getset_descriptor",
      data := Data.fields #[Value.str (Str.ofString "__dict__") 286, Value.ref 101, Value.builtin "function.__dict__", Value.builtin "function.__dict__#set"] }),
  (103, { cls := Value.type "getset_descriptor", data := Data.fields #[Value.str (Str.ofString "__weakref__") 288, Value.ref 101, Value.builtin "ExceptionGroup.__weakref__", Value.none] }),
  (106, { cls := Value.type "tuple", data := Data.seq #[] }),
  (108,
    { cls := Value.type "tuple",
      data := Data.seq #[Value.str (Str.ofString "num") 298, Value.str (Str.ofString "val") 299, Value.str (Str.ofString "AP") 300, Value.str (Str.ofString "mod") 301] }),
  (109, { cls := Value.type "tuple", data := Data.seq #[] }),
  (111,
    { cls := Value.type "code",
      data :=
        Data.fields
          #[Value.str (Str.ofString "Int2AP") 295, Value.str (Str.ofString "Int2AP") 296, Value.str (Str.ofString "/claim/cut.py") 297, Value.int 38 0, Value.int 1 0, Value.int 0 0,
            Value.int 0 0, Value.int 3 0, Value.ref 106, Value.bool Bool.true, Value.int 181 0, Value.ref 107, Value.none, Value.ref 108, Value.ref 109, Value.ref 110,
            Value.int 302 0, Value.int 38 0, Value.str (Str.ofString "/claim/cut.py") 303] }),
  (112,
    { cls := Value.type "function",
      data :=
        Data.func
          { name := Str.ofString "Int2AP", qualname := Str.ofString "Int2AP", params := K39.p 5, body := FuncBody.stmts (K39.b 5), scope := K39.s 5, globals := 3, closure := [], defaults := Value.none,
            kwdefaults := Value.none, pyModule := Value.str (Str.ofString "cpy313.imaplib") 293, code := Value.ref 111 } }),
  (113, { cls := Value.type "tuple", data := Data.seq #[] }),
  (115, { cls := Value.type "tuple", data := Data.seq #[Value.str (Str.ofString "ch_a") 316, Value.str (Str.ofString "ch_b") 317] }),
  (116, { cls := Value.type "tuple", data := Data.seq #[] }),
  (118,
    { cls := Value.type "code",
      data :=
        Data.fields
          #[Value.str (Str.ofString "_substitution_cost") 313, Value.str (Str.ofString "_substitution_cost") 314, Value.str (Str.ofString "/claim/cut.py") 315, Value.int 50 0, Value.int 2 0,
            Value.int 0 0, Value.int 0 0, Value.int 3 0, Value.ref 113, Value.bool Bool.true, Value.int 181 0, Value.ref 114, Value.none, Value.ref 115, Value.ref 116,
            Value.ref 117, Value.int 318 0, Value.int 50 0, Value.str (Str.ofString "/claim/cut.py") 319] }),
  (119,
    { cls := Value.type "function",
      data :=
        Data.func
          { name := Str.ofString "_substitution_cost", qualname := Str.ofString "_substitution_cost", params := K39.p 10, body := FuncBody.stmts (K39.b 10), scope := K39.s 10, globals := 3, closure := [],
            defaults := Value.none, kwdefaults := Value.none, pyModule := Value.str (Str.ofString "cpy313.traceback") 305, code := Value.ref 118 } }),
  (120, { cls := Value.type "tuple", data := Data.seq #[] }),
  (122,
    { cls := Value.type "tuple",
      data :=
        Data.seq
          #[Value.str (Str.ofString "a") 324, Value.str (Str.ofString "b") 325, Value.str (Str.ofString "max_cost") 326, Value.str (Str.ofString "pre") 327,
            Value.str (Str.ofString "post") 328, Value.str (Str.ofString "row") 329, Value.str (Str.ofString "result") 330, Value.str (Str.ofString "bindex") 331,
            Value.str (Str.ofString "bchar") 332, Value.str (Str.ofString "distance") 333, Value.str (Str.ofString "minimum") 334, Value.str (Str.ofString "index") 335,
            Value.str (Str.ofString "substitute") 336, Value.str (Str.ofString "insert_delete") 337] }),
  (123, { cls := Value.type "tuple", data := Data.seq #[] }),
  (125,
    { cls := Value.type "code",
      data :=
        Data.fields
          #[Value.str (Str.ofString "_levenshtein_distance") 321, Value.str (Str.ofString "_levenshtein_distance") 322, Value.str (Str.ofString "/claim/cut.py") 323, Value.int 56 0,
            Value.int 3 0, Value.int 0 0, Value.int 0 0, Value.int 3 0, Value.ref 120, Value.bool Bool.true, Value.int 181 0, Value.ref 121, Value.none, Value.ref 122,
            Value.ref 123, Value.ref 124, Value.int 338 0, Value.int 56 0, Value.str (Str.ofString "/claim/cut.py") 339] }),
  (126,
    { cls := Value.type "function",
      data :=
        Data.func
          { name := Str.ofString "_levenshtein_distance", qualname := Str.ofString "_levenshtein_distance", params := K39.p 11, body := FuncBody.stmts (K39.b 11), scope := K39.s 11, globals := 3, closure := [],
            defaults := Value.none, kwdefaults := Value.none, pyModule := Value.str (Str.ofString "cpy313.traceback") 305, code := Value.ref 125 } }),
  (127, { cls := Value.type "tuple", data := Data.seq #[] }),
  (129,
    { cls := Value.type "tuple",
      data :=
        Data.seq
          #[Value.str (Str.ofString "step") 346, Value.str (Str.ofString "p") 347, Value.str (Str.ofString "q") 348, Value.str (Str.ofString "r") 349,
            Value.str (Str.ofString "s") 350, Value.str (Str.ofString "twice") 351] }),
  (130, { cls := Value.type "tuple", data := Data.seq #[] }),
  (132,
    { cls := Value.type "code",
      data :=
        Data.fields
          #[Value.str (Str.ofString "_law_step") 343, Value.str (Str.ofString "_law_step") 344, Value.str (Str.ofString "/claim/cut.py") 345, Value.int 95 0, Value.int 5 0,
            Value.int 0 0, Value.int 0 0, Value.int 3 0, Value.ref 127, Value.bool Bool.true, Value.int 181 0, Value.ref 128, Value.none, Value.ref 129, Value.ref 130,
            Value.ref 131, Value.int 352 0, Value.int 95 0, Value.str (Str.ofString "/claim/cut.py") 353] }),
  (133,
    { cls := Value.type "function",
      data :=
        Data.func
          { name := Str.ofString "_law_step", qualname := Str.ofString "_law_step", params := K39.p 13, body := FuncBody.stmts (K39.b 13), scope := K39.s 13, globals := 3, closure := [], defaults := Value.none,
            kwdefaults := Value.none, pyModule := Value.str (Str.ofString "law_xl0010_03") 341, code := Value.ref 132 } }),
  (134, { cls := Value.type "tuple", data := Data.seq #[] }),
  (136,
    { cls := Value.type "tuple",
      data :=
        Data.seq
          #[Value.str (Str.ofString "p") 358, Value.str (Str.ofString "q") 359, Value.str (Str.ofString "r") 360, Value.str (Str.ofString "s") 361,
            Value.str (Str.ofString "text") 362, Value.str (Str.ofString "k") 363] }),
  (137, { cls := Value.type "tuple", data := Data.seq #[] }),
  (139,
    { cls := Value.type "code",
      data :=
        Data.fields
          #[Value.str (Str.ofString "_law_read") 355, Value.str (Str.ofString "_law_read") 356, Value.str (Str.ofString "/claim/cut.py") 357, Value.int 100 0, Value.int 4 0,
            Value.int 0 0, Value.int 0 0, Value.int 3 0, Value.ref 134, Value.bool Bool.true, Value.int 181 0, Value.ref 135, Value.none, Value.ref 136, Value.ref 137,
            Value.ref 138, Value.int 364 0, Value.int 100 0, Value.str (Str.ofString "/claim/cut.py") 365] }),
  (140,
    { cls := Value.type "function",
      data :=
        Data.func
          { name := Str.ofString "_law_read", qualname := Str.ofString "_law_read", params := K39.p 14, body := FuncBody.stmts (K39.b 14), scope := K39.s 14, globals := 3, closure := [], defaults := Value.none,
            kwdefaults := Value.none, pyModule := Value.str (Str.ofString "law_xl0010_03") 341, code := Value.ref 139 } }),
  (141, { cls := Value.type "tuple", data := Data.seq #[] }),
  (144,
    { cls := Value.type "code",
      data :=
        Data.fields
          #[Value.str (Str.ofString "law") 367, Value.str (Str.ofString "law") 368, Value.str (Str.ofString "/claim/cut.py") 369, Value.int 112 0, Value.int 1 0, Value.int 0 0,
            Value.int 0 0, Value.int 3 0, Value.ref 141, Value.bool Bool.true, Value.int 181 0, Value.ref 142, Value.none, Value.none, Value.none, Value.ref 143,
            Value.int 370 0, Value.int 112 0, Value.str (Str.ofString "/claim/cut.py") 371] }),
  (145,
    { cls := Value.type "function",
      data :=
        Data.func
          { name := Str.ofString "law", qualname := Str.ofString "law", params := K39.p 15, body := FuncBody.stmts (K39.b 15), scope := K39.s 15, globals := 3, closure := [], defaults := Value.none,
            kwdefaults := Value.none, pyModule := Value.str (Str.ofString "law_xl0010_03") 341, code := Value.ref 144 } })]
end Mine
end

section
open PySem PySem.W PyProof.Rows
set_option Elab.async false
set_option maxRecDepth 100000
set_option maxHeartbeats 8000000
namespace Mine
def as2 : List Addr := [2, 3, 15, 17, 18, 20, 21, 22, 25, 30, 31, 32, 34, 35, 37, 38, 39, 41, 42, 44, 45, 46, 47, 49, 50, 52, 53, 54, 55, 57, 58, 60, 61, 62, 64, 65, 67, 68, 69, 71, 72, 74, 75, 76, 77, 79, 80, 82, 83, 84, 86, 87, 89, 90, 91, 92, 94, 95, 97, 98, 99, 100, 101, 102, 103, 106, 108, 109, 111, 112, 113, 115, 116, 118, 119, 120, 122, 123, 125, 126, 127, 129, 130, 132, 133, 134, 136, 137, 139, 140, 141, 144, 145, 70]
noncomputable def K2 (P : Params) : Frag := K39 P ++ [(70, { cls := .none, data := .fields #[] })]
end Mine
end

section
open PySem PySem.W PyProof.Rows
set_option Elab.async false
set_option maxRecDepth 100000
set_option linter.unusedVariables false
set_option maxHeartbeats 8000000
namespace Mine
/-! ## a heap of which some places are not told -/
def freedO : Obj := { cls := .none, data := .freed }
def hide (h : Heap) (l : List Addr) (m : Nat) : Heap := ⟨(Array.range (m + 1)).map fun b => if b ∈ l then freedO else (h.objs[b]?).getD freedO, {}⟩
theorem hide_at (h : Heap) (l : List Addr) (m b : Nat) : (hide h l m).get? b = if b ≤ m ∧ b ∉ l then h.get? b else none := by
  unfold hide Heap.get?
  by_cases hb : b ≤ m
  · have e : ((Array.range (m + 1)).map fun b => if b ∈ l then freedO else (h.objs[b]?).getD freedO)[b]? = some (if b ∈ l then freedO else (h.objs[b]?).getD freedO) := by
      rw [Array.getElem?_map, Array.getElem?_range, if_pos (by omega)]; rfl
    rw [e]
    by_cases hl : b ∈ l
    · rw [if_pos hl, if_neg (fun q => q.2 hl)]; rfl
    · rw [if_neg hl, if_pos ⟨hb, hl⟩]
      cases hq : h.objs[b]? with
      | none => rfl
      | some o => rfl
  · have e : ((Array.range (m + 1)).map fun b => if b ∈ l then freedO else (h.objs[b]?).getD freedO)[b]? = none := by
      rw [Array.getElem?_map, Array.getElem?_range, if_neg (by omega)]; rfl
    rw [e, if_neg (fun q => hb q.1)]
theorem hide_some {h : Heap} {l : List Addr} {m b : Nat} {o : Obj} (e : h.get? b = some o) (hb : b ≤ m) (hl : b ∉ l) : (hide h l m).get? b = some o := by rw [hide_at, if_pos ⟨hb, hl⟩]; exact e
theorem hide_sub {h : Heap} {l : List Addr} {m b : Nat} {o : Obj} (e : (hide h l m).get? b = some o) : h.get? b = some o ∧ b ≤ m ∧ b ∉ l := by
  rw [hide_at] at e
  split at e
  · exact ⟨e, by assumption⟩
  · cases e
theorem hide_size (h : Heap) (l : List Addr) (m : Nat) : (hide h l m).objs.size = m + 1 := by simp [hide]

/-! ## the world at the law's call -/
structure At3 (w : World) (s : Shared) (mg mb : Str → Option Value) (a : Addr) (vs : List Value) : Prop where
  inK : (K2 w.params).In s.heap
  g : s.heap.Ns mainGlobals mg
  b : s.heap.Ns builtinsNs mb
  bi : ∀ x : Str, x ≠ "__name__" → mb x = bootBuiltins x
  nl : s.heap.NoLimit
  bm : ∃ bm ob, BMod s.heap mainGlobals mg bm ob
  la : s.heap.get? a = some (lstO vs 0)
abbrev W3 (w : World) (s : Shared) (mg mb : Str → Option Value) (a : Addr) : Wd := ⟨PySem.Challenge.rw_xl0010_03.row.prog, w, hide s.heap [70] (max 145 a), mg, mb, 101, s.os, fun _ h P => TabAt 74 h P⟩
def notList : Value → Bool
  | .type "list" => false
  | _ => true
section
variable {w : World} {s : Shared} {mg mb : Str → Option Value} {a : Addr} {vs : List Value}
theorem At3.kb (X : At3 w s mg mb a vs) {f : Addr} {o : Obj} (e : s.heap.get? f = some o) (h1 : f ≤ 145) (h2 : f ≠ 70) (h3 : notList o.cls = true) : (W3 w s mg mb a).base.get? f = some o := by
  exact hide_some e (Nat.le_trans h1 (Nat.le_max_left ..)) fun q => h2 (List.mem_singleton.mp q)
theorem frag_ok (P : Params) : ((K39 P).all fun p => decide (p.1 ≤ 145) && (p.1 != 70) && notList p.2.cls) = true := by kernel_rfl
theorem look_all {P : Addr × Obj → Bool} : ∀ {K : Frag} {f : Addr} {o : Obj}, K.all P = true → K.lookup f = some o → P (f, o) = true
  | [], _, _, _, e => by cases e
  | (b, o') :: K, f, o, h, e => by
    rw [List.all_cons, Bool.and_eq_true] at h
    rw [List.lookup_cons] at e
    split at e
    · rename_i hb
      have hb : f = b := by simpa using hb
      subst hb; cases e; exact h.1
    · exact look_all h.2 e
theorem At3.k39 (X : At3 w s mg mb a vs) : (K39 w.params).In (W3 w s mg mb a).base := by
  intro f o e
  have h := look_all (frag_ok w.params) e
  simp only [Bool.and_eq_true, decide_eq_true_eq, bne_iff_ne] at h
  refine X.kb (X.inK f o ?_) h.1.1 h.1.2 h.2
  unfold K2
  exact lookup_append_some e
theorem At3.dict (X : At3 w s mg mb a vs) {c : Addr} {m : Str → Option Value} (hc : c ≤ 69) (n : s.heap.Ns c m) : (W3 w s mg mb a).base.Ns c m := by
  obtain ⟨o, es, ep, e, r, q⟩ := n
  refine ⟨o, es, ep, hide_some e (Nat.le_trans (Nat.le_trans hc (by decide)) (Nat.le_max_left ..)) fun q => ?_, r, q⟩
  rw [List.mem_singleton.mp q] at hc; exact absurd hc (by decide)
theorem At3.ne70 (X : At3 w s mg mb a vs) : (70 : Addr) ≠ a := fun q => by
  have h := X.la
  rw [← q, X.inK 70 _ rfl] at h
  cases h
theorem At3.baseA (X : At3 w s mg mb a vs) : (W3 w s mg mb a).base.get? a = some (lstO vs 0) := hide_some X.la (Nat.le_max_right ..) fun q => X.ne70 (List.mem_singleton.mp q).symm
theorem At3.ok (X : At3 w s mg mb a vs) : WdMore (W3 w s mg mb a) where
  g := X.dict (by decide) X.g
  b := X.dict (by decide) X.b
  bi := X.bi
  nolimit := by
    obtain ⟨mc, n, e⟩ := X.nl
    exact ⟨mc, X.dict (by decide) n, e⟩
  tabKeep := by
    rintro i h h' P x k ks
    obtain ⟨ps, hc, ⟨o, vs, e, hcl, hd, e11⟩, t⟩ := id x
    exact x.at (fun o' e' => ks _ _ (.inr (by rw [e] at e'; cases e'; exact ⟨hcl, vs, hd⟩)) e') (fun o' => k o')
  tabCls := by
    rintro i h P ⟨ps, _, _, t⟩
    exact ⟨ps, t⟩
  size := by
    intro h hk
    rw [show (W3 w s mg mb a).base.objs.size = max 145 a + 1 from hide_size ..]
    have : ∃ o, (W3 w s mg mb a).base.get? 145 = some o := ⟨_, X.k39 145 _ rfl⟩
    obtain ⟨o, e⟩ := this
    have h1 := Heap.lt_size (hk _ _ e)
    have h2 := Heap.lt_size (hk _ _ X.baseA)
    exact Nat.succ_le_of_lt (Nat.max_lt.mpr ⟨h1, h2⟩)
end
end Mine
end

section
open PySem PySem.W PyProof.Rows
set_option Elab.async false
set_option maxRecDepth 100000
set_option linter.unusedVariables false
set_option maxHeartbeats 8000000
namespace Mine
def scOk (sc : Scope) : Bool := (!sc.isCoroutine) && (!sc.isGenerator) && (match sc.kind with | .function => true | _ => false) && sc.names.all fun x => match x.2 with | .cell => false | _ => true
structure FdIs (P : Params) (f : Addr) (st : Stmt) (ps : List Str) (fd : FuncData) : Prop where
  look : ∃ cl dt sl, (K39 P).lookup f = some ⟨cl, dt, .func fd, sl⟩
  body : fd.body = .stmts (fnBody st)
  scope : fd.scope = fnScope st
  chk : scOk (fnScope st) = true
  glob : fd.globals = mainGlobals
  bins : fd.builtins = builtinsNs
  code : ∃ c cl dt vs sl t, fd.code = .ref c ∧ (K39 P).lookup c = some ⟨cl, dt, .fields vs, sl⟩ ∧ vs[1]? = some (.str fd.qualname t)
  bind : ∀ vs : List Value, vs.length = ps.length → bindArgs fd ⟨vs, []⟩ = pure (ps.zip vs)
section
variable {w : World} {s : Shared} {mg mb : Str → Option Value} {a : Addr} {vs : List Value}
theorem At3.fn (X : At3 w s mg mb a vs) {f : Addr} {st : Stmt} {ps : List Str} {fd : FuncData} (F : FdIs w.params f st ps fd) : FnAt (W3 w s mg mb a) f fd ps (fnBody st) := by
  obtain ⟨cl, dt, sl, e⟩ := F.look
  obtain ⟨c, cl2, dt2, vs2, sl2, t, h1, h2, h3⟩ := F.code
  have hc := F.chk
  rw [← F.scope] at hc
  simp only [scOk, Bool.and_eq_true, Bool.not_eq_true'] at hc
  refine ⟨⟨_, X.k39 _ _ e, rfl⟩, F.body, ⟨c, _, vs2, t, h1, X.k39 _ _ h2, rfl, h3⟩, F.glob, F.bins, hc.1.1.1, hc.1.1.2, ?_, ?_, F.bind⟩
  · have := hc.1.2
    split at this
    · assumption
    · cases this
  · intro x hx e
    have := List.all_eq_true.mp hc.2 x hx
    rw [e] at this
    cases this
noncomputable def es3 (P : Params) : Array DictEntry := match (K39 P).lookup 3 with
  | some ⟨_, _, .dict es _, _⟩ => es
  | _ => #[]
theorem At3.mgv (X : At3 w s mg mb a vs) (x : Str) : mg x = nsFind (es3 w.params) x := by
  obtain ⟨o, es, ep, e, hd, _, hf⟩ := X.dict (c := 3) (by decide) X.g
  have h := X.k39 3 _ rfl
  rw [e] at h; cases h; cases hd
  exact (hf x).symm
abbrev selfNm : List Str := [Str.ofString "self"]
variable {P : Params}
structure FdB (P : Params) (f : Addr) (st : Stmt) (ps : List Str) (fd : FuncData) : Prop where
  look : ∃ cl dt sl, (K39 P).lookup f = some ⟨cl, dt, .func fd, sl⟩
  body : fd.body = .stmts (fnBody st)
  scope : fd.scope = fnScope st
  chk : scOk (fnScope st) = true
  glob : fd.globals = mainGlobals
  bins : fd.builtins = builtinsNs
  code : ∃ c cl dt vs sl t, fd.code = .ref c ∧ (K39 P).lookup c = some ⟨cl, dt, .fields vs, sl⟩ ∧ vs[1]? = some (.str fd.qualname t)
  bind : ∀ vs : List Value, vs.length = ps.length → ∀ S, peek (K39 P) S (bindArgs fd ⟨vs, []⟩) = some (ps.zip vs)
theorem At3.fnB (X : At3 w s mg mb a vs) {f : Addr} {st : Stmt} {ps : List Str} {fd : FuncData} (F : FdB w.params f st ps fd) : FnAtB (W3 w s mg mb a) f fd ps (fnBody st) := by
  obtain ⟨cl, dt, sl, e⟩ := F.look
  obtain ⟨c, cl2, dt2, vs2, sl2, t, h1, h2, h3⟩ := F.code
  have hc := F.chk
  rw [← F.scope] at hc
  simp only [scOk, Bool.and_eq_true, Bool.not_eq_true'] at hc
  refine ⟨⟨_, X.k39 _ _ e, rfl⟩, F.body, ⟨c, _, vs2, t, h1, X.k39 _ _ h2, rfl, h3⟩, F.glob, F.bins, hc.1.1.1, hc.1.1.2, ?_, ?_, fun s' k vs h => kp_binds (X.k39.keeps k) (F.bind vs h)⟩
  · have := hc.1.2
    split at this
    · assumption
    · cases this
  · intro x hx e
    have := List.all_eq_true.mp hc.2 x hx
    rw [e] at this
    cases this
theorem fd_init : ∃ fd, FdB P 38 (stC 0) (initNm) fd := ⟨_, ⟨_, _, _, rfl⟩, rfl, rfl, by decide +kernel, rfl, rfl, ⟨_, _, _, _, _, _, rfl, rfl, rfl⟩, fun vs h S => by
  obtain ⟨x0, x1, rfl⟩ : ∃ x0 x1, vs = [x0, x1] := by
    match vs, h with
    | [x0, x1], _ => exact ⟨x0, x1, rfl⟩
  kernel_rfl⟩
theorem fd_push : ∃ fd, FdIs P 45 (stC 1) (pushNm) fd := ⟨_, ⟨_, _, _, rfl⟩, rfl, rfl, by decide +kernel, rfl, rfl, ⟨_, _, _, _, _, _, rfl, rfl, rfl⟩, fun vs h => by
  obtain ⟨x0, x1, x2, rfl⟩ : ∃ x0 x1 x2, vs = [x0, x1, x2] := by
    match vs, h with
    | [x0, x1, x2], _ => exact ⟨x0, x1, x2, rfl⟩
  rfl⟩
theorem fd_pop : ∃ fd, FdIs P 61 (stC 3) (selfNm) fd := ⟨_, ⟨_, _, _, rfl⟩, rfl, rfl, by decide +kernel, rfl, rfl, ⟨_, _, _, _, _, _, rfl, rfl, rfl⟩, fun vs h => by
  obtain ⟨x0, rfl⟩ : ∃ x0, vs = [x0] := by
    match vs, h with
    | [x0], _ => exact ⟨x0, rfl⟩
  rfl⟩
theorem fd_str : ∃ fd, FdIs P 75 (stC 5) (selfNm) fd := ⟨_, ⟨_, _, _, rfl⟩, rfl, rfl, by decide +kernel, rfl, rfl, ⟨_, _, _, _, _, _, rfl, rfl, rfl⟩, fun vs h => by
  obtain ⟨x0, rfl⟩ : ∃ x0, vs = [x0] := by
    match vs, h with
    | [x0], _ => exact ⟨x0, rfl⟩
  rfl⟩
theorem fd_count : ∃ fd, FdIs P 98 (stC 8) (selfNm) fd := ⟨_, ⟨_, _, _, rfl⟩, rfl, rfl, by decide +kernel, rfl, rfl, ⟨_, _, _, _, _, _, rfl, rfl, rfl⟩, fun vs h => by
  obtain ⟨x0, rfl⟩ : ∃ x0, vs = [x0] := by
    match vs, h with
    | [x0], _ => exact ⟨x0, rfl⟩
  rfl⟩
theorem fd_ap : ∃ fd, FdIs P 112 (stAt 5) (apNm.take 1) fd := ⟨_, ⟨_, _, _, rfl⟩, rfl, rfl, by decide +kernel, rfl, rfl, ⟨_, _, _, _, _, _, rfl, rfl, rfl⟩, fun vs h => by
  obtain ⟨x0, rfl⟩ : ∃ x0, vs = [x0] := by
    match vs, h with
    | [x0], _ => exact ⟨x0, rfl⟩
  rfl⟩
theorem fd_cost : ∃ fd, FdIs P 119 (stAt 10) (costNm) fd := ⟨_, ⟨_, _, _, rfl⟩, rfl, rfl, by decide +kernel, rfl, rfl, ⟨_, _, _, _, _, _, rfl, rfl, rfl⟩, fun vs h => by
  obtain ⟨x0, x1, rfl⟩ : ∃ x0 x1, vs = [x0, x1] := by
    match vs, h with
    | [x0, x1], _ => exact ⟨x0, x1, rfl⟩
  rfl⟩
theorem fd_lev : ∃ fd, FdIs P 126 (stAt 11) (levNm.take 3) fd := ⟨_, ⟨_, _, _, rfl⟩, rfl, rfl, by decide +kernel, rfl, rfl, ⟨_, _, _, _, _, _, rfl, rfl, rfl⟩, fun vs h => by
  obtain ⟨x0, x1, x2, rfl⟩ : ∃ x0 x1 x2, vs = [x0, x1, x2] := by
    match vs, h with
    | [x0, x1, x2], _ => exact ⟨x0, x1, x2, rfl⟩
  rfl⟩
theorem fd_step : ∃ fd, FdIs P 133 (stAt 13) (stepNm.take 5) fd := ⟨_, ⟨_, _, _, rfl⟩, rfl, rfl, by decide +kernel, rfl, rfl, ⟨_, _, _, _, _, _, rfl, rfl, rfl⟩, fun vs h => by
  obtain ⟨x0, x1, x2, x3, x4, rfl⟩ : ∃ x0 x1 x2 x3 x4, vs = [x0, x1, x2, x3, x4] := by
    match vs, h with
    | [x0, x1, x2, x3, x4], _ => exact ⟨x0, x1, x2, x3, x4, rfl⟩
  rfl⟩
theorem fd_read : ∃ fd, FdIs P 140 (stAt 14) (readNm.take 4) fd := ⟨_, ⟨_, _, _, rfl⟩, rfl, rfl, by decide +kernel, rfl, rfl, ⟨_, _, _, _, _, _, rfl, rfl, rfl⟩, fun vs h => by
  obtain ⟨x0, x1, x2, x3, rfl⟩ : ∃ x0 x1 x2 x3, vs = [x0, x1, x2, x3] := by
    match vs, h with
    | [x0, x1, x2, x3], _ => exact ⟨x0, x1, x2, x3, rfl⟩
  rfl⟩
end
end Mine
end

section
open PySem PySem.W PyProof.Rows
set_option Elab.async false
set_option maxRecDepth 100000
set_option linter.unusedVariables false
set_option maxHeartbeats 8000000
namespace Mine
section
variable {W : Wd} {h : Heap} {ρ : List Addr}
mutual
theorem Rel.bel : ∀ {a : AV} {v : Value}, Rel h ρ a v → a.bel ρ.length
  | _, _, .none => by simp [AV.bel]
  | _, _, .bool b => by simp [AV.bel]
  | _, _, .int i t => by simp [AV.bel]
  | _, _, .str i t => by simp [AV.bel]
  | _, _, .bytes i t => by simp [AV.bel]
  | _, _, .obj k a e => by simp only [AV.bel]; exact (List.getElem?_eq_some_iff.mp e).1
  | _, _, .tup l a vs n e r => by simp only [AV.bel]; exact RelL.bel r
theorem RelL.bel : ∀ {l : List AV} {vs : List Value}, RelL h ρ l vs → AV.belL ρ.length l
  | _, _, .nil => by simp [AV.belL]
  | _, _, .cons r rs => by simp only [AV.belL]; exact ⟨Rel.bel r, RelL.bel rs⟩
end
theorem AbsO.bel {os : List AO} {s : Shared} (H : AbsO W os ρ s) : ∀ o ∈ os, o.bel os.length := by
  intro o ho
  obtain ⟨k, hk, rfl⟩ := List.getElem_of_mem ho
  obtain ⟨a, _, h⟩ := H.objs k os[k] (List.getElem?_eq_getElem hk)
  rw [← H.len]
  cases hq : os[k] with
  | lst xs => rw [hq] at h; obtain ⟨vs, n, _, r⟩ := h; exact r.bel
  | acc xs dk => rw [hq] at h; obtain ⟨vs, n, d, _, hd, r⟩ := h; exact ⟨r.bel, (List.getElem?_eq_some_iff.mp hd).1⟩
  | idict i => simp [AO.bel]
  | edict => simp [AO.bel]
  | tab i => simp [AO.bel]
  | frz xs => rw [hq] at h; obtain ⟨vs, _, r⟩ := h; exact r.bel
end
theorem CallV.cutOf {W : Wd} {n : Nat} {f : Value} {avs : List AV} {os : List AO} {K : AV → List AO → Prop} (h : CallV W n f avs os fun a os' => a.bel os.length ∧ (∃ r, os' = os ++ r) ∧ K a os) : CallV W n f avs os K := by
  intro A s ρ vs R H hr
  refine CallV.cut (K := K) (fun A s ρ vs R H hr => wpAny_mono (h A s ρ vs R H hr) (fun v s₁ h₁ => ?_) fun _ _ x => x) A s ρ vs R H hr
  obtain ⟨ρ', av, os', H', T', R', b1, ⟨r, rfl⟩, k⟩ := h₁
  have e : (os ++ r).take os.length = os := by simp
  exact ⟨ρ', av, _, H', T', R', b1, by rw [e]; exact H.bel, by rw [e]; exact k⟩
end Mine
end

section
open PySem PySem.W PyProof.Rows
set_option Elab.async false
set_option maxRecDepth 100000
set_option linter.unusedVariables false
set_option maxHeartbeats 8000000
namespace Mine
theorem nm_cost : NmOk (fnScope (stAt 10)) costNm [] costGn := ⟨by decide +kernel, by decide +kernel, by decide +kernel, by decide +kernel⟩
theorem nm_lev : NmOk (fnScope (stAt 11)) (levNm.take 3) (levNm.drop 3) levGn := ⟨by decide +kernel, by decide +kernel, by decide +kernel, by decide +kernel⟩
theorem nm_ap : NmOk (fnScope (stAt 5)) (apNm.take 1) (apNm.drop 1) apGn := ⟨by decide +kernel, by decide +kernel, by decide +kernel, by decide +kernel⟩
theorem nm_step : NmOk (fnScope (stAt 13)) (stepNm.take 5) (stepNm.drop 5) [] := ⟨by decide +kernel, by decide +kernel, by decide +kernel, by decide +kernel⟩
theorem nm_read : NmOk (fnScope (stAt 14)) (readNm.take 4) (readNm.drop 4) readGn := ⟨by decide +kernel, by decide +kernel, by decide +kernel, by decide +kernel⟩
theorem nm_init : NmOk (fnScope (stC 0)) initNm [] [] := ⟨by decide +kernel, by decide +kernel, by decide +kernel, by decide +kernel⟩
theorem nm_push : NmOk (fnScope (stC 1)) pushNm [] [] := ⟨by decide +kernel, by decide +kernel, by decide +kernel, by decide +kernel⟩
theorem nm_pop : NmOk (fnScope (stC 3)) selfNm [] [] := ⟨by decide +kernel, by decide +kernel, by decide +kernel, by decide +kernel⟩
theorem nm_str : NmOk (fnScope (stC 5)) selfNm [] strGn := ⟨by decide +kernel, by decide +kernel, by decide +kernel, by decide +kernel⟩
theorem nm_count : NmOk (fnScope (stC 8)) selfNm [] [] := ⟨by decide +kernel, by decide +kernel, by decide +kernel, by decide +kernel⟩
section
variable {w : World} {s : Shared} {mg mb : Str → Option Value} {a : Addr} {vs : List Value}
theorem At3.cls (X : At3 w s mg mb a vs) : AccCls (W3 w s mg mb a) (K39 w.params) where
  inK := X.k39
  hga := by kernel_rfl
  hgt := by kernel_rfl
  sub := by kernel_rfl
  nomod := by kernel_rfl
  cls := ⟨_, _, _, rfl, by decide +kernel⟩
theorem c_cost (X : At3 w s mg mb a vs) {n : Nat} {os : List AO} {K : AV → List AO → Prop} {x y : Nat} (hx : okCh x) (hy : okCh y) (h : K (.int (subCost x y)) os) : CallV (W3 w s mg mb a) (n + 1) (.ref 119) [.str [x], .str [y]] os K := by
  obtain ⟨fd, F⟩ := fd_cost (P := w.params)
  have ok : ∀ c, okCh c → (lowerL [c]).length ≤ 16777216 := by
    rintro c (rfl | rfl | rfl | rfl) <;> decide +kernel
  refine call_def' X.ok (X.fn F) (by rw [F.scope]; exact nm_cost) (rfl : _ = costNm) rfl rfl fun L A Z => ?_
  refine cost_walk X.ok.toWdOk Z (t1 := 311) (t2 := 309) (.own ((X.mgv _).trans (by kernel_rfl))) (.own ((X.mgv _).trans (by kernel_rfl))) (ok x hx) (ok y hy) h
end
end Mine
end

section
open PySem PySem.W PyProof.Rows
set_option Elab.async false
set_option maxRecDepth 100000
set_option linter.unusedVariables false
set_option maxHeartbeats 8000000
namespace Mine
section
variable {w : World} {s : Shared} {mg mb : Str → Option Value} {a : Addr} {vs : List Value} {n : Nat} {os : List AO} {K : AV → List AO → Prop}
theorem At3.none (X : At3 w s mg mb a vs) (x : Str) (h : nsFind (es3 w.params) x = none) : (W3 w s mg mb a).mg x = none := (X.mgv x).trans h
theorem At3.own (X : At3 w s mg mb a vs) (x : Str) {v : Value} (h : nsFind (es3 w.params) x = some v) : GlobIs (W3 w s mg mb a) x v := .own ((X.mgv x).trans h)
theorem c_ap (X : At3 w s mg mb a vs) {i : Int} (hi : i.natAbs < 2 ^ 60) (h : K (.bytes (apL i.natAbs)) os) : CallV (W3 w s mg mb a) (n + 1) (.ref 112) [.int i] os K := by
  obtain ⟨fd, F⟩ := fd_ap (P := w.params)
  refine call_def' X.ok (X.fn F) (by rw [F.scope]; exact nm_ap) (rfl : _ = apNm) rfl rfl fun L A Z => ?_
  exact ap_walk X.ok.toWdOk Z (X.none _ (by kernel_rfl)) (X.none _ (by kernel_rfl)) (X.none _ (by kernel_rfl)) hi fun _ => h
theorem c_step (X : At3 w s mg mb a vs) {k : Nat} {p q r t : Int} (h : K (tupOf (lawStep k (p, q, r, t))) os) : CallV (W3 w s mg mb a) (n + 1) (.ref 133) [.int k, .int p, .int q, .int r, .int t] os K := by
  obtain ⟨fd, F⟩ := fd_step (P := w.params)
  refine call_def' X.ok (X.fn F) (by rw [F.scope]; exact nm_step) (rfl : _ = stepNm) rfl rfl fun L A Z => ?_
  exact step_walk X.ok.toWdOk Z fun _ => h
theorem c_read (X : At3 w s mg mb a vs) {u : List Nat} {p q r t : Int} (hR : Red u) (hm : matR u = (p, q, r, t)) (hl : u.length ≤ 16) (h : K (.str (txt u)) os) : CallVT (W3 w s mg mb a) (n + 1) (.ref 140) [.int p, .int q, .int r, .int t] os K := by
  obtain ⟨fd, F⟩ := fd_read (P := w.params)
  refine call_defT X.ok (X.fn F) (by rw [F.scope]; exact nm_read) (rfl : _ = readNm) rfl rfl (by decide) fun L A Z => ?_
  exact read_walk X.ok.toWdOk Z hR hm hl (X.none _ (by kernel_rfl)) (X.none _ (by kernel_rfl)) fun _ => h
theorem c_push (X : At3 w s mg mb a vs) {k dk : Nat} {xs : List AV} {i : Int} {x y : AV} (hacc : IsAcc os k xs dk i) (hl : xs.length ≤ 1000) (h : K .none (os.set k (.acc (xs ++ [.tup [x, y]]) dk))) : CallV (W3 w s mg mb a) (n + 1) (.ref 45) [.obj k, x, y] os K := by
  obtain ⟨fd, F⟩ := fd_push (P := w.params)
  refine call_def' X.ok (X.fn F) (by rw [F.scope]; exact nm_push) (rfl : _ = pushNm) rfl rfl fun L A Z => ?_
  exact push_walk X.ok.toWdOk X.cls Z hacc (.bi (by kernel_rfl) ty_append (by decide +kernel)) (by omega) fun _ => h
end
end Mine
end

section
open PySem PySem.W PyProof.Rows
set_option Elab.async false
set_option maxRecDepth 100000
set_option linter.unusedVariables false
set_option maxHeartbeats 8000000
namespace Mine
section
variable {w : World} {s : Shared} {mg mb : Str → Option Value} {a : Addr} {vs : List Value} {n : Nat} {os : List AO} {K : AV → List AO → Prop}
theorem c_lev (X : At3 w s mg mb a vs) {x y : List Nat} {m : Int} (lx : x.length ≤ 100) (ly : y.length ≤ 100) (hx : ∀ c ∈ x, okCh c) (hy : ∀ c ∈ y, okCh c) (h : K (.int (levP x y m)) os) : CallV (W3 w s mg mb a) (n + 2) (.ref 126) [.str x, .str y, .int m] os K := by
  obtain ⟨fd, F⟩ := fd_lev (P := w.params)
  obtain ⟨fc, Fc⟩ := fd_cost (P := w.params)
  refine CallV.cutOf ?_
  refine call_def' X.ok (X.fn F) (by rw [F.scope]; exact nm_lev) (rfl : _ = levNm) rfl rfl fun L A Z => ?_
  have O := X.ok.toWdOk
  have fin : ∀ os', AV.bel os.length (.int (levP x y m)) ∧ (∃ r, os ++ os' = os ++ r) ∧ K (.int (levP x y m)) os := fun os' => ⟨by simp [AV.bel], ⟨os', rfl⟩, h⟩
  have fin0 : AV.bel os.length (.int (levP x y m)) ∧ (∃ r, os = os ++ r) ∧ K (.int (levP x y m)) os := ⟨by simp [AV.bel], ⟨[], by simp⟩, h⟩
  refine lev1 O Z (by omega) (by omega) (fun e => ?_) (fun e o1 o2 => ?_)
  · have e0 : levP x y m = 0 := by rw [levP, if_pos e]
    rw [e0] at fin0
    exact fin0
  · have e0 : levP x y m = levMid (cutPost (cutPre x y) (cutPre y x)) (cutPost (cutPre y x) (cutPre x y)) m := by rw [levP, if_neg e]
    have mem : ∀ (u v z : List Nat), ∀ c ∈ cutPost (cutPre u v) z, c ∈ u := fun u v z c hc => List.mem_of_mem_drop (List.mem_of_mem_take hc)
    have len : ∀ (u v z : List Nat), (cutPost (cutPre u v) z).length ≤ u.length := fun u v z => by unfold cutPost cutPre; simp; omega
    rw [e0] at fin fin0
    refine lev2 O Z (t1 := 307) (t2 := 309) (X.own _ (by kernel_rfl)) (X.own _ (by kernel_rfl)) (X.none _ (by kernel_rfl)) (by have := len x y (cutPre y x); omega) (by have := len y x (cutPre x y); omega) (fun _ => fin0) (P := okCh)
      (fun c hc => hx c (mem _ _ _ c hc)) (fun c hc => hy c (mem _ _ _ c hc)) fun a' b' pa pb hab hb ha e1 => ?_
    rw [e1] at fin
    exact lev3 O Z (t1 := 311) (t2 := 309) (X.own _ (by kernel_rfl)) (X.own _ (by kernel_rfl)) (X.fn Fc).keep pa pb (fun p q os K h1 h2 h3 => c_cost X h1 h2 h3) (X.none _ (by kernel_rfl)) (X.none _ (by kernel_rfl)) (X.none _ (by kernel_rfl)) (X.none _ (by kernel_rfl)) hab hb ha fun _ os' => fin os'
end
end Mine
end

section
open PySem PySem.W PyProof.Rows
set_option Elab.async false
set_option maxRecDepth 100000
set_option linter.unusedVariables false
set_option maxHeartbeats 8000000
namespace Mine
def fdLook (K : Frag) (f : Addr) : Option FuncData := match K.lookup f with
  | some ⟨_, _, .func fd, _⟩ => some fd
  | _ => none
structure SupD (P : Params) (f : Addr) (fd : FuncData) (cda : Addr) : Prop where
  fn : ∃ oc od osl ar, (K39 P).lookup f = some ⟨oc, od, .func fd, osl⟩ ∧ (fd.params.posonlyargs ++ fd.params.args).head? = some ar ∧ ar.arg = Str.ofString "self"
  clo : fd.closure = [(Str.ofString "__class__", 25)]
  code : fd.code = .ref cda
  obj : ∃ ccl cdd vs ccs file tf, (K39 P).lookup cda = some ⟨ccl, cdd, .fields vs, ccs⟩ ∧ vs[2]? = some (.str file tf) ∧ ((PySem.Challenge.rw_xl0010_03.row.prog.main.file : Str) == file) = true
theorem fd_uniq {P : Params} {f : Addr} {fd : FuncData} (h : ∃ cl dt sl, (K39 P).lookup f = some ⟨cl, dt, .func fd, sl⟩) : fdLook (K39 P) f = some fd := by
  obtain ⟨cl, dt, sl, e⟩ := h
  unfold fdLook; rw [e]
theorem sd_count {P : Params} {fd : FuncData} (h : fdLook (K39 P) 98 = some fd) : SupD P 98 fd 97 := by
  obtain rfl := Option.some.inj (show some _ = some fd from h)
  exact ⟨⟨_, _, _, _, rfl, rfl, rfl⟩, rfl, rfl, ⟨_, _, _, _, _, _, rfl, rfl, by decide +kernel⟩⟩
theorem sd_pop {P : Params} {fd : FuncData} (h : fdLook (K39 P) 61 = some fd) : SupD P 61 fd 60 := by
  obtain rfl := Option.some.inj (show some _ = some fd from h)
  exact ⟨⟨_, _, _, _, rfl, rfl, rfl⟩, rfl, rfl, ⟨_, _, _, _, _, _, rfl, rfl, by decide +kernel⟩⟩
theorem sd_init {P : Params} {fd : FuncData} (h : fdLook (K39 P) 38 = some fd) : SupD P 38 fd 37 := by
  obtain rfl := Option.some.inj (show some _ = some fd from h)
  exact ⟨⟨_, _, _, _, rfl, rfl, rfl⟩, rfl, rfl, ⟨_, _, _, _, _, _, rfl, rfl, by decide +kernel⟩⟩
section
variable {w : World} {s : Shared} {mg mb : Str → Option Value} {a : Addr} {vs : List Value} {n : Nat} {os : List AO} {K : AV → List AO → Prop}
theorem sup_ok (X : At3 w s mg mb a vs) {f cda : Addr} {st : Stmt} {fd : FuncData} (hsc : fd.scope = fnScope st) (D : SupD w.params f fd cda) (h1 : (fnScope st).names.lookup (Str.ofString "super") = some .globalImplicit) (h2 : (fnScope st).names.lookup (Str.ofString "__class__") = some .free)
    {L : Addr} {nm gn : List Str} {A : Around} {p : Nat} : SupOk (W3 w s mg mb a) (K39 w.params) (fnEv fd f L nm gn A p) f cda 25 where
  hks := by show fd.scope.names.lookup _ = _; rw [hsc]; exact h1
  hkc := by show fd.scope.names.lookup _ = _; rw [hsc]; exact h2
  hfu := rfl
  fn := let ⟨a, b, c, d, e⟩ := D.fn; ⟨a, b, fd, c, d, e⟩
  hco := D.code
  code := D.obj
  cell := by show fd.closure.lookup _ = _; rw [D.clo]; rfl
  cellv := ⟨_, _, _, rfl⟩
  htop := by kernel_rfl
  hg := X.none _ (by kernel_rfl)
  third := by kernel_rfl
  sub := by kernel_rfl
theorem c_count (X : At3 w s mg mb a vs) {k dk : Nat} {xs : List AV} {i : Int} (hacc : IsAcc os k xs dk i) (h : K (.int xs.length) os) : CallV (W3 w s mg mb a) (n + 1) (.ref 98) [.obj k] os K := by
  obtain ⟨fd, F⟩ := fd_count (P := w.params)
  refine call_defAt X.ok (X.fn F) (by rw [F.scope]; exact nm_count) (rfl : _ = selfNm) rfl rfl fun L A Z => ?_
  exact count_walk X.ok.toWdOk X.cls Z (sup_ok X F.scope (sd_count (fd_uniq F.look)) (by decide +kernel) (by decide +kernel)) hacc (by kernel_rfl) fun _ => h
theorem c_pop (X : At3 w s mg mb a vs) {k dk : Nat} {xs : List AV} {i : Int} (hacc : IsAcc os k xs dk i) (hl : xs.length ≤ 1000) (h0 : xs = [] → K (.tup [.str [], .str []]) os) (h1 : ∀ ys b, xs = ys ++ [b] → K b (os.set k (.acc ys dk))) : CallV (W3 w s mg mb a) (n + 2) (.ref 61) [.obj k] os K := by
  obtain ⟨fd, F⟩ := fd_pop (P := w.params)
  obtain ⟨fc, Fc⟩ := fd_count (P := w.params)
  refine call_defAt X.ok (X.fn F) (by rw [F.scope]; exact nm_pop) (rfl : _ = selfNm) rfl rfl fun L A Z => ?_
  exact pop_walk X.ok.toWdOk X.cls Z (sup_ok X F.scope (sd_pop (fd_uniq F.look)) (by decide +kernel) (by decide +kernel)) hacc (by kernel_rfl) (by omega)
    (.fn (by kernel_rfl) (by kernel_rfl) (by decide +kernel)) (X.fn Fc).keep (fun K' h => c_count X hacc h) (fun e _ => h0 e) (fun ys b e _ => h1 ys b e)
theorem c_init (X : At3 w s mg mb a vs) {k dk : Nat} {i : Int} (hk : os[k]? = some (.acc [] dk)) (hd : os[dk]? = some .edict) (hkd : k ≠ dk) (h : K .none (os.set dk (.idict i))) : CallV (W3 w s mg mb a) (n + 1) (.ref 38) [.obj k, .int i] os K := by
  obtain ⟨fd, F⟩ := fd_init (P := w.params)
  refine call_defAtB X.ok (X.fnB F) (by rw [F.scope]; exact nm_init) (rfl : _ = initNm) rfl rfl fun L A Z => ?_
  exact init_walk X.ok.toWdOk X.cls Z (sup_ok X F.scope (sd_init (fd_uniq F.look)) (by decide +kernel) (by decide +kernel)) (cd := _) rfl rfl rfl (by kernel_rfl) (by kernel_rfl) hk hd hkd (by kernel_rfl) fun _ => h
theorem c_new (X : At3 w s mg mb a vs) {i : Int} (h : K (.obj (os.length + 1)) (os ++ [.idict i, .acc [] os.length])) : CallV (W3 w s mg mb a) (n + 2) (.ref 101) [.int i] os K := by
  refine V_new X.ok.toWdOk X.cls (fI := 38) (by kernel_rfl) (by kernel_rfl) (by kernel_rfl) ?_
  refine c_init X (i := i) (dk := os.length) ?_ ?_ (Nat.succ_ne_self _) ?_
  · rw [List.getElem?_append_right (Nat.le_succ _)]; simp
  · rw [List.getElem?_append_right (Nat.le_refl _)]; simp
  · refine ⟨rfl, ?_⟩
    have e : (os ++ [AO.edict, .acc [] os.length]).set os.length (.idict i) = os ++ [.idict i, .acc [] os.length] := by simp
    rw [e]; exact h
end
end Mine
end

section
open PySem PySem.W PyProof.Rows
set_option Elab.async false
set_option maxRecDepth 100000
set_option linter.unusedVariables false
set_option maxHeartbeats 8000000
namespace Mine
theorem sd_str {P : Params} {fd : FuncData} (h : fdLook (K39 P) 75 = some fd) : fd.code = .ref 74 := by
  obtain rfl := Option.some.inj (show some _ = some fd from h)
  rfl
section
variable {w : World} {s : Shared} {mg mb : Str → Option Value} {a : Addr} {vs : List Value} {n : Nat} {os : List AO} {K : AV → List AO → Prop}
theorem At3.bm' (X : At3 w s mg mb a vs) : ∃ bm ob, BMod (W3 w s mg mb a).base mainGlobals mg bm ob := by
  obtain ⟨bm, ob, M⟩ := X.bm
  have e : mg "__builtins__" = some (.ref 4) := (X.mgv _).trans (by kernel_rfl)
  have hb : bm = 4 := by have := M.name; rw [e] at this; cases this; rfl
  subst hb
  exact ⟨4, ob, X.dict (by decide) M.ns, M.name, M.ne, X.kb M.obj (by decide) (by decide) (by rw [M.cls]; rfl), M.cls, M.dict, M.data⟩
theorem c_str (X : At3 w s mg mb a vs) {kt k dk : Nat} {ps : List (List Nat × List Nat)} {i : Int} (hkt : os[kt]? = some (.tab 0)) (hacc : IsAcc os k (ps.map pairAV) dk i) (hl : ps.length ≤ 100) (hls : ∀ p ∈ ps, p.1.length ≤ 400 ∧ p.2.length ≤ 400)
    (h : K (.str (ps.map fun p => p.1 ++ p.2).flatten) os) : CallV (W3 w s mg mb a) (n + 2) (.type "str") [.obj k] os K := by
  obtain ⟨fd, F⟩ := fd_str (P := w.params)
  refine V_strof X.cls (fs := 75) hacc (by kernel_rfl) (by kernel_rfl) ?_
  refine call_def X.ok (X.fn F) (rest := []) (by rw [F.scope]; exact nm_str) rfl fun L A Z => ?_
  exact str_walk X.ok.toWdOk X.cls Z (cS := 74) (j := 0) ⟨fun _ _ => Iff.rfl, sd_str (fd_uniq F.look), X.bm'⟩ hkt hacc (by kernel_rfl) (t := 196) (X.own _ (by kernel_rfl)) (by omega) hls fun _ => ⟨_, rfl, h⟩
theorem con3 {s₀ : Shared} (X : At3 w s₀ mg mb a vs) {kt : Nat} : Con (W3 w s₀ mg mb a) (K39 w.params) 10 kt (.ref 101) (.ref 61) (.ref 45) (.ref 133) (.ref 140) (.ref 126) where
  gNew := X.own _ (by kernel_rfl)
  kNew := fun A os ρ s H => by
    obtain ⟨k, _, l⟩ := looks_keep (M := model (W3 w s₀ mg mb a).prog (W3 w s₀ mg mb a).w) (f := .ref 101) (K := K39 w.params) (by kernel_rfl) (X.k39.keeps H.keep)
    exact l.here rfl
  new := fun i os K' h => c_new X h
  mPop := .fn (by kernel_rfl) (by kernel_rfl) (by decide +kernel)
  kPop := by obtain ⟨fd, F⟩ := fd_pop (P := w.params); exact (X.fn F).keep
  pop := fun os k xs dk i K' h1 h2 h3 h4 => c_pop X h1 h2 h3 h4
  mPush := .fn (by kernel_rfl) (by kernel_rfl) (by decide +kernel)
  kPush := by obtain ⟨fd, F⟩ := fd_push (P := w.params); exact (X.fn F).keep
  push := fun os k xs dk i x y K' h1 h2 h3 => c_push X h1 h2 h3
  gStr := X.none _ (by kernel_rfl)
  str := fun os k ps dk i K' h1 h2 h3 h4 h5 => c_str X h1 h2 h3 h4 h5
  gStep := X.own _ (by kernel_rfl)
  kStep := by obtain ⟨fd, F⟩ := fd_step (P := w.params); exact (X.fn F).keep
  step := fun os k p q r t K' h => c_step X h
  gRead := X.own _ (by kernel_rfl)
  kRead := by obtain ⟨fd, F⟩ := fd_read (P := w.params); exact (X.fn F).keep
  read := fun os u p q r t K' h1 h2 h3 h4 => c_read X h1 h2 h3 h4
  gLev := X.own _ (by kernel_rfl)
  kLev := by obtain ⟨fd, F⟩ := fd_lev (P := w.params); exact (X.fn F).keep
  lev := fun os x y m K' h1 h2 h3 h4 h5 => c_lev X h1 h2 h3 h4 h5
end
end Mine
end

section
open PySem PySem.W PyProof.Rows
set_option Elab.async false
set_option maxRecDepth 100000
set_option linter.unusedVariables false
set_option maxHeartbeats 8000000
namespace Mine
theorem law_goes {w : World} {s₁ : Shared} {mg mb : Str → Option Value} {a : Addr} {vs : List Value} {xs : List Int} (X : At3 w s₁ mg mb a vs) (hI : IntsAre vs xs) (hg : s₁.gens = #[]) {env : Env} {m : Str → Option Value} {h₁ : Heap} {L tk : Nat}
    (hsc : env.scope = fnScope (stAt 15)) (hgl : env.globals = mainGlobals) (hbi : env.builtins = builtinsNs) (hL : env.locals = L) (F : Fr s₁.heap L h₁ m) (hm : m (Str.ofString "script") = some (.ref a)) :
    wpAny (model PySem.Challenge.rw_xl0010_03.row.prog w) (callerA.deeper env) (execs lawBody env) (fun f s' => f = .ret (.bool true) ∧ OldK s₁.heap s'.heap ∧ s'.os = s₁.os ∧ AllBare s'.gens) NoE { heap := h₁, gens := s₁.gens, drawn := s₁.drawn, toks := tk, os := s₁.os } := by
  have Z : EvOk (lawEv env (callerA.deeper env) 2) 10 := by
    refine ⟨by rw [hsc]; rfl, ?_, (show lawNm.Nodup by decide +kernel), hgl, hbi, ?_, (fun _ h => nomatch h), List.nodup_nil, ⟨rfl, ?_, ?_⟩, (show ∀ x ∈ lawNm ++ lawGn ++ [], (x == ("__debug__" : Str)) = false by decide +kernel)⟩
    · show ∀ x ∈ lawNm, env.scope.names.lookup x = some .local
      rw [hsc]; decide +kernel
    · show ∀ x ∈ lawGn, env.scope.names.lookup x = some .globalImplicit
      rw [hsc]; decide +kernel
    · show callerA.depth + 1 + 10 < _
      decide +kernel
    · show callerA.units + 3 + 10 * 10 + 20 < _
      decide +kernel
  have O := X.ok
  have hP : s₁.heap.get? 70 = some { cls := .none, data := .fields #[] } := X.inK 70 _ rfl
  have hne : (70 : Addr) ≠ a := X.ne70
  have h74 := X.inK 74 _ rfl
  have hT : TabAt 74 s₁.heap 70 := ⟨#[], ⟨_, _, _, _, _, _, _, _, _, _, h74, rfl, rfl, rfl, rfl, rfl, rfl, hP, rfl, by trivial, by decide⟩, ⟨⟨_, _, h74, rfl, rfl, rfl⟩, hP⟩⟩
  have hT1 : TabAt 74 h₁ 70 := hT.at (F.keep _) (F.keep _)
  have hla1 := F.keep _ _ X.la
  have hsz : 146 ≤ s₁.heap.objs.size := Heap.lt_size (X.inK 145 _ rfl)
  have hal := Heap.lt_size X.la
  have hab := F.above
  have hri : RelL h₁ [70, a] (xs.map AV.int) vs := by
    clear hla1 hal X hm
    induction hI with
    | nil => exact .nil
    | cons _ _ _ ih => exact .cons (.int _ _) ih
  have H0 : AbsO (W3 w s₁ mg mb a) [.tab 0, .frz (xs.map AV.int)] [70, a] { heap := h₁, gens := s₁.gens, drawn := s₁.drawn, toks := tk, os := s₁.os } := by
    refine ⟨fun b o e => F.keep b o (hide_sub e).1, by simp [hne], rfl, fun k b hb => ?_, fun k o e => ?_, by rw [hg]; exact fun _ h => by simp at h, rfl⟩
    · match k, hb with
      | 0, hb =>
        cases hb
        refine .inl ?_
        show (hide _ _ _).get? 70 = none
        rw [hide_at, if_neg (fun q => q.2 (.head _))]
      | 1, hb => exact .inr ⟨_, rfl⟩
    · match k, e with
      | 0, e => cases e; exact ⟨70, rfl, hT1⟩
      | 1, e => cases e; exact ⟨a, rfl, _, hla1, hri⟩
  have HF : FrameIs (W3 w s₁ mg mb a) (lawEv env (callerA.deeper env) 2) (some (.obj 1) :: List.replicate 16 none) [] [70, a] h₁ := by
    refine ⟨⟨m, ⟨by rw [hL]; exact F.ns, fun b o e => F.keep b o (hide_sub e).1, ?_⟩, locals_of fun i x av e1 e2 => ?_⟩, trivial, fun b hb => ?_, fun _ h => nomatch h⟩
    · rw [show (W3 w s₁ mg mb a).base.objs.size = max 145 a + 1 from hide_size .., show (lawEv env (callerA.deeper env) 2).env.locals = L from hL]
      exact Nat.le_trans (Nat.succ_le_of_lt (Nat.max_lt.mpr ⟨hsz, hal⟩)) hab
    · match i, e1, e2 with
      | 0, e1, e2 => cases e1; cases e2; exact ⟨_, hm, .obj _ _ rfl⟩
      | i + 1, e1, e2 =>
        rw [List.getElem?_cons_succ, List.getElem?_replicate] at e2
        split at e2 <;> cases e2
    · have hb : b = L := by have := List.mem_singleton.mp hb; rw [this]; exact hL
      subst hb
      intro q
      rcases List.mem_cons.mp q with q | q
      · rw [q] at hab; exact absurd (Nat.le_trans hsz hab) (by decide)
      · rw [List.mem_singleton.mp q] at hab; exact absurd (Nat.lt_of_lt_of_le hal hab) (Nat.lt_irrefl _)
  have hw := law_walk (K := fun f σ => f = .ret (.bool true) ∧ σ.os[0]? = some (.tab 0)) O.toWdOk Z X.cls (con3 X (kt := 0)) (by decide) (X.none _ (by kernel_rfl)) (X.none _ (by kernel_rfl)) (X.own _ (by kernel_rfl) : GlobIs _ _ (.ref 112)) (by obtain ⟨fd, F⟩ := fd_ap (P := w.params); exact (X.fn F).keep)
    (fun i os K h1 h2 => c_ap X h1 h2) (os := [.tab 0, .frz (xs.map AV.int)]) (sk := 1) (xs := xs) rfl rfl lev_fact (fun _ h => ⟨rfl, h⟩)
  refine wpAny_mono (hw _ _ ⟨H0, HF, Nat.le_refl _⟩) (fun f s' h => ?_) fun _ _ h => h
  obtain ⟨ρ', af, σ', H', T', R, k⟩ := h
  obtain ⟨rfl, hk0⟩ := k
  refine ⟨by cases R with | ret _ v r => cases r; rfl, ?_, H'.1.os, H'.1.gens⟩
  have hk : ∀ b o, b ≠ 70 → s₁.heap.get? b = some o → s'.heap.get? b = some o := fun b o hb e => by
    by_cases hba : b = a
    · subst hba
      rw [X.la] at e; cases e
      exact H'.1.keep _ _ X.baseA
    · refine T'.kept b o (fun q => ?_) (by simp [hb, hba]) (F.keep _ _ e)
      have hbL : b = L := by have := List.mem_singleton.mp q; rw [this]; exact hL
      have h1 := Heap.lt_size e
      rw [hbL] at h1
      exact absurd (Nat.lt_of_lt_of_le h1 hab) (Nat.lt_irrefl _)
  have h70 : ∃ ps : Array Value, s'.heap.get? 70 = some { cls := .none, data := .fields ps } := by
    have hq : ρ'.take 2 = [70, a] := T'.pre
    obtain ⟨b, hb, hT'⟩ := H'.1.objs 0 _ hk0
    have : b = 70 := by
      have := congrArg (fun l : List Addr => l[0]?) hq
      simp only [List.getElem?_take_of_lt (show 0 < 2 by decide)] at this
      rw [hb] at this; simpa using this
    subst this
    obtain ⟨ps, _, t⟩ := hT'
    exact ⟨ps, t.2⟩
  obtain ⟨ps, h70⟩ := h70
  refine ⟨fun b o e => ?_, fun b o e => ?_⟩
  · by_cases hb : b = 70
    · subst hb
      rw [hP] at e; cases e
      have hTab : s₁.heap.TableAt 74 70 #[] := ⟨⟨_, _, h74, rfl, rfl, rfl⟩, hP⟩
      exact .inr (.inl ⟨hTab.isCodeTable, rfl, #[], ps, rfl, by simpa using h70⟩)
    · exact .inl (hk b o hb e)
  · by_cases hb : b = 70
    · subst hb; exact ⟨_, h70⟩
    · exact ⟨o, hk b o hb e⟩
end Mine
end

section
open PySem PySem.W PyProof.Rows
set_option Elab.async false
set_option maxRecDepth 100000
set_option linter.unusedVariables false
set_option maxHeartbeats 8000000
namespace Mine
theorem list_at {P : Params} {h : Heap} {a : Addr} {xs : List Int} {vs : List Value} (w : Well P h (.ref a) (ofPy (PyData.list (xs.map .int)))) (l : h.IsList a vs.toArray) : h.get? a = some (lstO vs 0) := by
  generalize hd : ofPy (PyData.list (xs.map .int)) = d at w
  simp only [ofPy] at hd
  subst hd
  cases w with
  | list e _ =>
    obtain ⟨o, e', _, n, hd⟩ := l
    rw [e] at e'; cases e'
    injection hd with hd _
    rw [e, hd]
def q3 : Program := { PySem.Challenge.pw_xl0010_03 with main := { PySem.Challenge.pw_xl0010_03.main with body := [stAt 0, stAt 2, stAt 5, stAt 7, stAt 8, stAt 9, stAt 10, stAt 11, stAt 12, stAt 13, stAt 14, stAt 15] } }
noncomputable abbrev H3 : Hook := kHook K2 as2 (fun _ => by kernel_rfl)
theorem cw03 : PySem.Challenge.rw_xl0010_03.Holds := by
  w_on; o_law
  refine holds_open (q := q3) (loose := [Str.ofString "_Accumulator"]) (Xt := fun s => xlAt q3 [] s && recOk (RowW.records PySem.Challenge.rw_xl0010_03.row.toRowW) s) (XP := XL q3 []) (Yf := Hook.obs H3) (Ya := Hook.val H3) (YP := Hook.says H3) (N := 1730) ?hl (Hook.of H3) (Hook.keeps H3) (fun s e => xl_of s (Bool.and_eq_true_iff.mp e).1) XL.keeps (by rfl) (by rfl) (by rfl)
    (fun s e => recFacts_of (Bool.and_eq_true_iff.mp e).2) (by rfl) (by first | assumption | decide +kernel) (by decide +kernel) ⟨rfl, rfl, rfl, rfl, rfl, by decide +kernel⟩ ?hw ?hc
  (case hl => intro w; kernel_rfl)
  (case hw => w_witness2)
  intro w s₀ s₁ mg mb G Y fa o pm cd doc dV kV ho hd hcd hD hmg hg args vals as hpre hlay hrd hwl hlo
  have KX := kIn_of Y
  have X := (Ground.X G).1
  have V := (Ground.X G).2
  refine Ground.open G ?_
  intro T B D TE TW
  obtain ⟨bm, ob, M⟩ := bmod_of_top T
  have TA := at_of_top T
  wrow_args hpre hlay hrd hwl hlo
  refine enter_call ?_
  have K0 := below_caller (Top.heap T)
  w_call any ho hd hcd hD T F
  rename_i xs hs hlay0 hL1 hr1 hl2 as1 as2' al vs as3 hLL ra w1 r0 hI hr2 hc1 hc2 h₁ N0
  have hla : s₁.heap.get? al = some (lstO vs 0) := list_at w1 hLL
  have X : At3 w s₁ mg mb al vs := ⟨KX, T.g, T.b, T.builtins, T.nolimit, ⟨bm, ob, M⟩, hla⟩
  refine wpAny_mono (law_goes X hI hg rfl rfl rfl rfl F rfl) (fun f s' e => ?_) fun _ _ e => e.elim
  obtain ⟨rfl, h1, h2, h3⟩ := e
  refine ⟨.inl ⟨_, .bool true, [], rfl, fun _ => rfl, .bool _, ?_, fun _ => ⟨List.nodup_nil, fun _ h => nomatch h⟩⟩, h1, h2, h3⟩
  exact postW_of (by o_shape) (by wtm_val) (by w_fin)
end Mine
end

set_option maxRecDepth 100000
theorem PySem.Challenge.cw_xl0010_03_holds : PySem.Challenge.rw_xl0010_03.Holds :=
  Mine.cw03
